import Derived.Test.YteenhipldfdkaaaPw
import Derived.Test.YteenhipldfdkaaaPx6
namespace Go.Proofs.Yteenhipldfdkaaa.P
open Go.RowKit Go.Proofs.YteenhipldfdkaaaW.PrintWords Go.Proofs.YteenhipldfdkaaaW.PrintLast Go.Proofs.YteenhipldfdkaaaW.PrintMore
set_option linter.unusedVariables false
set_option linter.unusedSimpArgs false
set_option maxRecDepth 100000
set_option maxHeartbeats 2000000

theorem classes_loop (all : List HLn) (hall : all.length ≤ 1000000) (hok : ∀ x ∈ all, HOk x ∧ x.tail.length ≤ 100000 ∧ x.pad ≤ 1000) (A B : List UInt8) (hA : A.length ≤ 1000) (hB : B.length ≤ 1000) : ∀ (d n : Nat), n + d = all.length →
    Ev (fun k => laws_FnListsClasses.l0 k (S A) (S B) (lns A all) (lns B all) ((lns A all).length : Int) (n : Int)) true
  | 0, n, h => Ev.step (fun k => laws_FnListsClasses.l0.eq_2 _ _ _ _ _ _ k) (ev_neg (by rw [lns_len]; omega) (Ev.now _))
  | d + 1, n, h => by
    have ih := classes_loop all hall hok A B hA hB d (n + 1) (by omega)
    obtain ⟨x, hx⟩ : ∃ x, all[n]? = some x := ⟨_, List.getElem?_eq_getElem (by omega)⟩
    obtain ⟨x1, x2, x3⟩ := hok x (List.mem_of_getElem? hx)
    refine Ev.step (fun k => laws_FnListsClasses.l0.eq_2 _ _ _ _ _ _ k) (ev_pos (by rw [lns_len]; omega) (ev_pos (by omega) (ev_pos (by rw [lns_len]; omega) ?_)))
    rw [lns_get hx]
    refine ev_bind (classed A x x1 hA x2 x3) (ev_pos (by rw [lns_len]; omega) ?_)
    rw [lns_get hx]
    refine ev_bind (classed B x x1 hB x2 x3) (ev_neg (by simp) (ev_pos rfl ?_))
    rw [w1 n (by omega)]
    exact ih
theorem classes_law (l0 : List Stp') (a1 a2 : ByteArray) (hm : (l0.map fun x => x.f1.size + (x.f2.map fun s => s.size + 1).sum + 1).sum + 1 ≤ 1048576) : ∃ k, laws_FnListsClasses.f k l0 a1 a2 = some true := by
  apply Ev.rounds
  have hw := weight_bulk l0
  have hj0 : Ev (fun k => laws_FnListsClasses.j0 k l0 a1 a2 true) true := Ev.step (fun k => laws_FnListsClasses.j0.eq_2 _ _ _ _ k) (ev_pos rfl (Ev.now _))
  have hj1 : ∀ p, Ev (fun k => laws_FnListsClasses.j1 k l0 a1 a2 p true) true := fun p => Ev.step (fun k => laws_FnListsClasses.j1.eq_2 _ _ _ _ _ k) (ev_pos rfl (Ev.now _))
  unfold laws_FnListsClasses.f
  obtain ⟨b, hb, hb2⟩ := fits11 l0
  refine ev_bind hb ?_
  cases b with
  | false => exact ev_neg (by simp) hj0
  | true =>
    obtain ⟨hl, _⟩ := hb2 rfl
    refine ev_pos rfl ?_
    by_cases hs : (a1.size : Int) > 2147483647
    · exact ev_pos hs hj0
    refine ev_neg hs ?_
    by_cases hs2 : (a2.size : Int) > 2147483647
    · rw [decide_eq_true hs2]
      exact hj0
    rw [decide_eq_false hs2]
    obtain ⟨c, hc, hc2⟩ := right_f l0 hl
    refine Ev.step (fun k => laws_FnListsClasses.j0.eq_2 _ _ _ _ k) (ev_neg (by simp) (ev_bind (played_f l0 hl (by omega)) (ev_bind hc ?_)))
    cases c with
    | false => exact ev_neg (by simp) (hj1 _)
    | true =>
      obtain ⟨hl80, hR⟩ := hc2 rfl
      obtain ⟨i1, i2, i3⟩ := items_facts hl80 hR
      refine ev_pos rfl ?_
      by_cases hz : itemsOf l0 = []
      · exact ev_pos (by simp [hz]) (hj1 _)
      refine ev_neg (by rw [List.length_map]; have := List.length_pos_iff.2 hz; omega) ?_
      obtain ⟨nb, hnb, hn2⟩ := names_f (itemsOf l0) (by omega) (fun it hit => by have := i2 it hit; omega)
      refine ev_bind hnb ?_
      cases nb with
      | false => exact ev_neg (by simp) (hj1 _)
      | true =>
        have hnm := hn2 rfl
        refine ev_pos rfl ?_
        obtain ⟨n1, hn1, hN1⟩ := name_f a1 (by omega)
        refine ev_bind hn1 ?_
        cases n1 with
        | false => exact ev_neg (by simp) (hj1 _)
        | true =>
          refine ev_pos rfl ?_
          obtain ⟨n2, hn2', hN2⟩ := name_f a2 (by omega)
          refine ev_bind hn2' ?_
          cases n2 with
          | false => exact ev_neg (by simp) (hj1 _)
          | true =>
            refine ev_pos rfl ?_
            by_cases h40 : (a1.size : Int) > 40
            · exact ev_pos h40 (hj1 _)
            refine ev_neg h40 ?_
            by_cases h40b : (a2.size : Int) > 40
            · rw [decide_eq_true h40b]
              exact hj1 _
            rw [decide_eq_false h40b]
            have N1 := hN1 rfl
            have N2 := hN2 rfl
            have c1 : clsOf (L a1) = L a1 := by unfold clsOf; rw [if_neg N1.2]
            have c2 : clsOf (L a2) = L a2 := by unfold clsOf; rw [if_neg N2.2]
            have l1 := lines_html hl80 hR hnm hz (L a1) (fun b hb => nameB.line (N1.1 b hb)) (name_esc N1.1) (by rw [L_len]; omega)
            have l2 := lines_html hl80 hR hnm hz (L a2) (fun b hb => nameB.line (N2.1 b hb)) (name_esc N2.1) (by rw [L_len]; omega)
            have f1 := listHTML_f hl80 hR a1 (by omega)
            have f2 := listHTML_f hl80 hR a2 (by omega)
            rw [c1] at f1
            rw [c2] at f2
            have hlen := linL_len (itemsOf l0) 0 (by omega) (fun it hit => by have := i2 it hit; omega)
            have hok := linL_ok (itemsOf l0) (fun it hit => by have := i2 it hit; omega)
            have hall : (topL :: linL 0 (itemsOf l0)).length = (linL 0 (itemsOf l0)).length + 1 := rfl
            generalize topL :: linL 0 (itemsOf l0) = all at *
            refine Ev.step (fun k => laws_FnListsClasses.j1.eq_2 _ _ _ _ _ k) (ev_neg (by simp) (ev_some f1 (ev_some l1 (ev_some f2 (ev_some l2 (ev_pos (by rw [lns_len, lns_len]) ?_))))))
            rw [decide_eq_false (by rw [lns_len, List.length_map, wi _ (by omega) (by omega)]; omega)]
            refine Ev.step (fun k => laws_FnListsClasses.j2.eq_2 _ _ _ _ _ k) (ev_neg (by simp) ?_)
            have := classes_loop all (by omega) hok (L a1) (L a2) (by rw [L_len]; omega) (by rw [L_len]; omega) all.length 0 (by omega)
            rw [← S_eq, ← S_eq] at this
            exact this
end Go.Proofs.Yteenhipldfdkaaa.P
