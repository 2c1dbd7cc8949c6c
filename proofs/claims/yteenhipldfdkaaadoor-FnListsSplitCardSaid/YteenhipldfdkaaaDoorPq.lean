import Derived.Test.YteenhipldfdkaaaDoorEv
import Derived.Test.YteenhipldfdkaaaDoorGk
import Derived.Test.YteenhipldfdkaaaDoorPx1
namespace Go.Proofs.YteenhipldfdkaaaDoor.P
open Go.RowKit Go.Proofs.YteenhipldfdkaaaDoorW.PrintWords Go.Proofs.YteenhipldfdkaaaDoorW.PrintLast Go.Proofs.YteenhipldfdkaaaDoorW.PrintMore
set_option linter.unusedVariables false
set_option linter.unusedSimpArgs false
set_option maxRecDepth 100000

abbrev Stp' := S33
abbrev Itm := S54
theorem rd_st {xs : List Stp'} {n : Nat} {x : Stp'} (h : xs[n]? = some x) : rd_T33 xs (n : Int) = x := by
  unfold rd_T33
  simp [h]
theorem rd_it {xs : List Itm} {n : Nat} {x : Itm} (h : xs[n]? = some x) : rd_T54 xs (n : Int) = x := by
  unfold rd_T54
  simp [h]

/-! sizes -/
theorem fits13_loop (l : List ByteArray) (hl : l.length ≤ 2147483647) : ∀ (d n : Nat), n + d = l.length → ∃ b, Ev (fun k => laws_zzFits13.l0 k l (l.length : Int) (n : Int)) b
  | 0, n, h => ⟨true, Ev.step (fun k => laws_zzFits13.l0.eq_2 _ _ _ k) (ev_neg (by omega) (Ev.now _))⟩
  | d + 1, n, h => by
    obtain ⟨b, hb⟩ := fits13_loop l hl d (n + 1) (by omega)
    by_cases hs : ((rdOf ByteArray.empty l (n : Int)).size : Int) > 2147483647
    · exact ⟨false, Ev.step (fun k => laws_zzFits13.l0.eq_2 _ _ _ k) (ev_pos (by omega) (ev_pos (by omega) (ev_pos (by omega) (ev_pos hs (Ev.now _)))))⟩
    · exact ⟨b, Ev.step (fun k => laws_zzFits13.l0.eq_2 _ _ _ k) (ev_pos (by omega) (ev_pos (by omega) (ev_pos (by omega) (ev_neg hs (by rw [w1 n (by omega)]; exact hb)))))⟩
theorem fits13 (l : List ByteArray) : ∃ b, Ev (fun k => laws_zzFits13.f k l) b ∧ (b = true → l.length ≤ 2147483647) := by
  by_cases hl : (l.length : Int) > 2147483647
  · exact ⟨false, ev_pos hl (Ev.now _), fun h => by cases h⟩
  · obtain ⟨b, hb⟩ := fits13_loop l (by omega) l.length 0 (by omega)
    exact ⟨b, ev_neg hl hb, fun _ => by omega⟩
theorem fits12 (a : Int) (t : ByteArray) (l : List ByteArray) : ∃ b, Ev (fun k => laws_zzFits12.f k a t l) b ∧ (b = true → t.size ≤ 2147483647 ∧ l.length ≤ 2147483647) := by
  by_cases hl : (t.size : Int) > 2147483647
  · exact ⟨false, ev_pos hl (Ev.now _), fun h => by cases h⟩
  · obtain ⟨b, hb, h2⟩ := fits13 l
    cases b with
    | true => exact ⟨true, ev_neg hl (ev_bind hb (ev_pos rfl (Ev.now _))), fun _ => ⟨by omega, h2 rfl⟩⟩
    | false => exact ⟨false, ev_neg hl (ev_bind hb (ev_neg (by simp) (Ev.now _))), fun h => by cases h⟩
theorem fits11_loop (l : List Stp') (hl : l.length ≤ 2147483647) : ∀ (d n : Nat), n + d = l.length → ∃ b, Ev (fun k => laws_zzFits11.l0 k l (l.length : Int) (n : Int)) b ∧ (b = true → ∀ x ∈ l.drop n, x.f1.size ≤ 2147483647 ∧ x.f2.length ≤ 2147483647)
  | 0, n, h => ⟨true, Ev.step (fun k => laws_zzFits11.l0.eq_2 _ _ _ k) (ev_neg (by omega) (Ev.now _)), fun _ x hx => by rw [List.drop_eq_nil_of_le (by omega)] at hx; cases hx⟩
  | d + 1, n, h => by
    obtain ⟨b, hb, hb2⟩ := fits11_loop l hl d (n + 1) (by omega)
    obtain ⟨x, hx⟩ : ∃ x, l[n]? = some x := ⟨_, List.getElem?_eq_getElem (by omega)⟩
    have hd : l.drop n = x :: l.drop (n + 1) := by rw [List.drop_eq_getElem_cons (by omega), (List.getElem?_eq_some_iff.1 hx).2]
    obtain ⟨c, hc, hc2⟩ := fits12 x.f0 x.f1 x.f2
    cases c with
    | true =>
      refine ⟨b, Ev.step (fun k => laws_zzFits11.l0.eq_2 _ _ _ k) (ev_pos (by omega) (ev_pos (by omega) (ev_pos (by omega) ?_))), fun h => ?_⟩
      · rw [rd_st hx, w1 n (by omega)]
        exact ev_bind hc (ev_pos rfl hb)
      · intro y hy
        rw [hd] at hy
        rcases List.mem_cons.1 hy with rfl | hy
        · exact hc2 rfl
        · exact hb2 h y hy
    | false =>
      refine ⟨false, Ev.step (fun k => laws_zzFits11.l0.eq_2 _ _ _ k) (ev_pos (by omega) (ev_pos (by omega) (ev_pos (by omega) ?_))), fun h => by cases h⟩
      rw [rd_st hx]
      exact ev_bind hc (ev_neg (by simp) (Ev.now _))
theorem fits11 (l : List Stp') : ∃ b, Ev (fun k => laws_zzFits11.f k l) b ∧ (b = true → l.length ≤ 2147483647 ∧ ∀ x ∈ l, x.f1.size ≤ 2147483647 ∧ x.f2.length ≤ 2147483647) := by
  by_cases hl : (l.length : Int) > 2147483647
  · exact ⟨false, ev_pos hl (Ev.now _), fun h => by cases h⟩
  · obtain ⟨b, hb, h2⟩ := fits11_loop l (by omega) l.length 0 (by omega)
    exact ⟨b, ev_neg hl hb, fun h => ⟨by omega, by simpa using h2 h⟩⟩

/-! LtRight -/
def RightX (x : Stp') : Prop := x.f1.size ≤ 200 ∧ txSimple x.f1 true = true ∧ x.f2.length ≤ 10 ∧ ∀ t ∈ x.f2, t.size ≤ 200 ∧ txSimple t true = true
theorem simple_f (s : ByteArray) (h : s.size ≤ 1000000000) (b : Bool) : spec_TxSimple.f s b = some (txSimple s b) := by unfold spec_TxSimple.f; rw [if_pos h]
theorem right_in (l : List Stp') (n : Nat) (ts : List ByteArray) (ht : ts.length ≤ 10) (hn : n < 2147483647) (b : Bool) (hb : Ev (fun k => spec_LtRight.l0 k l l (l.length : Int) ((n + 1 : Nat) : Int)) b) :
    ∀ (d m : Nat), m + d = ts.length → ∃ c, Ev (fun k => spec_LtRight.l1 k l l (l.length : Int) (n : Int) ts (ts.length : Int) (m : Int)) c ∧ (c = true → b = true ∧ ∀ t ∈ ts.drop m, t.size ≤ 200 ∧ txSimple t true = true)
  | 0, m, h => ⟨b, Ev.step (fun k => spec_LtRight.l1.eq_2 _ _ _ _ _ _ _ k) (ev_neg (by omega) (by rw [w1 n (by omega)]; exact hb)), fun hc => ⟨hc, fun t ht => by rw [List.drop_eq_nil_of_le (by omega)] at ht; cases ht⟩⟩
  | d + 1, m, h => by
    obtain ⟨c, hc, hc2⟩ := right_in l n ts ht hn b hb d (m + 1) (by omega)
    obtain ⟨x, hx⟩ : ∃ x, ts[m]? = some x := ⟨_, List.getElem?_eq_getElem (by omega)⟩
    have hd : ts.drop m = x :: ts.drop (m + 1) := by rw [List.drop_eq_getElem_cons (by omega), (List.getElem?_eq_some_iff.1 hx).2]
    by_cases hs : (x.size : Int) > 200
    · refine ⟨false, Ev.step (fun k => spec_LtRight.l1.eq_2 _ _ _ _ _ _ _ k) (ev_pos (by omega) (ev_pos (by omega) (ev_pos (by omega) ?_))), fun h => by cases h⟩
      rw [rdOf_at hx]
      exact ev_pos hs (Ev.now _)
    · cases hk : txSimple x true with
      | true =>
        refine ⟨c, Ev.step (fun k => spec_LtRight.l1.eq_2 _ _ _ _ _ _ _ k) (ev_pos (by omega) (ev_pos (by omega) (ev_pos (by omega) ?_))), fun h => ?_⟩
        · rw [rdOf_at hx, w1 m (by omega)]
          exact ev_neg hs (ev_some ((simple_f x (by omega) true).trans (congrArg some hk)) (ev_pos rfl hc))
        · obtain ⟨q1, q2⟩ := hc2 h
          refine ⟨q1, fun t ht => ?_⟩
          rw [hd] at ht
          rcases List.mem_cons.1 ht with rfl | ht
          · exact ⟨by omega, hk⟩
          · exact q2 t ht
      | false =>
        refine ⟨false, Ev.step (fun k => spec_LtRight.l1.eq_2 _ _ _ _ _ _ _ k) (ev_pos (by omega) (ev_pos (by omega) (ev_pos (by omega) ?_))), fun h => by cases h⟩
        rw [rdOf_at hx]
        exact ev_neg hs (ev_some ((simple_f x (by omega) true).trans (congrArg some hk)) (ev_neg (by simp) (Ev.now _)))
theorem right_loop (l : List Stp') (hl : l.length ≤ 2147483647) : ∀ (d n : Nat), n + d = l.length → ∃ b, Ev (fun k => spec_LtRight.l0 k l l (l.length : Int) (n : Int)) b ∧ (b = true → l.length ≤ 80 ∧ ∀ x ∈ l.drop n, RightX x)
  | 0, n, h => by
    refine ⟨decide ((l.length : Int) ≤ 80), Ev.step (fun k => spec_LtRight.l0.eq_2 _ _ _ _ k) (ev_neg (by omega) (Ev.now _)), fun h => ⟨?_, fun x hx => by rw [List.drop_eq_nil_of_le (by omega)] at hx; cases hx⟩⟩
    have := of_decide_eq_true h
    omega
  | d + 1, n, h => by
    obtain ⟨b, hb, hb2⟩ := right_loop l hl d (n + 1) (by omega)
    obtain ⟨x, hx⟩ : ∃ x, l[n]? = some x := ⟨_, List.getElem?_eq_getElem (by omega)⟩
    have hd : l.drop n = x :: l.drop (n + 1) := by rw [List.drop_eq_getElem_cons (by omega), (List.getElem?_eq_some_iff.1 hx).2]
    have hj : Ev (fun k => spec_LtRight.j1 k l l (l.length : Int) (n : Int) true x.f0 x.f1 x.f2) false := Ev.step (fun k => spec_LtRight.j1.eq_2 _ _ _ _ _ _ _ _ k) (ev_pos rfl (Ev.now _))
    by_cases hs : (x.f1.size : Int) > 200
    · refine ⟨false, Ev.step (fun k => spec_LtRight.l0.eq_2 _ _ _ _ k) (ev_pos (by omega) (ev_pos (by omega) (ev_pos (by omega) ?_))), fun h => by cases h⟩
      rw [rd_st hx]
      exact ev_pos hs hj
    · cases hk : txSimple x.f1 true with
      | false =>
        refine ⟨false, Ev.step (fun k => spec_LtRight.l0.eq_2 _ _ _ _ k) (ev_pos (by omega) (ev_pos (by omega) (ev_pos (by omega) ?_))), fun h => by cases h⟩
        rw [rd_st hx]
        exact ev_neg hs (ev_some ((simple_f x.f1 (by omega) true).trans (congrArg some hk)) (ev_neg (by simp) hj))
      | true =>
        by_cases ht : (x.f2.length : Int) > 10
        · refine ⟨false, Ev.step (fun k => spec_LtRight.l0.eq_2 _ _ _ _ k) (ev_pos (by omega) (ev_pos (by omega) (ev_pos (by omega) ?_))), fun h => by cases h⟩
          rw [rd_st hx, decide_eq_true ht]
          exact ev_neg hs (ev_some ((simple_f x.f1 (by omega) true).trans (congrArg some hk)) (ev_pos rfl hj))
        · obtain ⟨c, hc, hc2⟩ := right_in l n x.f2 (by omega) (by omega) b hb x.f2.length 0 (by omega)
          refine ⟨c, Ev.step (fun k => spec_LtRight.l0.eq_2 _ _ _ _ k) (ev_pos (by omega) (ev_pos (by omega) (ev_pos (by omega) ?_))), fun h => ?_⟩
          · rw [rd_st hx, decide_eq_false ht]
            exact ev_neg hs (ev_some ((simple_f x.f1 (by omega) true).trans (congrArg some hk)) (ev_pos rfl (Ev.step (fun k => spec_LtRight.j1.eq_2 _ _ _ _ _ _ _ _ k) (ev_neg (by simp) hc))))
          · obtain ⟨q1, q2⟩ := hc2 h
            obtain ⟨q3, q4⟩ := hb2 q1
            refine ⟨q3, fun y hy => ?_⟩
            rw [hd] at hy
            rcases List.mem_cons.1 hy with rfl | hy
            · exact ⟨by omega, hk, by omega, by simpa using q2⟩
            · exact q4 y hy
theorem right_f (l : List Stp') (hl : l.length ≤ 2147483647) : ∃ b, Ev (fun k => spec_LtRight.f k l) b ∧ (b = true → l.length ≤ 80 ∧ ∀ x ∈ l, RightX x) := by
  obtain ⟨b, hb, h2⟩ := right_loop l hl l.length 0 (by omega)
  exact ⟨b, hb, by simpa using h2⟩

theorem kn_of {s : ByteArray} (h : txSimple s true = true) : Kn (L s) := Kn.of_simple h
theorem shOk_of {x : Stp'} (h : RightX x) : ShOk x := by
  obtain ⟨h1, h2, h3, h4⟩ := h
  exact ⟨by rw [L_len]; exact h1, (kn_of h2).clean, h3, fun t ht => ⟨by rw [L_len]; exact (h4 t ht).1, (kn_of (h4 t ht).2).clean⟩⟩
end Go.Proofs.YteenhipldfdkaaaDoor.P
