import Derived.Test.YtejjjenjnfaopaaGreatDoorFz
import Derived.Test.YtejjjenjnfaopaaGreatDoorGp
import Derived.Test.YtejjjenjnfaopaaGreatDoorPx7
namespace Go.Proofs.YtejjjenjnfaopaaGreatDoor.P
open Go.RowKit Go.Proofs.YtejjjenjnfaopaaGreatDoorW.PrintWords Go.Proofs.YtejjjenjnfaopaaGreatDoorW.PrintLast Go.Proofs.YtejjjenjnfaopaaGreatDoorW.PrintMore
set_option linter.unusedVariables false
set_option linter.unusedSimpArgs false
set_option maxRecDepth 100000
set_option maxHeartbeats 2000000

theorem empty_law (l0 : List Stp') (b0 : Int) (b1 b2 b3 b4 b5 b6 b7 b8 : ByteArray) (a : ByteArray) : ∃ k, laws_FnListsEmpty.f k l0 b0 b1 b2 b3 b4 b5 b6 b7 b8 a = some true := by
  apply Ev.rounds
  have hj0 : Ev (fun k => laws_FnListsEmpty.j0 k l0 a true b0 b1 b2 b3 b4 b5 b6 b7 b8) true := Ev.step (fun k => laws_FnListsEmpty.j0.eq_2 _ _ _ _ _ _ _ _ _ _ _ _ k) (ev_pos rfl (Ev.now _))
  have hj1 : Ev (fun k => laws_FnListsEmpty.j1 k l0 a true b0 b1 b2 b3 b4 b5 b6 b7 b8) true := Ev.step (fun k => laws_FnListsEmpty.j1.eq_2 _ _ _ _ _ _ _ _ _ _ _ _ k) (ev_pos rfl (Ev.now _))
  unfold laws_FnListsEmpty.f
  obtain ⟨b, hb, hb2⟩ := fits11 l0
  refine ev_bind hb ?_
  cases b with
  | false => exact ev_neg (by simp) hj0
  | true =>
    obtain ⟨hl, _⟩ := hb2 rfl
    refine ev_pos rfl ?_
    cases h14 : fits14B (sty9 b0 b1 b2 b3 b4 b5 b6 b7 b8) with
    | false => exact ev_some (show laws_zzFits14.f b0 b1 b2 b3 b4 b5 b6 b7 b8 = some false from congrArg some h14) (ev_neg (by simp) hj0)
    | true =>
    refine ev_some (show laws_zzFits14.f b0 b1 b2 b3 b4 b5 b6 b7 b8 = some true from congrArg some h14) (ev_pos rfl ?_)
    by_cases hs : (a.size : Int) > 2147483647
    · rw [decide_eq_true hs]
      exact hj0
    rw [decide_eq_false hs]
    obtain ⟨c, hc, hc2⟩ := right_f l0 hl
    refine Ev.step (fun k => laws_FnListsEmpty.j0.eq_2 _ _ _ _ _ _ _ _ _ _ _ _ k) (ev_neg (by simp) (ev_bind hc ?_))
    cases c with
    | false => exact ev_neg (by simp) hj1
    | true =>
      obtain ⟨hl80, hR⟩ := hc2 rfl
      refine ev_pos rfl (ev_bind (played_f l0 hl (weight_right hl80 hR)) ?_)
      by_cases hz : itemsOf l0 = []
      · refine ev_neg (by simp [hz]) ?_
        cases hst : ltStyledB (sty9 b0 b1 b2 b3 b4 b5 b6 b7 b8) with
        | false => exact ev_some (show spec_LtStyled.f b0 b1 b2 b3 b4 b5 b6 b7 b8 = some false from congrArg some hst) (ev_neg (by simp) hj1)
        | true =>
        refine ev_some (show spec_LtStyled.f b0 b1 b2 b3 b4 b5 b6 b7 b8 = some true from congrArg some hst) (ev_pos rfl ?_)
        by_cases h60 : (a.size : Int) > 60
        · rw [decide_eq_true h60]
          exact hj1
        rw [decide_eq_false h60]
        obtain ⟨hsh, hfm⟩ := ltStyled_facts hst
        have hok : ∀ x ∈ l0, ShOk x := fun x hx => shOk_of (hR x hx)
        have e1 : impl_ListRender.f l0 b0 b1 b2 b3 b4 b5 b6 b7 b8 = some (S []) := by
          unfold impl_ListRender.f
          rw [if_pos ⟨by omega, hok, hsh, hfm⟩, hz]
          rfl
        have e2 : impl_ListPlain.f l0 = some (S []) := by
          unfold impl_ListPlain.f
          rw [if_pos ⟨by omega, hok⟩, hz]
          rfl
        have e3 : impl_ListMarkdown.f l0 b0 b1 b2 b3 b4 b5 b6 b7 b8 = some (S []) := by
          unfold impl_ListMarkdown.f
          rw [if_pos ⟨by omega, hok, trivial⟩, hz]
          rfl
        have e4 : impl_ListHTML.f l0 a = some (S []) := by
          rw [listHTML_f (by omega) hR a (by omega), hz]
          rfl
        have e5 : impl_ListLength.f l0 = some 0 := by
          unfold impl_ListLength.f
          rw [if_pos ⟨by omega, hok⟩, hz]
          rfl
        have hn : (S []).toList = ([] : List UInt8) := by rw [toList_L, L_S]
        exact Ev.step (fun k => laws_FnListsEmpty.j1.eq_2 _ _ _ _ _ _ _ _ _ _ _ _ k) (ev_neg (by simp) (ev_some e1 (ev_pos hn (ev_some e2 (ev_pos hn (ev_some e3 (ev_pos hn (ev_some e4 (ev_pos hn (ev_some e5 (ev_pos rfl (ev_some (show laws_ltAlive.f = some true from rfl) (Ev.now _)))))))))))))
      · exact ev_pos (by rw [List.length_map]; have := List.length_pos_iff.2 hz; omega) hj1
end Go.Proofs.YtejjjenjnfaopaaGreatDoor.P
