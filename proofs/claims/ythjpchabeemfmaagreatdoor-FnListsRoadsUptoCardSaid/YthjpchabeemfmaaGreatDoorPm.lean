import Derived.Test.YthjpchabeemfmaaGreatDoorGp
import Derived.Test.YthjpchabeemfmaaGreatDoorPx4
namespace Go.Proofs.YthjpchabeemfmaaGreatDoor.P
open Go.RowKit Go.Proofs.YthjpchabeemfmaaGreatDoorW.PrintWords Go.Proofs.YthjpchabeemfmaaGreatDoorW.PrintLast Go.Proofs.YthjpchabeemfmaaGreatDoorW.PrintMore
set_option linter.unusedVariables false
set_option linter.unusedSimpArgs false
set_option maxRecDepth 100000

/-! LsName -/
/-- a letter, a digit, a blank -/
def nameC (b : UInt8) : Prop := (97 ≤ b.toNat ∧ b.toNat ≤ 122) ∨ (65 ≤ b.toNat ∧ b.toNat ≤ 90) ∨ (48 ≤ b.toNat ∧ b.toNat ≤ 57) ∨ b.toNat = 32
theorem name_loop (s : ByteArray) (hl : s.size ≤ 2147483647) : ∀ (d n : Nat), n + d = s.size → ∃ b, Ev (fun k => spec_LsName.l0 k s (n : Int)) b ∧ (b = true → (∀ c ∈ (L s).drop n, nameC c) ∧ spec_TxTight.f s = some true)
  | 0, n, h => by
    obtain ⟨b, hb⟩ : ∃ b, spec_TxTight.f s = some b := by
      unfold spec_TxTight.f
      repeat' split
      all_goals first | exact ⟨_, rfl⟩ | skip
      · rename_i a1 a2 a3 a4 a5
        exfalso
        rw [wi _ (by omega) (by omega)] at a5
        omega
      · rename_i a1 a2 a3 a4
        exfalso
        rw [wi _ (by omega) (by omega)] at a4
        omega
      · rename_i a1 a2
        exfalso
        apply a1
        rw [toList_L]
        apply List.eq_nil_of_length_eq_zero
        rw [L_len]
        omega
    refine ⟨b, Ev.step (fun k => spec_LsName.l0.eq_2 _ _ k) (ev_neg (by omega) (ev_some hb (Ev.now _))), fun h => ?_⟩
    subst h
    exact ⟨fun c hc => (by rw [List.drop_eq_nil_of_le (by rw [L_len]; omega)] at hc; cases hc), hb⟩
  | d + 1, n, h => by
    obtain ⟨b, hb, hb2⟩ := name_loop s hl d (n + 1) (by omega)
    obtain ⟨x, hx⟩ : ∃ x, (L s)[n]? = some x := ⟨_, List.getElem?_eq_getElem (by rw [L_len]; omega)⟩
    have hd : (L s).drop n = x :: (L s).drop (n + 1) := by rw [List.drop_eq_getElem_cons (by rw [L_len]; omega), (List.getElem?_eq_some_iff.1 hx).2]
    have hbt := bt_get s hx
    have hlt := x.toNat_lt
    rw [← w1 n (by omega)] at hb
    by_cases hn : nameC x
    · refine ⟨b, Ev.step (fun k => spec_LsName.l0.eq_2 _ _ k) (ev_pos (by omega) (ev_pos (by omega) ?_)), fun h => ?_⟩
      · unfold nameC at hn
        rcases hn with hn | hn | hn | hn
        all_goals
          repeat (first | refine ev_pos (by omega) ?_ | refine ev_neg (by omega) ?_)
          exact hb
      · obtain ⟨q1, q2⟩ := hb2 h
        refine ⟨fun c hc => ?_, q2⟩
        rw [hd] at hc
        rcases List.mem_cons.1 hc with rfl | hc
        · exact hn
        · exact q1 c hc
    · refine ⟨false, Ev.step (fun k => spec_LsName.l0.eq_2 _ _ k) (ev_pos (by omega) (ev_pos (by omega) ?_)), fun h => by cases h⟩
      unfold nameC at hn
      by_cases c1 : x.toNat < 97
      · by_cases c2 : x.toNat < 65
        · by_cases c3 : x.toNat < 48
          all_goals
            repeat (first | refine ev_pos (by omega) ?_ | refine ev_neg (by omega) ?_)
            exact Ev.now _
        · repeat (first | refine ev_pos (by omega) ?_ | refine ev_neg (by omega) ?_)
          exact Ev.now _
      · repeat (first | refine ev_pos (by omega) ?_ | refine ev_neg (by omega) ?_)
        exact Ev.now _
/-- a text that LsName lets in -/
def NameT (s : ByteArray) : Prop := (∀ c ∈ L s, nameC c) ∧ L s ≠ []
theorem name_f (s : ByteArray) (hl : s.size ≤ 2147483647) : ∃ b, Ev (fun k => spec_LsName.f k s) b ∧ (b = true → NameT s) := by
  obtain ⟨b, hb, h2⟩ := name_loop s hl s.size 0 (by omega)
  refine ⟨b, hb, fun h => ?_⟩
  obtain ⟨q1, q2⟩ := h2 h
  refine ⟨by simpa using q1, fun e => ?_⟩
  unfold spec_TxTight.f at q2
  rw [toList_L, if_pos e] at q2
  cases q2
theorem name_esc {s : List UInt8} (h : ∀ c ∈ s, nameC c) : escH s = s := by
  induction s with
  | nil => rfl
  | cons b t ih =>
    have hb := h b (by simp)
    have e : escB1 b = [b] := by
      have ne : ∀ c : UInt8, ¬ nameC c → b ≠ c := fun c hc e => hc (e ▸ hb)
      unfold escB1
      rw [if_neg (ne _ (by unfold nameC; decide)), if_neg (ne _ (by unfold nameC; decide)), if_neg (ne _ (by unfold nameC; decide)), if_neg (ne _ (by unfold nameC; decide)), if_neg (ne _ (by unfold nameC; decide))]
    rw [escH_cons, e, ih (fun c hc => h c (by simp [hc]))]
    rfl
end Go.Proofs.YthjpchabeemfmaaGreatDoor.P
