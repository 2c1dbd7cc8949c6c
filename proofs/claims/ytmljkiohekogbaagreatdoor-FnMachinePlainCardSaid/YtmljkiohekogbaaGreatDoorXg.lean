import Derived.Test.YtmljkiohekogbaaGreatDoorMx
import Derived.Test.YtmljkiohekogbaaGreatDoorG
import Derived.Test.YtmljkiohekogbaaGreatDoorTs
import Derived.Test.YtmljkiohekogbaaGreatDoorXa
import Derived.Deep.QuietTactic
import Derived.BigQuiet
namespace Go.Proofs.YtmljkiohekogbaaGreatDoor
open Go.RowKit
set_option linter.unusedVariables false
set_option linter.unusedSimpArgs false
set_option maxHeartbeats 8000000
set_option maxRecDepth 100000
attribute [local go_sem] S_extract S_append run_cut_S run_head_S run_tail_S Nat.add_sub_cancel_left

theorem txAttr_attr (c : Int) : txAttr c = attr c := rfl
def opV (o : Int × Int) : Value := .agg #[.int .i64 o.1, .int .i64 o.2]
def opRightB (o : Int × Int) : Bool := if o.1 = 0 then attr o.2 else if o.1 = 1 then true else if o.1 = 2 then offCode o.2 else if o.1 = 3 ∨ o.1 = 4 then decide (0 ≤ o.2 ∧ o.2 ≤ 255) else false
/-- what the laws let in -/
def opOkB (o : Int × Int) : Bool := opRightB o && decide (o.1 ≤ 2)
theorem opOk {o : Int × Int} (h : opOkB o = true) : OpR o := by
  unfold opOkB opRightB at h
  rw [Bool.and_eq_true] at h
  obtain ⟨h1, h2⟩ := h
  have h2 := of_decide_eq_true h2
  unfold OpR
  by_cases e0 : o.1 = 0
  · rw [if_pos e0] at h1; exact .inl ⟨e0, h1⟩
  · rw [if_neg e0] at h1
    by_cases e1 : o.1 = 1
    · exact .inr (.inl e1)
    · rw [if_neg e1] at h1
      by_cases e2 : o.1 = 2
      · rw [if_pos e2] at h1; exact .inr (.inr ⟨e2, h1⟩)
      · rw [if_neg e2] at h1
        by_cases e3 : o.1 = 3 ∨ o.1 = 4
        · omega
        · rw [if_neg e3] at h1; cases h1
theorem PtRight_calls (o : Int × Int) (w : World) : Calls Tryz.prog 6 #[opV o] w fun e w' => e = .returned (.bool (opRightB o)) ∧ Below w.heap.size w w' := by
  obtain ⟨k, n⟩ := o
  unfold opV
  simp only
  have hb := (Below.refl w.heap.size w).alloc (Nat.le_refl _) (.cells #[.int .i64 k, .int .i64 n] 25)
  by_cases h0 : k = 0
  · subst h0
    have HR := hid (show opRightB (0, n) = attr n from if_pos rfl)
    go_enter Tryz.func6, Tryz.ntmps6
    go_wp2_with (go_at_call 14; (with_reducible refine (TxAttribute_calls n _).mono ?_); rintro e w' ⟨rfl, rfl⟩)
    go_ret
    exact ⟨ret_bool (by rw [HR.out, txAttr_attr]), hb⟩
  · have e0 : (k == 0) = false := by simpa using h0
    by_cases h1 : k = 1
    · subst h1
      have HR := hid (show opRightB (1, n) = true from rfl)
      go_enter Tryz.func6, Tryz.ntmps6
      go_wp2
      go_ret
      exact ⟨ret_bool HR.out.symm, hb⟩
    · have e1 : (k == 1) = false := by simpa using h1
      by_cases h2 : k = 2
      · subst h2
        have HR := hid (show opRightB (2, n) = offCode n from rfl)
        go_enter Tryz.func6, Tryz.ntmps6
        go_wp2
        all_goals go_ret
        all_goals exact ⟨ret_bool (by rw [HR.out, Bool.eq_iff_iff]; simp [offCode]; try omega), (Below.refl _ w).alloc (Nat.le_refl _) _⟩
      · have e2 : (k == 2) = false := by simpa using h2
        by_cases h3 : k = 3 ∨ k = 4
        · have HR := hid (show opRightB (k, n) = decide (0 ≤ n ∧ n ≤ 255) by unfold opRightB; rw [if_neg h0, if_neg h1, if_neg h2, if_pos h3])
          rcases h3 with rfl | rfl
          all_goals go_enter Tryz.func6, Tryz.ntmps6
          all_goals go_wp2
          all_goals go_ret
          all_goals exact ⟨ret_bool (by rw [HR.out, Bool.eq_iff_iff]; simp; try omega), hb⟩
        · have e3 : (k == 3) = false := by simp; omega
          have e4 : (k == 4) = false := by simp; omega
          have HR := hid (show opRightB (k, n) = false by unfold opRightB; rw [if_neg h0, if_neg h1, if_neg h2, if_neg h3])
          go_enter Tryz.func6, Tryz.ntmps6
          go_wp2
          go_ret
          exact ⟨ret_bool HR.out.symm, hb⟩
theorem opNum0 {k n : Int} (h : k ≠ 1) : opNum (k, n) = n := if_neg h
theorem PtSeq_calls (o : Int × Int) (w : World) (h : opOkB o = true) (ht : Tab w) : Calls Tryz.prog 7 #[opV o] w fun e w' => e = .returned (.string ⟨(opText o).toArray⟩) ∧ Below w.heap.size w w' := by
  have hR := opOk h
  obtain ⟨hn1, hn2, hn3, hn4⟩ := opNum_ne hR
  have hlen := op_len hR
  obtain ⟨k, n⟩ := o
  have hk2 : k ≤ 2 := by
    unfold opOkB at h
    rw [Bool.and_eq_true] at h
    exact of_decide_eq_true h.2
  unfold opV
  simp only
  have hb := (Below.refl w.heap.size w).alloc (Nat.le_refl _) (.cells #[.int .i64 k, .int .i64 n] 25)
  by_cases h1 : k = 1
  · subst h1
    have HS := hid (show opText (1, n) = [27, 91, 48, 109] by
      unfold opText opDs opNum seqB
      rw [if_pos rfl, show (0 : Int).toNat = 0 from rfl, dec_dg3 0 (by decide)]
      rfl)
    go_enter Tryz.func7, Tryz.ntmps7
    go_wp2
    go_ret
    exact ⟨ret_str (by rw [HS.out]), hb⟩
  · have e1 : (k == 1) = false := by simpa using h1
    have e3 : (k == 3) = false := by simp; omega
    have e4 : (k == 4) = false := by simp; omega
    rw [opNum0 h1] at hn3 hn4
    have HS := hid (show opText (k, n) = 27 :: 91 :: (dec n ++ [109]) by
      unfold opText opDs seqB
      rw [opNum0 h1]
      rfl)
    have KI := hid (fun (w' : World) (h : Tab w') => sItoa_calls n hn3 (by omega) w' h)
    have HT := hid (ht.below hb)
    have hdl := dec_len (c := n) (by omega)
    have hov : ¬ 9223372036854775807 < 2 + (dec n).length := by omega
    clear h hR hn1 hn2 hn3 hn4 hlen hk2 ht
    go_enter Tryz.func7, Tryz.ntmps7
    go_wp2_with (go_at_call 15; (with_reducible refine (KI.out _ HT.out).mono ?_); rintro e w' ⟨rfl, hb2⟩)
    go_ret
    exact ⟨ret_str (by rw [HS.out] <;> simp), hb.trans (hb2.mono hb.size)⟩
theorem ptOff_calls (n x : Int) (w : World) (h : offCode n = true) : Calls Tryz.prog 25 #[.int .i64 n, .int .i64 x] w fun e w' => e = .returned (.bool (offs n x)) ∧ w = w' := by
  have hn : n = 22 ∨ n = 23 ∨ n = 24 ∨ n = 25 ∨ n = 27 ∨ n = 29 ∨ n = 39 ∨ n = 49 := by
    have := of_decide_eq_true h
    omega
  rcases hn with rfl | rfl | rfl | rfl | rfl | rfl | rfl | rfl
  all_goals go_enter Tryz.func25, Tryz.ntmps25
  all_goals go_wp2
  all_goals go_ret
  all_goals exact ⟨ret_bool (by rw [Bool.eq_iff_iff]; simp [offs]; try omega), rfl⟩
end Go.Proofs.YtmljkiohekogbaaGreatDoor
