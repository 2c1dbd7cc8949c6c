import Derived.Test.YtmljkiohekogbaaGreatDoorMs
import Derived.Test.YtmljkiohekogbaaGreatDoorGb
namespace Go.Proofs.YtmljkiohekogbaaGreatDoor
open Go.RowKit Go.Maps
set_option linter.unusedVariables false
set_option linter.unusedSimpArgs false
set_option maxHeartbeats 4000000
set_option maxRecDepth 100000
attribute [local go_sem] S_extract S_append run_cut_S run_head_S run_tail_S Nat.add_sub_cancel_left

/-- the digits of a number below 1000 -/
def dg3 (n : Nat) : List UInt8 := if n < 10 then [UInt8.ofNat (48 + n)] else if n < 100 then [UInt8.ofNat (48 + n / 10), UInt8.ofNat (48 + n % 10)] else [UInt8.ofNat (48 + n / 10 / 10), UInt8.ofNat (48 + n / 10 % 10), UInt8.ofNat (48 + n % 10)]
theorem dec_dg3 (n : Nat) (h : n < 1000) : Lib.decDigits n = dg3 n := by
  unfold dg3
  split
  · rw [Lib.decDigits, dif_pos (by assumption)]
  · split
    · rw [Lib.decDigits, dif_neg (by assumption), Lib.decDigits, dif_pos (by omega)]
      rfl
    · rw [Lib.decDigits, dif_neg (by assumption), Lib.decDigits, dif_neg (by omega), Lib.decDigits, dif_pos (by omega)]
      rfl
/-- a number's digits -/
def itoaF (n : Int) : List UInt8 := if n < 0 then 45 :: Lib.decDigits (-n).toNat else Lib.decDigits n.toNat
theorem itoaF_len (n : Int) (h0 : -9223372036854775808 ≤ n) (h1 : n ≤ 9223372036854775807) : (itoaF n).length ≤ 21 := by
  unfold itoaF
  split
  · have := Lib.nDigits_le20 (-n).toNat (by omega)
    rw [List.length_cons, Lib.decDigits_length]; omega
  · have := Lib.nDigits_le20 n.toNat (by omega)
    rw [Lib.decDigits_length]; omega
theorem u64_neg (k : Nat) (h0 : 0 < k) (h1 : k ≤ 9223372036854775808) : ∃ M : Int, IntKind.u64.wrap (-(k : Int)) = M ∧ IntKind.u64.wrap (-M) = k := by
  refine ⟨_, rfl, ?_⟩
  simp only [IntKind.wrap, IntKind.bits, IntKind.signed]
  simp
  omega
theorem FormatIntN_calls (k : Nat) (w : World) (h0 : 0 < k) (h1 : k ≤ 9223372036854775808) :
    Calls Tryz.prog 47 #[.int .i64 (-(k : Int)), .int .i64 10] w fun e w' => e = .returned (.string ⟨(45 :: Lib.decDigits k).toArray⟩) ∧ Below w.heap.size w w' := by
  obtain ⟨M, hM, hN⟩ := u64_neg k h0 h1
  have KF := hid (FormatUint_calls k w (by omega))
  have hneg : -(k : Int) < 0 := by omega
  have hdl : (Lib.decDigits k).length ≤ 20 := by rw [Lib.decDigits_length]; exact Lib.nDigits_le20 _ (by omega)
  clear h1
  go_enter Tryz.func47, Tryz.ntmps47
  go_wp2_with (go_at_call 63; refine KF.out.mono ?_; rintro e w' ⟨rfl, hb⟩)
  go_ret
  exact ⟨rfl, hb⟩
theorem ItoaZ_calls (n : Int) (w : World) (h0 : -9223372036854775808 ≤ n) (h1 : n ≤ 9223372036854775807) :
    Calls Tryz.prog 35 #[.int .i64 n] w fun e w' => e = .returned (.string ⟨(itoaF n).toArray⟩) ∧ Below w.heap.size w w' := by
  unfold itoaF
  by_cases hn : n < 0
  · rw [if_pos hn]
    obtain ⟨k, hk⟩ : ∃ k : Nat, n = -(k : Int) := ⟨(-n).toNat, by omega⟩
    subst hk
    have KF := hid (FormatIntN_calls k w (by omega) (by omega))
    have e : (- -(k : Int)).toNat = k := by omega
    rw [e]
    clear h0 h1 hn e
    go_enter Tryz.func35, Tryz.ntmps35
    go_wp2_with (go_at_call 47; refine KF.out.mono ?_; rintro e w' ⟨rfl, hb⟩)
    go_ret
    exact ⟨rfl, hb⟩
  · rw [if_neg hn]
    obtain ⟨k, rfl⟩ := Int.eq_ofNat_of_zero_le (Int.not_lt.1 hn)
    exact Itoa_calls k w (by omega)
end Go.Proofs.YtmljkiohekogbaaGreatDoor
