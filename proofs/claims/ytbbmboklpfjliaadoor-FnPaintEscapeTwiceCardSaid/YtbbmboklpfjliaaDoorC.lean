import Derived.Test.YtbbmboklpfjliaaDoorB
namespace Go.Proofs.YtbbmboklpfjliaaDoor
open Go.RowKit
set_option linter.unusedVariables false
set_option linter.unusedSimpArgs false
set_option maxHeartbeats 4000000
set_option maxRecDepth 100000

def zIdx (sub : List UInt8) : List UInt8 → Option Nat
  | [] => if sub.isPrefixOf [] then some 0 else none
  | c :: t => if sub.isPrefixOf (c :: t) then some 0 else (zIdx sub t).map (· + 1)
def idxAt (sub : List UInt8) (k : Nat) (l : List UInt8) : Int := match zIdx sub l with | none => -1 | some j => ((k + j : Nat) : Int)
theorem zIdx_short (sub l : List UInt8) (h : l.length < sub.length) : zIdx sub l = none := by
  induction l with
  | nil => cases sub with
    | nil => simp at h
    | cons a b => simp [zIdx]
  | cons c t ih =>
    have hp : sub.isPrefixOf (c :: t) = false := by
      rw [Bool.eq_false_iff]; intro hp
      have := (List.isPrefixOf_iff_prefix.1 hp).length_le
      omega
    simp [zIdx, hp, ih (by simp at h; omega)]
theorem idxAt_end (sub : List UInt8) (k : Nat) (l : List UInt8) (h : l.length < sub.length) : idxAt sub k l = -1 := by simp [idxAt, zIdx_short sub l h]
theorem idxAt_hit (sub : List UInt8) (k : Nat) (l : List UInt8) (h : sub.isPrefixOf l = true) : idxAt sub k l = k := by
  cases l <;> simp [idxAt, zIdx, h]
theorem idxAt_miss (sub : List UInt8) (k : Nat) (l : List UInt8) (h : sub.isPrefixOf l = false) : idxAt sub k l = idxAt sub (k + 1) (l.drop 1) := by
  cases l with
  | nil => cases sub <;> simp at h; simp [idxAt, zIdx]
  | cons c t =>
    simp only [idxAt, zIdx, h]
    cases hz : zIdx sub t <;> simp [hz] <;> omega
theorem pre_take (sub l : List UInt8) (h : sub.length ≤ l.length) : sub.isPrefixOf l = (l.take sub.length == sub) := by
  rw [Bool.eq_iff_iff, List.isPrefixOf_iff_prefix, List.prefix_iff_eq_take, beq_iff_eq]
  exact eq_comm



theorem zzIndex_calls (s sub : List UInt8) (w : World) (hs : s.length ≤ 4611686018427387903) (hsub : sub.length ≤ 4611686018427387903) :
    Calls Tryd.prog 24 #[.string ⟨s.toArray⟩, .string ⟨sub.toArray⟩] w fun e w' => e = .returned (.int .i64 (idxAt sub 0 s)) ∧ w = w' := by
  go_enter Tryd.func24, Tryd.ntmps24
  go_wp2

  go_loop [5] (fun i => ∃ k : Nat, k ≤ s.length ∧ i = .int .i64 k ∧ idxAt sub 0 s = idxAt sub k (s.drop k)) (fun i => s.length + 1 - (intOf i).toNat)
  case atStart => exact ⟨0, Nat.zero_le _, rfl, rfl⟩
  case round =>
    obtain ⟨k, hk, rfl, hacc⟩ := hrel
    have HA := hid hacc
    clear hacc
    by_cases hlt : k + sub.length ≤ s.length
    · have h1 : (k : Int) ≤ (k : Int) + (sub.length : Int) := by omega
      go_wp2
      all_goals first
        | (go_ret
           have hh : (List.take sub.length (List.drop k s) == sub) = true := by assumption
           exact ⟨ret_int (by rw [HA.out, idxAt_hit _ _ _ (by rw [pre_take _ _ (by simp; omega)]; exact hh)]), rfl⟩)
        | (go_round
           case rel =>
             have hh : (List.take sub.length (List.drop k s) == sub) = false := by assumption
             have hk2 : k < s.length := by
               rcases Nat.lt_or_ge k s.length with h | h
               · exact h
               · have h0 : sub = [] := List.eq_nil_of_length_eq_zero (by omega)
                 subst h0; simp at hh
             exact ⟨k + 1, by omega, by go_num, by rw [HA.out, idxAt_miss _ _ _ (by rw [pre_take _ _ (by simp; omega)]; exact hh)]; simp⟩
           case measure => simp [intOf]; omega)
    · go_wp2
      go_ret
      exact ⟨ret_int (by rw [HA.out]; exact (idxAt_end _ _ _ (by simp; omega)).symm), rfl⟩

end Go.Proofs.YtbbmboklpfjliaaDoor
