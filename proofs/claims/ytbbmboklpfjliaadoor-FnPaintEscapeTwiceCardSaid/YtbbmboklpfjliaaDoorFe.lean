import Derived.Test.YtbbmboklpfjliaaDoorD
import Derived.Test.YtbbmboklpfjliaaDoorSh
import Derived.Lib.ItoaNum
import Derived.Lib.ItoaLen
namespace Go.Proofs.YtbbmboklpfjliaaDoor
open Go.RowKit
set_option linter.unusedVariables false
set_option linter.unusedSimpArgs false
set_option maxHeartbeats 4000000
set_option maxRecDepth 100000

theorem decDigits_len (n : Nat) (h : n < 18446744073709551616) : (Lib.decDigits n).length ≤ 20 := by rw [Lib.decDigits_length]; exact Lib.nDigits_le20 n h

/-- the sequence of one code -/
def seq1 (c : Nat) : List UInt8 := 27 :: 91 :: (Lib.decDigits c ++ [109])


def hasSub (s sub : List UInt8) : Bool := (zIdx sub s).isSome
theorem hasSub_idx (s sub : List UInt8) : decide (0 ≤ idxAt sub 0 s) = hasSub s sub := by
  unfold idxAt hasSub
  cases zIdx sub s <;> simp


theorem zzContains_calls (s sub : List UInt8) (w : World) (hs : s.length ≤ 4611686018427387903) (hsub : sub.length ≤ 4611686018427387903) :
    Calls Tryd.prog 19 #[.string ⟨s.toArray⟩, .string ⟨sub.toArray⟩] w fun e w' => e = .returned (.bool (hasSub s sub)) ∧ w = w' := by
  have HH := hid (hasSub_idx s sub)
  go_enter Tryd.func19, Tryd.ntmps19
  go_wp2_with (go_at_call 24; refine (zzIndex_calls s sub _ hs hsub).mono ?_; rintro e w' ⟨rfl, rfl⟩)
  go_ret
  exact ⟨ret_bool HH.out, rfl⟩

/-- what text.Escape comes to -/
def escA (s q : List UInt8) : List UInt8 := (if List.isPrefixOf [27, 91] s then [] else q) ++ repAll [27, 91, 48, 109] (27 :: 91 :: 48 :: 109 :: q) s
def escB (a : List UInt8) : List UInt8 := if [27, 91, 48, 109].isSuffixOf a then a else a ++ [27, 91, 48, 109]
def escC (b q : List UInt8) : List UInt8 := if hasSub b (q ++ [27, 91, 48, 109]) then repAll (q ++ [27, 91, 48, 109]) [] b else b
def esc (s q : List UInt8) : List UInt8 :=
  escC (escB (escA s q)) q

theorem repAllF_nil_len (old : List UInt8) : ∀ (f : Nat) (s : List UInt8), (repAllF old [] f s).length ≤ s.length
  | 0, s => by simp [repAllF]
  | f + 1, s => by
    unfold repAllF
    split
    · simp
    · rename_i i hi
      have := zIdx_bound hi
      have := repAllF_nil_len old f (s.drop (i + old.length))
      simp at this ⊢; omega
theorem repAll_nil_len (old s : List UInt8) : (repAll old [] s).length ≤ s.length := repAllF_nil_len _ _ _

theorem Escape_calls (s q : List UInt8) (w : World) (hs : s.length ≤ 1000000000) (hq : q.length ≤ 1000000000) (hr : (repAll [27, 91, 48, 109] (27 :: 91 :: 48 :: 109 :: q) s).length ≤ 100000000000) :
    Calls Tryd.prog 9 #[.string ⟨s.toArray⟩, .string ⟨q.toArray⟩] w fun e w' => e = .returned (.string ⟨(esc s q).toArray⟩) ∧ Below w.heap.size w w' := by
  have hA : (escA s q).length ≤ 101000000000 := by
    unfold escA; rw [List.length_append]; split
    · simp; omega
    · omega
  have hB : (escB (escA s q)).length ≤ 101000000004 := by
    unfold escB; split
    · omega
    · simp; omega
  have hN := repAll_nil_len (q ++ [27, 91, 48, 109]) (escB (escA s q))
  have hN2 : (repAll (q ++ [27, 91, 48, 109]) [] (escB (escA s q))).length ≤ 140737488355328 := by omega
  have hr2 : (repAll [27, 91, 48, 109] (27 :: 91 :: 48 :: 109 :: q) s).length ≤ 140737488355328 := by omega
  cases hp : List.isPrefixOf [27, 91] s <;> cases hf : [27, 91, 48, 109].isSuffixOf (escA s q) <;> cases hc : hasSub (escB (escA s q)) (q ++ [27, 91, 48, 109])
  all_goals
    have HA := hid (show escA s q = (if List.isPrefixOf [27, 91] s then [] else q) ++ repAll [27, 91, 48, 109] (27 :: 91 :: 48 :: 109 :: q) s from rfl)
    have HB := hid (show escB (escA s q) = if [27, 91, 48, 109].isSuffixOf (escA s q) then escA s q else escA s q ++ [27, 91, 48, 109] from rfl)
    have HC := hid (show esc s q = if hasSub (escB (escA s q)) (q ++ [27, 91, 48, 109]) then repAll (q ++ [27, 91, 48, 109]) [] (escB (escA s q)) else escB (escA s q) from rfl)
    simp only [Hid, hp, hf, hc, if_true, if_false, Bool.false_eq_true, List.nil_append] at HA HB HC
    generalize esc s q = E at *
    generalize escB (escA s q) = b at *
    generalize escA s q = a at *
    replace HA := hid HA
    replace HB := hid HB
    replace HC := hid HC
    have K1 := hid (fun w => zzReplaceAll_calls s [27, 91, 48, 109] (27 :: 91 :: 48 :: 109 :: q) w (by simp) (by omega) (by simp) hr2)
    have K2 := hid (fun w => zzContains_calls b (q ++ [27, 91, 48, 109]) w (by omega) (by simp; omega))
    have K3 := hid (fun w => zzReplaceAll_calls b (q ++ [27, 91, 48, 109]) [] w (by simp) (by omega) (by simp; omega) hN2)
    have K4 := hid (fun w => HasSuffix_calls a [27, 91, 48, 109] w (by omega))
    generalize repAll [27, 91, 48, 109] (27 :: 91 :: 48 :: 109 :: q) s = r1 at *
    generalize repAll (q ++ [27, 91, 48, 109]) [] b = r2 at *
    clear hN
    go_enter Tryd.func9, Tryd.ntmps9
    go_wp2_with (first
      | (go_at_call 13; (with_reducible refine (Grow_st w _ (by omega) (by omega)).mono ?_); rintro e w1 ⟨rfl, hst⟩)
      | (go_at_call 14; (with_reducible refine (HasPrefix_calls s [27, 91] _).mono ?_); rintro e w' ⟨rfl, rfl⟩; rw [hp])
      | (go_at_call 15; (with_reducible refine (WS_st w _ _ _ hst (by first | omega | (simp; done) | (simp; omega))).mono ?_); rintro e w' ⟨rfl, hst'⟩; replace hst := hst'; clear hst')
      | (go_at_call 18; (with_reducible refine (String_st w a _ (by rw [HA.out]; simpa using hst)).mono ?_); rintro e w' ⟨rfl, hst'⟩; replace hst := hst'; clear hst')
      | (go_at_call 18; (with_reducible refine (String_st w b _ (by rw [HB.out]; simpa using hst)).mono ?_); rintro e w' ⟨rfl, hst'⟩; replace hst := hst'; clear hst')
      | (go_at_call 17; (with_reducible refine (K4.out _).mono ?_); rintro e w' ⟨rfl, rfl⟩; rw [hf])
      | (go_at_call 19; (with_reducible refine (K2.out _).mono ?_); rintro e w' ⟨rfl, rfl⟩; rw [hc])
      | (go_at_call 16; (with_reducible refine (K1.out _).mono ?_); rintro e w' ⟨rfl, hb'⟩; replace hst := hst.call hb'; clear hb')
      | (go_at_call 16; (with_reducible refine (K3.out _).mono ?_); rintro e w' ⟨rfl, hb'⟩; replace hst := hst.call hb'; clear hb'))
    go_ret
    exact ⟨ret_str HC.out.symm, hst.below⟩

theorem repAllF_len {old new : List UInt8} (ho : old ≠ []) : ∀ (f : Nat) (s : List UInt8), (repAllF old new f s).length ≤ s.length + s.length * new.length
  | 0, s => by simp [repAllF]
  | f + 1, s => by
    unfold repAllF
    split
    · omega
    · rename_i i hi
      have hb := zIdx_bound hi
      have hl := repAllF_len (new := new) ho f (s.drop (i + old.length))
      have ho1 := List.length_pos_iff.2 ho
      have h1 : (s.length - (i + old.length)) * new.length + new.length ≤ s.length * new.length := by
        have : (s.length - (i + old.length)) + 1 ≤ s.length := by omega
        calc (s.length - (i + old.length)) * new.length + new.length = ((s.length - (i + old.length)) + 1) * new.length := by rw [Nat.add_mul, Nat.one_mul]
          _ ≤ s.length * new.length := Nat.mul_le_mul_right _ this
      simp only [List.length_append, List.length_take, List.length_drop] at hl ⊢
      omega
theorem repAll_len {old new : List UInt8} (ho : old ≠ []) (s : List UInt8) : (repAll old new s).length ≤ s.length + s.length * new.length := repAllF_len ho _ _

theorem seq1_len (c : Nat) (h : c < 1000) : (seq1 c).length ≤ 23 := by
  have := decDigits_len c (by omega)
  simp [seq1]; omega
theorem seq1_ne (c : Nat) : ((seq1 c == []) = false) := by simp [seq1]

theorem Escape_small (s q : List UInt8) (w : World) (hs : s.length ≤ 1000000) (hq : q.length ≤ 1000) :
    Calls Tryd.prog 9 #[.string ⟨s.toArray⟩, .string ⟨q.toArray⟩] w fun e w' => e = .returned (.string ⟨(esc s q).toArray⟩) ∧ Below w.heap.size w w' := by
  refine Escape_calls s q w (by omega) (by omega) ?_
  have h := repAll_len (new := 27 :: 91 :: 48 :: 109 :: q) (old := [27, 91, 48, 109]) (by simp) s
  have h2 : s.length * (27 :: 91 :: 48 :: 109 :: q).length ≤ 1000000 * 1004 := Nat.mul_le_mul hs (by simp; omega)
  omega

end Go.Proofs.YtbbmboklpfjliaaDoor
