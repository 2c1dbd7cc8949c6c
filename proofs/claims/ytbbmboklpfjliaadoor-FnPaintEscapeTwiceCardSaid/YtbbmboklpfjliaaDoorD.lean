import Derived.Test.YtbbmboklpfjliaaDoorC
import Derived.Test.YtbbmboklpfjliaaDoorM
namespace Go.Proofs.YtbbmboklpfjliaaDoor
open Go.RowKit
set_option linter.unusedVariables false
set_option linter.unusedSimpArgs false
set_option maxHeartbeats 4000000
set_option maxRecDepth 100000

theorem infoByte : (Tryd.prog.info? 5).map (fun i => (i.zero, i.size, i.bytes)) = some (some (.int .u8 0), 1, 1) := by kernel_rfl

def repAllF (old new : List UInt8) : Nat → List UInt8 → List UInt8
  | 0, s => s
  | f + 1, s => match zIdx old s with
    | none => s
    | some i => s.take i ++ (new ++ repAllF old new f (s.drop (i + old.length)))
def repAll (old new s : List UInt8) : List UInt8 := repAllF old new (s.length + 1) s

theorem zIdx_bound {old : List UInt8} : ∀ {s : List UInt8} {i : Nat}, zIdx old s = some i → i + old.length ≤ s.length
  | [], i, h => by
    unfold zIdx at h
    split at h
    · rename_i hp
      have := (List.isPrefixOf_iff_prefix.1 hp).length_le
      simp at h; subst h; simpa using this
    · cases h
  | c :: t, i, h => by
    unfold zIdx at h
    split at h
    · rename_i hp
      have := (List.isPrefixOf_iff_prefix.1 hp).length_le
      simp at h; subst h; simpa using this
    · simp at h
      obtain ⟨j, hj, rfl⟩ := h
      have := zIdx_bound hj
      simp; omega

theorem repAllF_none {old new s : List UInt8} (f : Nat) (h : zIdx old s = none) : repAllF old new (f + 1) s = s := by simp [repAllF, h]
theorem repAllF_some {old new s : List UInt8} (f : Nat) {i : Nat} (h : zIdx old s = some i) : repAllF old new (f + 1) s = s.take i ++ (new ++ repAllF old new f (s.drop (i + old.length))) := by simp [repAllF, h]



theorem zzReplaceAll_calls (s old new : List UInt8) (w : World) (ho : old ≠ []) (hs : s.length ≤ 140737488355328) (hold : old.length ≤ 140737488355328) (hlen : (repAll old new s).length ≤ 140737488355328) :
    Calls Tryd.prog 16 #[.string ⟨s.toArray⟩, .string ⟨old.toArray⟩, .string ⟨new.toArray⟩] w fun e w' => e = .returned (.string ⟨(repAll old new s).toArray⟩) ∧ Below w.heap.size w w' := by
  have hop : 0 < old.length := List.length_pos_iff.2 ho
  have hol : ((old.length : Int) == 0) = false := by rw [beq_eq_false_iff_ne]; omega
  go_enter Tryd.func16, Tryd.ntmps16
  go_wp2
  go_loopw [0, 7] (fun vs v wr => ∃ (rest acc : List UInt8) (f : Nat), vs = .string ⟨rest.toArray⟩ ∧ OwnB wr 5 w.heap.size v acc ∧ Below w.heap.size w wr ∧ acc ++ repAllF old new f rest = repAll old new s ∧ rest.length < f ∧ rest.length ≤ s.length) (fun vs _ _ => strLen vs)
  case atStart => exact ⟨s, [], s.length + 1, rfl, OwnB.nil _ _ _, Below.refl _ w, rfl, by omega, Nat.le_refl _⟩
  case round =>
    obtain ⟨rest, acc, f, rfl, hown, hbw, hacc, hf, hrl⟩ := hrel
    obtain ⟨f, rfl⟩ : ∃ g, f = g + 1 := ⟨f - 1, by omega⟩
    have hbs := hbw.size
    have htot : (acc ++ repAllF old new (f + 1) rest).length ≤ 140737488355328 := by rw [hacc]; exact hlen
    have HA := hid hacc
    have HT := hid htot
    clear hacc htot
    cases hz : zIdx old rest with
    | none =>
      have hi : idxAt old 0 rest = -1 := by simp [idxAt, hz]
      have HR := hid (repAllF_none (new := new) f hz)
      have hb1 : acc.length + rest.length ≤ 140737488355328 := by have := HT.out; rw [HR.out] at this; simpa using this
      clear hz
      go_wp2_with (first
        | (go_at_call 24; refine (zzIndex_calls rest old _ (by omega) (by omega)).mono ?_; rintro e w' ⟨rfl, rfl⟩; rw [hi])
        | (at_builtin; refine append_S _ rfl _ _ _ _ 5 rfl Tryd.underlying31 Tryd.underlying9 infoByte w.heap.size _ acc rest rfl hown rfl hb1 hbs ?_; intro v1 w1 hown1 hg1; have hcv := convert_S w1 Tryd.underlying31 Tryd.underlying5 Tryd.underlying9 hown1))
      go_ret
      exact ⟨ret_str (by rw [← HA.out, HR.out]), hown.below_grown hbw hbs (Nat.le_refl _) hg1⟩
    | some i =>
      have hi : idxAt old 0 rest = (i : Int) := by simp [idxAt, hz]
      have hib := zIdx_bound hz
      have HR := hid (repAllF_some (new := new) f hz)
      have hb1 : acc.length + (rest.take i).length ≤ 140737488355328 := by have := HT.out; rw [HR.out] at this; simp at this ⊢; omega
      have hb2 : (acc ++ rest.take i).length + new.length ≤ 140737488355328 := by have := HT.out; rw [HR.out] at this; simp at this ⊢; omega
      have hi1 : (i : Int) ≤ (rest.length : Int) := by omega
      have hi2 : (i : Int) + (old.length : Int) ≤ (rest.length : Int) := by omega
      clear hz
      go_wp2_with (first
        | (go_at_call 24; refine (zzIndex_calls rest old _ (by omega) (by omega)).mono ?_; rintro e w' ⟨rfl, rfl⟩; rw [hi])
        | (at_builtin; refine append_S _ rfl _ _ _ _ 5 rfl Tryd.underlying31 Tryd.underlying9 infoByte w.heap.size _ acc (rest.take i) rfl hown rfl hb1 hbs ?_; intro v1 w1 hown1 hg1; have hbs1 := Nat.le_trans hbs hg1.size)
        | (at_builtin; refine append_S _ rfl _ _ _ _ 5 rfl Tryd.underlying31 Tryd.underlying9 infoByte w.heap.size _ (acc ++ rest.take i) new rfl hown1 rfl hb2 hbs1 ?_; intro v2 w2 hown2 hg2))
      go_roundw
      case rel =>
        refine ⟨rest.drop (i + old.length), acc ++ rest.take i ++ new, f, by rw [List.take_of_length_le (by simp)], hown2, ?_, ?_, by simp; omega, by simp; omega⟩
        · exact hown1.below_grown (hown.below_grown hbw hbs (Nat.le_refl _) hg1) hbs1 (Nat.le_refl _) hg2
        · rw [← HA.out, HR.out]; simp
      case measure => simp [strLen, ByteArray.size]; omega
end Go.Proofs.YtbbmboklpfjliaaDoor
