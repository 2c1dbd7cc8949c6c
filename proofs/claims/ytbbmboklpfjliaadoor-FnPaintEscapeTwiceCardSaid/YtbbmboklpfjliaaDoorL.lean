import Derived.WalkKit
import Derived.KernelRfl
import Derived.BigCall
import Derived.Lib.OthersKept
import Derived.Lib.Strings
namespace Go.Proofs.YtbbmboklpfjliaaDoor
open Go.RowKit
set_option linter.unusedVariables false
set_option linter.unusedSimpArgs false
set_option maxHeartbeats 4000000
set_option maxRecDepth 100000

theorem hid {p : Prop} (h : p) : Hid p := h
theorem ret_bool {a b : Bool} (h : a = b) : Ending.returned (.bool a) = .returned (.bool b) := by rw [h]
theorem ret_int {k : IntKind} {a b : Int} (h : a = b) : Ending.returned (.int k a) = .returned (.int k b) := by rw [h]
theorem ret_str {a b : List UInt8} (h : a = b) : Ending.returned (.string ⟨a.toArray⟩) = .returned (.string ⟨b.toArray⟩) := by rw [h]

def strLen : Value → Nat | .string s => s.size | _ => 0
theorem strLen_S (l : List UInt8) : strLen (.string ⟨l.toArray⟩) = l.length := by simp [strLen, ByteArray.size]
theorem S_size (l : List UInt8) : (⟨l.toArray⟩ : ByteArray).size = l.length := by simp [ByteArray.size]
@[go_sem] theorem S_extract (l : List UInt8) (a b : Nat) : (⟨l.toArray⟩ : ByteArray).extract a b = ⟨((l.drop a).take (b - a)).toArray⟩ := by
  have h : ((⟨l.toArray⟩ : ByteArray).extract a b).data.toList = ((l.drop a).take (b - a)) := by rw [Lib.extract_data]
  generalize (⟨l.toArray⟩ : ByteArray).extract a b = x at h ⊢
  cases x with
  | mk d => simp at h; rw [← h]

@[go_sem] theorem S_append (a b : List UInt8) : (⟨a.toArray⟩ : ByteArray) ++ ⟨b.toArray⟩ = ⟨(a ++ b).toArray⟩ := by
  apply ByteArray.ext
  simp
attribute [go_sem] Nat.add_sub_cancel_left

section
variable {P : Program} (w : World)

/-- s[a:b] of a text whose bytes are told. -/
@[go_sem] theorem run_cut_S (t : TypeId) (ht : P.underlying t = some .string) (l : List UInt8) (ka kb : IntKind) (a b : Int) (h0 : 0 ≤ a) (h1 : a ≤ b) (h2 : b ≤ (l.length : Int)) :
    (Instr.slice t (.string ⟨l.toArray⟩) (some (.int ka a)) (some (.int kb b)) none).run P w = .ok (.string ⟨((l.drop a.toNat).take (b.toNat - a.toNat)).toArray⟩) w := by
  have e : (b.toNat : Int) = b := Int.toNat_of_nonneg (by omega)
  have hb : b ≤ ((⟨l.toArray⟩ : ByteArray).size : Int) := by rw [S_size]; exact h2
  have hbs : (Instr.sliceBounds false (⟨l.toArray⟩ : ByteArray).size (⟨l.toArray⟩ : ByteArray).size (some (.int ka a)) (some (.int kb b)) none).run P w = .ok (a.toNat, b.toNat, (⟨l.toArray⟩ : ByteArray).size) w := by
    have hb0 : 0 ≤ b := by omega
    simp [Instr.sliceBounds, run_sliceBound, hb0, hb, h0, h1, e, Sem.run_bind, Result.andThen, Sem.run]
  simp [Instr.slice, run_underlying ht, Sem.run_bind, Result.andThen, hbs, S_extract, Sem.run]
@[go_sem] theorem run_head_S (t : TypeId) (ht : P.underlying t = some .string) (l : List UInt8) (kb : IntKind) (b : Int) (h1 : 0 ≤ b) (h2 : b ≤ (l.length : Int)) :
    (Instr.slice t (.string ⟨l.toArray⟩) none (some (.int kb b)) none).run P w = .ok (.string ⟨(l.take b.toNat).toArray⟩) w := by
  have hb : b ≤ ((⟨l.toArray⟩ : ByteArray).size : Int) := by rw [S_size]; exact h2
  have hbs : (Instr.sliceBounds false (⟨l.toArray⟩ : ByteArray).size (⟨l.toArray⟩ : ByteArray).size none (some (.int kb b)) none).run P w = .ok (0, b.toNat, (⟨l.toArray⟩ : ByteArray).size) w := by
    simp [Instr.sliceBounds, run_sliceBound, hb, h1, Sem.run_bind, Result.andThen, Sem.run]
  simp [Instr.slice, run_underlying ht, Sem.run_bind, Result.andThen, hbs, S_extract, Sem.run]
@[go_sem] theorem run_tail_S (t : TypeId) (ht : P.underlying t = some .string) (l : List UInt8) (ka : IntKind) (a : Int) (h1 : 0 ≤ a) (h2 : a ≤ (l.length : Int)) :
    (Instr.slice t (.string ⟨l.toArray⟩) (some (.int ka a)) none none).run P w = .ok (.string ⟨(l.drop a.toNat).toArray⟩) w := by
  have hb : a ≤ ((⟨l.toArray⟩ : ByteArray).size : Int) := by rw [S_size]; exact h2
  have hbs : (Instr.sliceBounds false (⟨l.toArray⟩ : ByteArray).size (⟨l.toArray⟩ : ByteArray).size (some (.int ka a)) none none).run P w = .ok (a.toNat, (⟨l.toArray⟩ : ByteArray).size, (⟨l.toArray⟩ : ByteArray).size) w := by
    simp [Instr.sliceBounds, run_sliceBound, hb, h1, Sem.run_bind, Result.andThen, Sem.run]
  simp [Instr.slice, run_underlying ht, Sem.run_bind, Result.andThen, hbs, S_extract, Sem.run]
  rw [S_size, List.take_of_length_le (by simp)]
end
end Go.Proofs.YtbbmboklpfjliaaDoor
