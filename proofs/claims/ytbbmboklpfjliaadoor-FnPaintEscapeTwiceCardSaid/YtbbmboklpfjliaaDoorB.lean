import Derived.Test.YtbbmboklpfjliaaDoorA
import Derived.Test.YtbbmboklpfjliaaDoorU
namespace Go.Proofs.YtbbmboklpfjliaaDoor
open Go.RowKit
set_option linter.unusedVariables false
set_option linter.unusedSimpArgs false
set_option maxHeartbeats 4000000
set_option maxRecDepth 100000

def txSimpleL (l : List Int) (lines : Bool) : Bool := l.all fun r => txKnown r || (lines && r == 10)
def txSimple (s : ByteArray) (lines : Bool) : Bool := txSimpleL (runes s) lines



theorem TxSimple_calls (s : ByteArray) (lines : Bool) (w : World) (hs : s.size ≤ 9223372036854775807) : Calls Tryd.prog 4 #[.string s, .bool lines] w fun e w' => e = .returned (.bool (txSimple s lines)) ∧ Below w.heap.size w w' := by
  go_enter Tryd.func4, Tryd.ntmps4
  go_wp2
  go_loopw [] (fun wr => ∃ (pos fuel : Nat), wr.heap[w.heap.size]? = some (.stringIter s pos) ∧ Below w.heap.size w wr ∧ txSimpleL (runesFrom s fuel pos) lines = txSimple s lines ∧ s.size ≤ pos + fuel) (fun wr => s.size - wr.iterPos (w.heap.size))
  case atStart => exact ⟨0, s.size, by simpa using World.iter_heap w s 0, (Below.refl _ w).alloc (Nat.le_refl _) _, rfl, by omega⟩
  case round =>
    obtain ⟨pos, fuel, hit, hbw, hacc, hfu⟩ := hrel
    by_cases hp : pos < s.size
    · have hnx : ∀ ty, (Instr.next (.pointer (some ⟨w.heap.size, 0, none⟩)) true ty).run Tryd.prog wr = _ := fun ty => Lib.run_next_any_at wr (w.heap.size) s pos ty hit hp
      have hwd := width_pos s pos hp
      have hd1 := decode_le s pos
      have hit2 := Lib.iterAt_heap wr (w.heap.size) s pos (pos + (Utf8.decode s pos).2) hit
      have hbw2 := Lib.below_iterAt hbw (k := w.heap.size) (by omega) s (pos + (Utf8.decode s pos).2)
      obtain ⟨f, rfl⟩ : ∃ f, fuel = f + 1 := ⟨fuel - 1, by omega⟩
      have HA := hid (hacc.symm.trans (congrArg (txSimpleL · lines) (runesFrom_step s f pos hp)))
      clear hacc
      cases hk : txKnown ((Utf8.decode s pos).1 : Int) <;> cases lines <;> cases hl : (((Utf8.decode s pos).1 : Int) == 10)
      all_goals go_wp2_with (go_at_call 8; refine (TxKnown_calls _ _).mono ?_; rintro e w' ⟨rfl, rfl⟩)
      all_goals first
        | (go_ret; exact ⟨ret_bool (by rw [HA.out]; simp [txSimpleL, *]), hbw2⟩)
        | (go_roundw
           case rel => exact ⟨pos + (Utf8.decode s pos).2, f, hit2, hbw2, by rw [HA.out]; simp [txSimpleL, *], by omega⟩
           case measure => simp only [World.iterPos, hit2, hit]; omega)
    · have hnx : ∀ ty, (Instr.next (.pointer (some ⟨w.heap.size, 0, none⟩)) true ty).run Tryd.prog wr = _ := fun ty => Lib.run_next_end_at wr (w.heap.size) s pos ty hit hp
      go_wp2
      go_ret
      rw [runesFrom_end s fuel pos hp] at hacc
      exact ⟨ret_bool hacc, hbw⟩

end Go.Proofs.YtbbmboklpfjliaaDoor
