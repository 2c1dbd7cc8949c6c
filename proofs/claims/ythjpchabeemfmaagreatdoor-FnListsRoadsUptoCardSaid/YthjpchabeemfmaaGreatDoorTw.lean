import Derived.Test.YthjpchabeemfmaaGreatDoorGa
namespace Go.Proofs.YthjpchabeemfmaaGreatDoor
open Go.RowKit
set_option linter.unusedVariables false
set_option linter.unusedSimpArgs false
set_option maxHeartbeats 4000000
set_option maxRecDepth 100000
attribute [local go_sem] S_extract S_append run_cut_S run_head_S run_tail_S Nat.add_sub_cancel_left

def txColumns (r : Int) : Nat := if txWide r then 2 else 1
theorem TxColumns_calls (r : Int) (w : World) : Calls Tryz.prog 36 #[.int .i32 r] w fun e w' => e = .returned (.int .i64 (txColumns r)) ∧ w = w' := by
  cases h : txWide r with
  | true =>
    have HF := hid (show txColumns r = 2 by unfold txColumns; rw [h]; rfl)
    go_enter Tryz.func36, Tryz.ntmps36
    go_wp2_with (go_at_call 21; (with_reducible refine (TxWide_calls _ _).mono ?_); rintro e w' ⟨rfl, rfl⟩; rw [h])
    go_ret
    exact ⟨ret_int (by rw [HF.out]; rfl), rfl⟩
  | false =>
    have HF := hid (show txColumns r = 1 by unfold txColumns; rw [h]; rfl)
    go_enter Tryz.func36, Tryz.ntmps36
    go_wp2_with (go_at_call 21; (with_reducible refine (TxWide_calls _ _).mono ?_); rintro e w' ⟨rfl, rfl⟩; rw [h])
    go_ret
    exact ⟨ret_int (by rw [HF.out]; rfl), rfl⟩
def txWidthL : List Int → Nat
  | [] => 0
  | r :: t => (if r = 10 then 0 else txColumns r) + txWidthL t
theorem txColumns_le (r : Int) : txColumns r ≤ 2 := by unfold txColumns; split <;> omega
theorem TxWidth_calls (s : ByteArray) (w : World) (hs : s.size ≤ 1000000000) : Calls Tryz.prog 24 #[.string s] w fun e w' => e = .returned (.int .i64 (txWidthL (runes s))) ∧ Below w.heap.size w w' := by
  go_enter Tryz.func24, Tryz.ntmps24
  go_wp2_with fail
  go_loopw [3] (fun v wr => ∃ (pos fuel n : Nat), v = .int .i64 n ∧ wr.heap[w.heap.size]? = some (.stringIter s pos) ∧ Below w.heap.size w wr ∧ n ≤ 2 * pos ∧ Hid (n + txWidthL (runesFrom s fuel pos) = txWidthL (runes s)) ∧ s.size ≤ pos + fuel) (fun _ wr => s.size - wr.iterPos (w.heap.size))
  case atStart => exact ⟨0, s.size, 0, rfl, by simpa using World.iter_heap w s 0, (Below.refl _ w).alloc (Nat.le_refl _) _, by omega, hid (by simp [runes]), by omega⟩
  case round =>
    obtain ⟨pos, fuel, n, rfl, hit, hbw, hnp, hacc, hfu⟩ := hrel
    by_cases hp : pos < s.size
    · have hnx : ∀ ty, (Instr.next (.pointer (some ⟨w.heap.size, 0, none⟩)) true ty).run Tryz.prog wr = _ := fun ty => Lib.run_next_any_at wr (w.heap.size) s pos ty hit hp
      have hwd := width_pos s pos hp
      have hd1 := decode_le s pos
      have hit2 := Lib.iterAt_heap wr (w.heap.size) s pos (pos + (Utf8.decode s pos).2) hit
      have hbw2 := Lib.below_iterAt hbw (k := w.heap.size) (by omega) s (pos + (Utf8.decode s pos).2)
      obtain ⟨f, rfl⟩ : ∃ f, fuel = f + 1 := ⟨fuel - 1, by omega⟩
      have HA := hid (show n + ((if ((Utf8.decode s pos).1 : Int) = 10 then 0 else txColumns ((Utf8.decode s pos).1 : Int)) + txWidthL (runesFrom s f (pos + (Utf8.decode s pos).2))) = txWidthL (runes s) by rw [← hacc.out, runesFrom_step s f pos hp, txWidthL])
      have hc2 := txColumns_le ((Utf8.decode s pos).1 : Int)
      clear hacc
      by_cases hx : ((Utf8.decode s pos).1 : Int) = 10
      · have HB := hid (show n + txWidthL (runesFrom s f (pos + (Utf8.decode s pos).2)) = txWidthL (runes s) by rw [← HA.out, if_pos hx, Nat.zero_add])
        have e1 : (((Utf8.decode s pos).1 : Int) == 10) = true := by simpa using hx
        have e2 : (((Utf8.decode s pos).1 : Int) != 10) = false := by simpa using hx
        clear HA hx
        go_wp2_with fail
        go_roundw
        case rel => exact ⟨pos + (Utf8.decode s pos).2, f, n, rfl, hit2, hbw2, by omega, HB, by omega⟩
        case measure => simp only [World.iterPos, hit2, hit]; omega
      · have HB := hid (show (n + txColumns ((Utf8.decode s pos).1 : Int)) + txWidthL (runesFrom s f (pos + (Utf8.decode s pos).2)) = txWidthL (runes s) by rw [← HA.out, if_neg hx, Nat.add_assoc])
        have e1 : (((Utf8.decode s pos).1 : Int) == 10) = false := by simpa using hx
        have e2 : (((Utf8.decode s pos).1 : Int) != 10) = true := by simpa using hx
        clear HA hx
        go_wp2_with (go_at_call 36; (with_reducible refine (TxColumns_calls _ _).mono ?_); rintro e w' ⟨rfl, rfl⟩)
        go_roundw
        case rel => exact ⟨pos + (Utf8.decode s pos).2, f, n + txColumns ((Utf8.decode s pos).1 : Int), by go_num, hit2, hbw2, by omega, HB, by omega⟩
        case measure => simp only [World.iterPos, hit2, hit]; omega
    · have hnx : ∀ ty, (Instr.next (.pointer (some ⟨w.heap.size, 0, none⟩)) true ty).run Tryz.prog wr = _ := fun ty => Lib.run_next_end_at wr (w.heap.size) s pos ty hit hp
      have HF := hid (show (n : Int) = (txWidthL (runes s) : Int) by
        have := hacc.out
        rw [runesFrom_end s fuel pos hp, txWidthL, Nat.add_zero] at this
        rw [this])
      clear hacc
      go_wp2_with fail
      go_ret
      exact ⟨ret_int HF.out, hbw⟩
end Go.Proofs.YthjpchabeemfmaaGreatDoor
