import Derived.Test.YtbbmboklpfjliaaI
namespace Go.Proofs.Ytbbmboklpfjliaa
open Go.RowKit
set_option linter.unusedVariables false
set_option linter.unusedSimpArgs false
set_option maxHeartbeats 4000000
set_option maxRecDepth 100000

def painted (rs : List Int) (v : Value) : List Value := rs.flatMap fun r => [.int .i32 r, v]
theorem painted_snoc (rs : List Int) (r : Int) (v : Value) : painted (rs ++ [r]) v = painted rs v ++ [.int .i32 r, v] := by simp [painted]
/-- an iterator, behind an append to a row -/
theorem iter_grown {w w1 : World} {u : Value} {base e sz n : Nat} {xs : List Value} {k : Nat} {s : ByteArray} {pos : Nat} (hk : w.heap[k]? = some (.stringIter s pos)) (ho : w.ownsRow base e sz u n xs) (hg : w.grownBy w1 u.ownBlock) : w1.heap[k]? = some (.stringIter s pos) := by
  refine (hg.block k (Array.getElem?_eq_some_iff.1 hk).1 ?_).trans hk
  intro e1
  obtain ⟨C, fz, hC⟩ := own_typed ho k e1.symm
  rw [hk] at hC
  cases hC
theorem own_iterAt {w : World} {u : Value} {base e sz n : Nat} {xs : List Value} {k : Nat} {s : ByteArray} {pos : Nat} (hk : w.heap[k]? = some (.stringIter s pos)) (ho : w.ownsRow base e sz u n xs) (p : Nat) : (w.iterAt k s p).ownsRow base e sz u n xs := by
  refine own_step ho fun j hj => Lib.iterAt_other w k j s p ?_
  intro e1
  obtain ⟨C, fz, hC⟩ := own_typed ho j hj
  rw [e1, hk] at hC
  cases hC

theorem PtPainted_calls (s : ByteArray) (A : Option Addr) (n c : Nat) (w : World) (hs : s.size ≤ 1000000) :
    Calls Try.prog 6 #[.string s, .slice A n c] w fun e w' => ∃ v, e = .returned v ∧ w'.ownsRow w.heap.size 33 2 v (runes s).length (painted (runes s) (.slice A n c)) ∧ Below w.heap.size w w' := by
  have hlen := runes_len s
  go_enter Try.func6, Try.ntmps6
  go_wp2
  go_loopw [5] (fun vo wr => ∃ (pos f : Nat) (acc : List Int), wr.heap[w.heap.size]? = some (.stringIter s pos) ∧ Below w.heap.size w wr ∧ Hid (runes s = acc ++ runesFrom s f pos) ∧ s.size ≤ pos + f ∧ acc.length ≤ pos ∧ wr.ownsRow w.heap.size 33 2 vo acc.length (painted acc (.slice A n c))) (fun _ wr => s.size - wr.iterPos (w.heap.size))
  case atStart => exact ⟨0, s.size, [], by simpa using World.iter_heap w s 0, (Below.refl _ w).alloc (Nat.le_refl _) _, hid rfl, by omega, by simp, own_nil _ _ _ _⟩
  case round =>
    obtain ⟨pos, f, acc, hit, hbw, hacc, hfu, hal, hown⟩ := hrel
    by_cases hp : pos < s.size
    · have hnx : ∀ ty, (Instr.next (.pointer (some ⟨w.heap.size, 0, none⟩)) true ty).run Try.prog wr = _ := fun ty => Lib.run_next_any_at wr (w.heap.size) s pos ty hit hp
      have hwd := width_pos s pos hp
      have hd1 := decode_le s pos
      have hit2 := Lib.iterAt_heap wr (w.heap.size) s pos (pos + (Utf8.decode s pos).2) hit
      have hbw2 := Lib.below_iterAt hbw (k := w.heap.size) (by omega) s (pos + (Utf8.decode s pos).2)
      have hown2 := own_iterAt hit hown (pos + (Utf8.decode s pos).2)
      have hbs2 := hbw2.size
      obtain ⟨f, rfl⟩ : ∃ g, f = g + 1 := ⟨f - 1, by omega⟩
      have HA := hid (hacc.out.trans (congrArg (acc ++ ·) (runesFrom_step s f pos hp)))
      clear hacc hown
      go_wp2_with (at_builtin; refine append_box rfl _ _ 25 33 (.agg #[.int .i32 0, .slice none 0 0]) 2 32 rfl Try.underlying25 infoCell rfl (by decide) w.heap.size u5 acc.length (painted acc (.slice A n c)) rfl hown2 1 33 [.int .i32 (Utf8.decode s pos).1, .slice A n c] rfl rfl (by simp; exact ⟨rfl, rfl⟩) (by omega) (by decide) hbs2 ?_; intro v2 w2 hown3 hg2)
      go_roundw
      case rel => exact ⟨pos + (Utf8.decode s pos).2, f, acc ++ [((Utf8.decode s pos).1 : Int)], iter_grown hit2 hown2 hg2, below_grown hbw2 hbs2 (Nat.le_refl _) hown2 hg2, hid (by rw [HA.out]; simp), by omega, by simp; omega, by rw [painted_snoc, List.length_append]; exact hown3⟩
      case measure => simp only [World.iterPos, iter_grown hit2 hown2 hg2, hit]; omega
    · have hnx : ∀ ty, (Instr.next (.pointer (some ⟨w.heap.size, 0, none⟩)) true ty).run Try.prog wr = _ := fun ty => Lib.run_next_end_at wr (w.heap.size) s pos ty hit hp
      have HA := hid (show runes s = acc by rw [hacc.out, runesFrom_end s f pos hp, List.append_nil])
      clear hacc
      go_wp2
      go_ret
      exact ⟨_, rfl, by rw [HA.out]; exact hown, hbw⟩
end Go.Proofs.Ytbbmboklpfjliaa
