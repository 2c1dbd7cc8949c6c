import Derived.Test.YtmljkiohekogbaaGreatDoorXa
import Derived.Test.YtmljkiohekogbaaGreatDoorMv
namespace Go.Proofs.YtmljkiohekogbaaGreatDoor
open Go.RowKit
set_option linter.unusedVariables false
set_option linter.unusedSimpArgs false
set_option maxHeartbeats 4000000
set_option maxRecDepth 100000
attribute [local go_sem] S_extract S_append run_cut_S run_head_S run_tail_S Nat.add_sub_cancel_left

theorem it_grown {w w1 : World} {u : Value} {base e sz n : Nat} {xs : List Value} {k : Nat} {s : ByteArray} {pos : Nat} (hk : w.heap[k]? = some (.stringIter s pos)) (ho : w.ownsRow base e sz u n xs) (hg : w.grownBy w1 u.ownBlock) : w1.heap[k]? = some (.stringIter s pos) := by
  refine (hg.block k (Array.getElem?_eq_some_iff.1 hk).1 ?_).trans hk
  intro e1
  obtain ⟨C, fz, hC⟩ := own_typed ho k e1.symm
  rw [hk] at hC
  cases hC
theorem own_it {w : World} {u : Value} {base e sz n : Nat} {xs : List Value} {k : Nat} {s : ByteArray} {pos : Nat} (hk : w.heap[k]? = some (.stringIter s pos)) (ho : w.ownsRow base e sz u n xs) (p : Nat) : (w.iterAt k s p).ownsRow base e sz u n xs := by
  refine own_step ho fun j hj => Lib.iterAt_other w k j s p ?_
  intro e1
  obtain ⟨C, fz, hC⟩ := own_typed ho j hj
  rw [e1, hk] at hC
  cases hC
theorem infoEscStep : (Tryz.prog.info? 29).map (fun i => (i.zero, i.size, i.bytes)) = some (some (.agg #[.int .i64 0, .int .i32 0, .string ⟨#[]⟩]), 3, 32) := by kernel_rfl
def bools (l : List Bool) : List Value := l.map Value.bool
def stqCells (l : List Stq) : List Value := l.flatMap fun x => [.int .i64 x.kind, .int .i32 x.rune, .string ⟨x.text.toArray⟩]
theorem stqCells_app (a b : List Stq) : stqCells (a ++ b) = stqCells a ++ stqCells b := by simp [stqCells]
theorem stqCells_len (l : List Stq) : (stqCells l).length = l.length * 3 := by
  induction l with
  | nil => rfl
  | cons x t ih =>
    have : stqCells (x :: t) = [.int .i64 x.kind, .int .i32 x.rune, .string ⟨x.text.toArray⟩] ++ stqCells t := rfl
    rw [this, List.length_append, ih]
    simp; omega
theorem stq_get : ∀ {l : List Stq} {i : Nat} {x : Stq}, l[i]? = some x → (stqCells l)[i * 3]? = some (.int .i64 x.kind) ∧ (stqCells l)[i * 3 + 1]? = some (.int .i32 x.rune) ∧ (stqCells l)[i * 3 + 2]? = some (.string ⟨x.text.toArray⟩)
  | [], i, q, h => by simp at h
  | p :: t, 0, q, h => by simp at h; subst h; simp [stqCells]
  | p :: t, i + 1, q, h => by
    have := stq_get (l := t) (i := i) (x := q) (by simpa using h)
    rw [show (i + 1) * 3 = i * 3 + 1 + 1 + 1 by omega]
    simpa [stqCells] using this
/-- the characters of a text, as steps -/
theorem PtSteps_calls (l : List UInt8) (w : World) (hs : l.length ≤ 1000000) :
    Calls Tryz.prog 26 #[.string ⟨l.toArray⟩] w fun e w' => ∃ v, e = .returned v ∧ w'.ownsRow w.heap.size 29 3 v (runesL l).length (stqCells ((runesL l).map cS)) ∧ Below w.heap.size w w' := by
  have hsz : (⟨l.toArray⟩ : ByteArray).size = l.length := S_size l
  have hrs := runes_L l
  generalize (⟨l.toArray⟩ : ByteArray) = s at *
  generalize runesL l = rs at *
  go_enter Tryz.func26, Tryz.ntmps26
  go_wp2
  go_loopw [3] (fun vo wr => ∃ (pos f : Nat) (acc : List Int), wr.heap[w.heap.size]? = some (.stringIter s pos) ∧ Below w.heap.size w wr ∧ Hid (runes s = acc ++ runesFrom s f pos) ∧ s.size ≤ pos + f ∧ acc.length ≤ pos ∧ wr.ownsRow w.heap.size 29 3 vo acc.length (stqCells (acc.map cS))) (fun _ wr => s.size - wr.iterPos (w.heap.size))
  case atStart => exact ⟨0, s.size, [], by simpa using World.iter_heap w s 0, (Below.refl _ w).alloc (Nat.le_refl _) _, hid rfl, by omega, by simp, own_nil _ _ _ _⟩
  case round =>
    obtain ⟨pos, f, acc, hit, hbw, hacc, hfu, hal, hown⟩ := hrel
    by_cases hp : pos < s.size
    · have hnx : ∀ ty, (Instr.next (.pointer (some ⟨w.heap.size, 0, none⟩)) true ty).run Tryz.prog wr = _ := fun ty => Lib.run_next_any_at wr (w.heap.size) s pos ty hit hp
      have hwd := width_pos s pos hp
      have hd1 := decode_le s pos
      have hit2 := Lib.iterAt_heap wr (w.heap.size) s pos (pos + (Utf8.decode s pos).2) hit
      have hbw2 := Lib.below_iterAt hbw (k := w.heap.size) (by omega) s (pos + (Utf8.decode s pos).2)
      have hown2 := own_it hit hown (pos + (Utf8.decode s pos).2)
      have hbs2 := hbw2.size
      obtain ⟨f, rfl⟩ : ∃ g, f = g + 1 := ⟨f - 1, by omega⟩
      have HA := hid (hacc.out.trans (congrArg (acc ++ ·) (runesFrom_step s f pos hp)))
      clear hacc hown
      go_wp2_with (at_builtin; refine append_box rfl _ _ 23 29 (.agg #[.int .i64 0, .int .i32 0, .string ⟨#[]⟩]) 3 32 rfl Tryz.underlying23 infoEscStep rfl (by decide) w.heap.size u3 acc.length (stqCells (acc.map cS)) rfl hown2 1 29 [.int .i64 0, .int .i32 (Utf8.decode s pos).1, .string ⟨#[]⟩] rfl rfl (by simp; exact ⟨rfl, rfl, rfl⟩) (by omega) (by decide) hbs2 ?_; intro v2 w2 hown3 hg2)
      go_roundw
      case rel => exact ⟨pos + (Utf8.decode s pos).2, f, acc ++ [((Utf8.decode s pos).1 : Int)], it_grown hit2 hown2 hg2, below_grown hbw2 hbs2 (Nat.le_refl _) hown2 hg2, hid (by rw [HA.out]; simp), by omega, by simp; omega, by rw [List.map_append, stqCells_app, List.length_append]; exact hown3⟩
      case measure => simp only [World.iterPos, it_grown hit2 hown2 hg2, hit]; omega
    · have hnx : ∀ ty, (Instr.next (.pointer (some ⟨w.heap.size, 0, none⟩)) true ty).run Tryz.prog wr = _ := fun ty => Lib.run_next_end_at wr (w.heap.size) s pos ty hit hp
      have HA := hid (show rs = acc by rw [← hrs, hacc.out, runesFrom_end s f pos hp, List.append_nil])
      clear hacc
      go_wp2
      go_ret
      exact ⟨_, rfl, by rw [HA.out]; exact hown, hbw⟩
end Go.Proofs.YtmljkiohekogbaaGreatDoor
