import Derived.Test.YtfiokjdikhfcaaaDoorW166
import Derived.Test.YtfiokjdikhfcaaaDoorGa
import Derived.Shelf.Strings.BuilderK
import Derived.Shelf.Strings.BuilderRune
import Derived.Test.YtfiokjdikhfcaaaDoorShelf
import Derived.OwnWalk
import Derived.WalkSmall
import Derived.Deep.RegionLaw
import Derived.Deep.AppendLies
namespace Go.Proofs.YtfiokjdikhfcaaaDoor
open Go.RowKit
set_option linter.unusedVariables false
set_option linter.unusedSimpArgs false
set_option maxHeartbeats 4000000
set_option maxRecDepth 100000



/-- the builder at block b, made at or behind B, holds l -/
def Bld (w : World) (B b : Nat) (l : List UInt8) : Prop := Lib.IsBuilderF 58 5 B b (Lib.byteCells l) w
theorem Bld.fresh (w : World) : Bld (w.alloc (.cells #[.pointer none, .slice none 0 0] 58)) w.heap.size w.heap.size [] := Lib.IsBuilderF.of (Lib.fresh_isBuilder 58 5 w)
theorem Bld.alloc {w : World} {B b : Nat} {l : List UInt8} (h : Bld w B b l) (o : Obj) : Bld (w.alloc o) B b l := Lib.IsBuilderF.alloc h o
theorem Bld.iter {w : World} {B b : Nat} {l : List UInt8} (h : Bld w B b l) {k : Nat} {s : ByteArray} {pos : Nat} (hk : w.heap[k]? = some (.stringIter s pos)) (pos' : Nat) : Bld (w.iterAt k s pos') B b l := Lib.IsBuilderF.iterAt h hk pos'

/-- a builder stays one where its own block and the rows of bytes stay -/
theorem Bld.keep {w w' : World} {B b : Nat} {l : List UInt8} (h : Bld w B b l) (hk : ∀ k o, w.heap[k]? = some o → (k = b ∨ ∃ c fz, o = .cells c 5 fz) → w'.heap[k]? = some o) : Bld w' B b l := by
  have go : ∀ p, Lib.BuilderAtF 58 5 B b p (Lib.byteCells l) w → Lib.BuilderAtF 58 5 B b p (Lib.byteCells l) w' := by
    rintro p ⟨hB, v, hb, hown, hne⟩
    refine ⟨hB, v, hk b _ hb (.inl rfl), ⟨hown.1, ?_⟩, hne⟩
    rcases hown.2 with h | ⟨g, cap, cur, fz, rfl, hbg, hg, r⟩
    · exact .inl h
    · exact .inr ⟨g, cap, cur, fz, rfl, hbg, hk g _ hg (.inr ⟨_, _, rfl⟩), r⟩
  exact h.elim (fun x => .inl (go _ x)) (fun x => .inr (go _ x))
theorem Bld.below {w w' : World} {B b : Nat} {l : List UInt8} (h : Bld w B b l) (hb : Below w.heap.size w w') : Bld w' B b l :=
  h.keep fun k o hk _ => (hb.block k (Array.getElem?_eq_some_iff.1 hk).1).trans hk

theorem WriteString_calls (B b : Nat) (l s : List UInt8) (w : World) (h : Bld w B b l) (hlen : l.length + s.length ≤ 140737488355328) (hBw : B ≤ w.heap.size) :
    Calls Tryd.prog 34 #[.pointer (some ⟨b, 0, none⟩), .string ⟨s.toArray⟩] w fun e w' => e = .returned (.tuple #[.int .i64 s.length, .nilIface]) ∧ Bld w' B b (l ++ s) ∧ Below B w w' ∧ Lib.OthersKept 5 (some b) w w' ∧ w.heap.size ≤ w'.heap.size := by
  refine (Go.Proofs.Any.Builder_WriteString_k lays166 extra166 B b (Lib.byteCells l) ⟨s.toArray⟩ w h (by rw [Lib.byteCells_length, S_size]; exact hlen) hBw).mono ?_
  rintro e w' ⟨rfl, h1, h2, h3⟩
  refine ⟨by rw [S_size], ?_, h2, h3, h2.size⟩
  unfold Bld
  rw [Lib.byteCells_append, ← strCells_S s]
  exact Or.inr h1
theorem BuilderString_calls (B b : Nat) (l : List UInt8) (w : World) (h : Bld w B b l) (hBw : B ≤ w.heap.size) :
    Calls Tryd.prog 36 #[.pointer (some ⟨b, 0, none⟩)] w fun e w' => e = .returned (.string ⟨l.toArray⟩) ∧ Bld w' B b l ∧ Below B w w' ∧ Lib.OthersKept 5 (some b) w w' ∧ w.heap.size ≤ w'.heap.size := by
  refine (Tryd.Builder_String_any_k B b l w h hBw).mono ?_
  rintro e w' ⟨rfl, h1, h2, h3⟩
  exact ⟨rfl, h1, h2, h3, h2.size⟩
theorem Grow_calls (w : World) (n : Int) (h0 : 0 ≤ n) (h1 : n ≤ 281474976710656) :
    Calls Tryd.prog 33 #[.pointer (some ⟨w.heap.size, 0, none⟩), .int .i64 n] (w.alloc (.cells #[.pointer none, .slice none 0 0] 58)) fun e w' => e = .returned (.tuple #[]) ∧ Bld w' w.heap.size w.heap.size [] ∧ Below w.heap.size w w' ∧ w.heap.size ≤ w'.heap.size := by
  obtain ⟨k, rfl⟩ := Int.eq_ofNat_of_zero_le h0
  refine (Tryd.Builder_Grow_fresh w.heap.size w.heap.size k _ (Nat.le_refl _) (alloc_heap_new _ _) (by simp) (by omega)).mono ?_
  rintro e w' ⟨rfl, h1, h2⟩
  have hb : Below w.heap.size w w' := ((Below.refl _ w).alloc (Nat.le_refl _) _).trans h2
  exact ⟨rfl, Or.inr (Lib.BuilderAtF.of h1), hb, hb.size⟩

/-- a function's own builder, its first block: what it holds, and that nothing below has turned -/
structure St (w wr : World) (l : List UInt8) : Prop where
  bld : Bld wr w.heap.size w.heap.size l
  below : Below w.heap.size w wr
theorem St.size {w wr : World} {l : List UInt8} (h : St w wr l) : w.heap.size ≤ wr.heap.size := h.below.size
theorem St.call {w wr w2 : World} {l : List UInt8} (h : St w wr l) (hb : Below wr.heap.size wr w2) : St w w2 l := ⟨h.bld.below hb, h.below.trans (hb.mono h.size)⟩
theorem St.fresh (w : World) : St w (w.alloc (.cells #[.pointer none, .slice none 0 0] 58)) [] := ⟨Bld.fresh w, (Below.refl _ w).alloc (Nat.le_refl _) _⟩
theorem Grow_st (w : World) (n : Int) (h0 : 0 ≤ n) (h1 : n ≤ 281474976710656) :
    Calls Tryd.prog 33 #[.pointer (some ⟨w.heap.size, 0, none⟩), .int .i64 n] (w.alloc (.cells #[.pointer none, .slice none 0 0] 58)) fun e w' => e = .returned (.tuple #[]) ∧ St w w' [] :=
  (Grow_calls w n h0 h1).mono fun e w' ⟨h, h1, h2, _⟩ => ⟨h, h1, h2⟩
theorem WS_st (w : World) (l s : List UInt8) (w1 : World) (h : St w w1 l) (hlen : l.length + s.length ≤ 140737488355328) :
    Calls Tryd.prog 34 #[.pointer (some ⟨w.heap.size, 0, none⟩), .string ⟨s.toArray⟩] w1 fun e w' => e = .returned (.tuple #[.int .i64 s.length, .nilIface]) ∧ St w w' (l ++ s) :=
  (WriteString_calls w.heap.size w.heap.size l s w1 h.bld hlen h.size).mono fun e w' ⟨h1, h2, h3, _, _⟩ => ⟨h1, h2, h.below.trans h3⟩
theorem String_st (w : World) (l : List UInt8) (w1 : World) (h : St w w1 l) :
    Calls Tryd.prog 36 #[.pointer (some ⟨w.heap.size, 0, none⟩)] w1 fun e w' => e = .returned (.string ⟨l.toArray⟩) ∧ St w w' l :=
  (BuilderString_calls w.heap.size w.heap.size l w1 h.bld h.size).mono fun e w' ⟨h1, h2, h3, _, _⟩ => ⟨h1, h2, h.below.trans h3⟩

end Go.Proofs.YtfiokjdikhfcaaaDoor

namespace Go.Proofs.YtfiokjdikhfcaaaDoor
open Go.RowKit
set_option linter.unusedVariables false
set_option linter.unusedSimpArgs false
set_option maxHeartbeats 4000000
set_option maxRecDepth 100000

theorem WriteRune_calls (B b : Nat) (l : List UInt8) (r : Int) (hr0 : -2147483648 ≤ r) (hr1 : r ≤ 2147483647) (w : World) (h : Bld w B b l) (hlen : l.length + 4 ≤ 140737488355328) (hBw : B ≤ w.heap.size) :
    Calls Tryd.prog 50 #[.pointer (some ⟨b, 0, none⟩), .int .i32 r] w fun e w' => (∃ n : Nat, e = .returned (.tuple #[.int .i64 n, .nilIface])) ∧ Bld w' B b (l ++ Lib.encodeRune r) ∧ Below B w w' ∧ Lib.OthersKept 5 (some b) w w' ∧ w.heap.size ≤ w'.heap.size := by
  refine (Go.Proofs.Any.Builder_WriteRune_k lays168 extra168 B b (Lib.byteCells l) r hr0 hr1 w h (by rw [Lib.byteCells_length]; exact hlen) hBw).mono ?_
  rintro e w' ⟨rfl, h1, h2, h3⟩
  refine ⟨⟨_, rfl⟩, ?_, h2, h3, h2.size⟩
  unfold Bld
  rw [Lib.byteCells_append, Lib.byteCells_encodeRune]
  exact Or.inr h1
end Go.Proofs.YtfiokjdikhfcaaaDoor

namespace Go.Proofs.YtfiokjdikhfcaaaDoor
open Go.RowKit
set_option linter.unusedVariables false
set_option linter.unusedSimpArgs false
set_option maxHeartbeats 4000000
set_option maxRecDepth 100000
attribute [local go_sem] S_extract S_append run_cut_S run_head_S run_tail_S Nat.add_sub_cancel_left
end Go.Proofs.YtfiokjdikhfcaaaDoor

namespace Go.Proofs.YtfiokjdikhfcaaaDoor
open Go.RowKit
set_option linter.unusedVariables false
set_option linter.unusedSimpArgs false
set_option maxHeartbeats 4000000
set_option maxRecDepth 100000
attribute [local go_sem] S_extract S_append run_cut_S run_head_S run_tail_S Nat.add_sub_cancel_left
end Go.Proofs.YtfiokjdikhfcaaaDoor

namespace Go.Proofs.YtfiokjdikhfcaaaDoor
open Go.RowKit
set_option linter.unusedVariables false
set_option linter.unusedSimpArgs false
set_option maxHeartbeats 4000000
set_option maxRecDepth 100000
attribute [local go_sem] S_extract S_append run_cut_S run_head_S run_tail_S Nat.add_sub_cancel_left
end Go.Proofs.YtfiokjdikhfcaaaDoor
