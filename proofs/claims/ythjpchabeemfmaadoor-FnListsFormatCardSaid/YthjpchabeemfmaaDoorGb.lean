import Derived.Test.YthjpchabeemfmaaDoorW166
import Derived.Test.YthjpchabeemfmaaDoorGa
import Derived.Shelf.Strings.BuilderK
import Derived.Shelf.Strings.BuilderRune
import Derived.Test.YthjpchabeemfmaaDoorShelf
import Derived.OwnWalk
import Derived.WalkSmall
import Derived.Deep.RegionLaw
import Derived.Deep.AppendLies
namespace Go.Proofs.YthjpchabeemfmaaDoor
open Go.RowKit
set_option linter.unusedVariables false
set_option linter.unusedSimpArgs false
set_option maxHeartbeats 4000000
set_option maxRecDepth 100000



/-- the builder at block b, made at or behind B, holds l -/
def Bld (w : World) (B b : Nat) (l : List UInt8) : Prop := Lib.IsBuilderF 58 5 B b (Lib.byteCells l) w
theorem Bld.fresh (w : World) : Bld (w.alloc (.cells #[.pointer none, .slice none 0 0] 58)) w.heap.size w.heap.size [] := Lib.IsBuilderF.of (Lib.fresh_isBuilder 58 5 w)
theorem Bld.alloc {w : World} {B b : Nat} {l : List UInt8} (h : Bld w B b l) (o : Obj) : Bld (w.alloc o) B b l := Lib.IsBuilderF.alloc h o
theorem Bld.iter {w : World} {B b : Nat} {l : List UInt8} (h : Bld w B b l) {k : Nat} {s : ByteArray} {pos : Nat} (hk : w.heap[k]? = some (.stringIter s pos)) (pos' : Nat) : Bld (w.iterAt k s pos') B b l := Lib.IsBuilderF.iterAt h hk pos'

/-- a builder stays one where its own block and the rows of bytes stay -/
theorem Bld.keep {w w' : World} {B b : Nat} {l : List UInt8} (h : Bld w B b l) (hk : ∀ k o, w.heap[k]? = some o → (k = b ∨ ∃ c fz, o = .cells c 5 fz) → w'.heap[k]? = some o) : Bld w' B b l := by
  have go : ∀ p, Lib.BuilderAtF 58 5 B b p (Lib.byteCells l) w → Lib.BuilderAtF 58 5 B b p (Lib.byteCells l) w' := by
    rintro p ⟨hB, v, hb, hown, hne⟩
    refine ⟨hB, v, hk b _ hb (.inl rfl), ⟨hown.1, ?_⟩, hne⟩
    rcases hown.2 with h | ⟨g, cap, cur, fz, rfl, hbg, hg, r⟩
    · exact .inl h
    · exact .inr ⟨g, cap, cur, fz, rfl, hbg, hk g _ hg (.inr ⟨_, _, rfl⟩), r⟩
  exact h.elim (fun x => .inl (go _ x)) (fun x => .inr (go _ x))
theorem Bld.below {w w' : World} {B b : Nat} {l : List UInt8} (h : Bld w B b l) (hb : Below w.heap.size w w') : Bld w' B b l :=
  h.keep fun k o hk _ => (hb.block k (Array.getElem?_eq_some_iff.1 hk).1).trans hk

theorem WriteString_calls (B b : Nat) (l s : List UInt8) (w : World) (h : Bld w B b l) (hlen : l.length + s.length ≤ 140737488355328) (hBw : B ≤ w.heap.size) :
    Calls Tryd.prog 42 #[.pointer (some ⟨b, 0, none⟩), .string ⟨s.toArray⟩] w fun e w' => e = .returned (.tuple #[.int .i64 s.length, .nilIface]) ∧ Bld w' B b (l ++ s) ∧ Below B w w' ∧ Lib.OthersKept 5 (some b) w w' ∧ w.heap.size ≤ w'.heap.size := by
  refine (Go.Proofs.Any.Builder_WriteString_k lays166 extra166 B b (Lib.byteCells l) ⟨s.toArray⟩ w h (by rw [Lib.byteCells_length, S_size]; exact hlen) hBw).mono ?_
  rintro e w' ⟨rfl, h1, h2, h3⟩
  refine ⟨by rw [S_size], ?_, h2, h3, h2.size⟩
  unfold Bld
  rw [Lib.byteCells_append, ← strCells_S s]
  exact Or.inr h1
theorem BuilderString_calls (B b : Nat) (l : List UInt8) (w : World) (h : Bld w B b l) (hBw : B ≤ w.heap.size) :
    Calls Tryd.prog 44 #[.pointer (some ⟨b, 0, none⟩)] w fun e w' => e = .returned (.string ⟨l.toArray⟩) ∧ Bld w' B b l ∧ Below B w w' ∧ Lib.OthersKept 5 (some b) w w' ∧ w.heap.size ≤ w'.heap.size := by
  refine (Tryd.Builder_String_any_k B b l w h hBw).mono ?_
  rintro e w' ⟨rfl, h1, h2, h3⟩
  exact ⟨rfl, h1, h2, h3, h2.size⟩
theorem Grow_calls (w : World) (n : Int) (h0 : 0 ≤ n) (h1 : n ≤ 281474976710656) :
    Calls Tryd.prog 35 #[.pointer (some ⟨w.heap.size, 0, none⟩), .int .i64 n] (w.alloc (.cells #[.pointer none, .slice none 0 0] 58)) fun e w' => e = .returned (.tuple #[]) ∧ Bld w' w.heap.size w.heap.size [] ∧ Below w.heap.size w w' ∧ w.heap.size ≤ w'.heap.size := by
  obtain ⟨k, rfl⟩ := Int.eq_ofNat_of_zero_le h0
  refine (Tryd.Builder_Grow_fresh w.heap.size w.heap.size k _ (Nat.le_refl _) (alloc_heap_new _ _) (by simp) (by omega)).mono ?_
  rintro e w' ⟨rfl, h1, h2⟩
  have hb : Below w.heap.size w w' := ((Below.refl _ w).alloc (Nat.le_refl _) _).trans h2
  exact ⟨rfl, Or.inr (Lib.BuilderAtF.of h1), hb, hb.size⟩

/-- a function's own builder, its first block: what it holds, and that nothing below has turned -/
structure St (w wr : World) (l : List UInt8) : Prop where
  bld : Bld wr w.heap.size w.heap.size l
  below : Below w.heap.size w wr
theorem St.size {w wr : World} {l : List UInt8} (h : St w wr l) : w.heap.size ≤ wr.heap.size := h.below.size
theorem St.call {w wr w2 : World} {l : List UInt8} (h : St w wr l) (hb : Below wr.heap.size wr w2) : St w w2 l := ⟨h.bld.below hb, h.below.trans (hb.mono h.size)⟩
theorem St.fresh (w : World) : St w (w.alloc (.cells #[.pointer none, .slice none 0 0] 58)) [] := ⟨Bld.fresh w, (Below.refl _ w).alloc (Nat.le_refl _) _⟩
theorem Grow_st (w : World) (n : Int) (h0 : 0 ≤ n) (h1 : n ≤ 281474976710656) :
    Calls Tryd.prog 35 #[.pointer (some ⟨w.heap.size, 0, none⟩), .int .i64 n] (w.alloc (.cells #[.pointer none, .slice none 0 0] 58)) fun e w' => e = .returned (.tuple #[]) ∧ St w w' [] :=
  (Grow_calls w n h0 h1).mono fun e w' ⟨h, h1, h2, _⟩ => ⟨h, h1, h2⟩
theorem WS_st (w : World) (l s : List UInt8) (w1 : World) (h : St w w1 l) (hlen : l.length + s.length ≤ 140737488355328) :
    Calls Tryd.prog 42 #[.pointer (some ⟨w.heap.size, 0, none⟩), .string ⟨s.toArray⟩] w1 fun e w' => e = .returned (.tuple #[.int .i64 s.length, .nilIface]) ∧ St w w' (l ++ s) :=
  (WriteString_calls w.heap.size w.heap.size l s w1 h.bld hlen h.size).mono fun e w' ⟨h1, h2, h3, _, _⟩ => ⟨h1, h2, h.below.trans h3⟩
theorem String_st (w : World) (l : List UInt8) (w1 : World) (h : St w w1 l) :
    Calls Tryd.prog 44 #[.pointer (some ⟨w.heap.size, 0, none⟩)] w1 fun e w' => e = .returned (.string ⟨l.toArray⟩) ∧ St w w' l :=
  (BuilderString_calls w.heap.size w.heap.size l w1 h.bld h.size).mono fun e w' ⟨h1, h2, h3, _, _⟩ => ⟨h1, h2, h.below.trans h3⟩

theorem HasPrefix_calls (s p : List UInt8) (w : World) : Calls Tryd.prog 74 #[.string ⟨s.toArray⟩, .string ⟨p.toArray⟩] w fun e w' => e = .returned (.bool (p.isPrefixOf s)) ∧ w = w' := by
  refine (Tryd.strings_HasPrefix ⟨s.toArray⟩ ⟨p.toArray⟩ w).mono ?_
  rintro e w' ⟨rfl, rfl⟩; exact ⟨rfl, rfl⟩
end Go.Proofs.YthjpchabeemfmaaDoor

namespace Go.Proofs.YthjpchabeemfmaaDoor
open Go.RowKit
set_option linter.unusedVariables false
set_option linter.unusedSimpArgs false
set_option maxHeartbeats 4000000
set_option maxRecDepth 100000

theorem WriteRune_calls (B b : Nat) (l : List UInt8) (r : Int) (hr0 : -2147483648 ≤ r) (hr1 : r ≤ 2147483647) (w : World) (h : Bld w B b l) (hlen : l.length + 4 ≤ 140737488355328) (hBw : B ≤ w.heap.size) :
    Calls Tryd.prog 57 #[.pointer (some ⟨b, 0, none⟩), .int .i32 r] w fun e w' => (∃ n : Nat, e = .returned (.tuple #[.int .i64 n, .nilIface])) ∧ Bld w' B b (l ++ Lib.encodeRune r) ∧ Below B w w' ∧ Lib.OthersKept 5 (some b) w w' ∧ w.heap.size ≤ w'.heap.size := by
  refine (Go.Proofs.Any.Builder_WriteRune_k lays168 extra168 B b (Lib.byteCells l) r hr0 hr1 w h (by rw [Lib.byteCells_length]; exact hlen) hBw).mono ?_
  rintro e w' ⟨rfl, h1, h2, h3⟩
  refine ⟨⟨_, rfl⟩, ?_, h2, h3, h2.size⟩
  unfold Bld
  rw [Lib.byteCells_append, Lib.byteCells_encodeRune]
  exact Or.inr h1
end Go.Proofs.YthjpchabeemfmaaDoor

namespace Go.Proofs.YthjpchabeemfmaaDoor
open Go.RowKit
set_option linter.unusedVariables false
set_option linter.unusedSimpArgs false
set_option maxHeartbeats 4000000
set_option maxRecDepth 100000
attribute [local go_sem] S_extract S_append run_cut_S run_head_S run_tail_S Nat.add_sub_cancel_left

/-- a byte as HTML has it -/
def escB1 (b : UInt8) : List UInt8 := if b = 60 then [38, 108, 116, 59] else if b = 62 then [38, 103, 116, 59] else if b = 38 then [38, 97, 109, 112, 59] else if b = 39 then [38, 35, 51, 57, 59] else if b = 34 then [38, 35, 51, 52, 59] else [b]
def escH (l : List UInt8) : List UInt8 := l.flatMap escB1
theorem escH_cons (b : UInt8) (l : List UInt8) : escH (b :: l) = escB1 b ++ escH l := rfl
theorem escB1_len (b : UInt8) : (escB1 b).length ≤ 5 := by
  unfold escB1
  repeat' split
  all_goals simp
theorem escH_len (l : List UInt8) : (escH l).length ≤ 5 * l.length := by
  induction l with
  | nil => simp [escH]
  | cons b l ih => have := escB1_len b; rw [escH_cons]; simp; omega

@[go_sem] theorem as_str (v : Value) (w : World) : (Instr.typeAssert (.iface 9 v) 20 9 true).run Tryd.prog w = .ok (.tuple #[v, .bool true]) w := by kernel_rfl
theorem zzText_calls (s : List UInt8) (w : World) :
    Calls Tryd.prog 70 #[.iface 9 (.string ⟨s.toArray⟩)] w fun e w' => e = .returned (.string ⟨s.toArray⟩) ∧ w = w' := by
  go_enter Tryd.func70, Tryd.ntmps70
  go_wp2_with fail
  go_ret
  exact ⟨rfl, rfl⟩

theorem repAll_no {x : UInt8} {p new s : List UInt8} (h : ∀ b ∈ s, b ≠ x) : repAll (x :: p) new s = s := by
  have := repAll_skip p new [] h
  simpa [repAll_nil] using this
theorem hasSub_no {x : UInt8} {p s : List UInt8} (h : ∀ b ∈ s, b ≠ x) : hasSub s (x :: p) = false := by
  have := hasSub_skip p [] h
  simpa [hasSub_nil] using this
/-- a text without tabs and carriage returns -/
def Cl (s : List UInt8) : Prop := ∀ b ∈ s, b ≠ 9 ∧ b ≠ 13

theorem ProcessCRLF_calls (s : List UInt8) (w : World) (hs : s.length ≤ 1000000000) (h : ∀ b ∈ s, b ≠ 13) :
    Calls Tryd.prog 71 #[.string ⟨s.toArray⟩] w fun e w' => e = .returned (.string ⟨s.toArray⟩) ∧ Below w.heap.size w w' := by
  have K1 := hid (zzReplaceAll_calls s [13, 10] [10] w (by simp) (by omega) (by simp) (by rw [repAll_no h]; omega))
  have K2 := hid (fun w => zzContains_calls s [13] w (by omega) (by simp))
  rw [repAll_no h] at K1
  rw [hasSub_no h] at K2
  go_enter Tryd.func71, Tryd.ntmps71
  go_wp2_with (first
    | (go_at_call 85; (with_reducible refine K1.out.mono ?_); rintro e w1 ⟨rfl, hb1⟩)
    | (go_at_call 86; (with_reducible refine (K2.out _).mono ?_); rintro e w2 ⟨rfl, rfl⟩))
  go_ret
  exact ⟨rfl, hb1⟩
end Go.Proofs.YthjpchabeemfmaaDoor

namespace Go.Proofs.YthjpchabeemfmaaDoor
open Go.RowKit
set_option linter.unusedVariables false
set_option linter.unusedSimpArgs false
set_option maxHeartbeats 4000000
set_option maxRecDepth 100000
attribute [local go_sem] S_extract S_append run_cut_S run_head_S run_tail_S Nat.add_sub_cancel_left

theorem tm_max2 (k k' : IntKind) (x y : Int) : Builtin.max2 (.int k x) (.int k' y) = pure (.int k (if x < y then y else x)) := by simp only [Builtin.max2, gt_iff_lt]
theorem tm_max (ats : Array TypeId) (ty : TypeId) (a b : Value) : Builtin.max_ ats ty #[a, b] = (Builtin.max2 a b >>= fun s => pure s) := by simp only [Builtin.max_, List.foldlM_cons, List.foldlM_nil]
attribute [local go_sem] tm_max2 tm_max

theorem repeatL_len (l : List UInt8) (n : Nat) : (Lib.repeatL l n).length = l.length * n := by
  induction n with
  | zero => rfl
  | succ n ih => simp only [Lib.repeatL, List.length_append, ih, Nat.mul_succ]; omega
theorem repeatL_snoc (l : List UInt8) (n : Nat) : Lib.repeatL l n ++ l = Lib.repeatL l (n + 1) := by
  induction n with
  | zero => simp [Lib.repeatL]
  | succ n ih =>
    have e : Lib.repeatL l (n + 1) = l ++ Lib.repeatL l n := rfl
    show Lib.repeatL l (n + 1) ++ l = l ++ Lib.repeatL l (n + 1)
    conv => lhs; rw [e, List.append_assoc, ih]

end Go.Proofs.YthjpchabeemfmaaDoor

namespace Go.Proofs.YthjpchabeemfmaaDoor
open Go.RowKit
set_option linter.unusedVariables false
set_option linter.unusedSimpArgs false
set_option maxHeartbeats 4000000
set_option maxRecDepth 100000
attribute [local go_sem] S_extract S_append run_cut_S run_head_S run_tail_S Nat.add_sub_cancel_left

theorem own_put {w : World} {base e n c g : Nat} {xs : List Value} (h : w.ownsRow base e 1 (.slice (some ⟨g, 0, none⟩) n c) n xs) {i : Nat} (hi : i < n) (u : Value) : (w.setCell ⟨g, i, none⟩ u).ownsRow base e 1 (.slice (some ⟨g, 0, none⟩) n c) n (xs.set i u) := by
  obtain ⟨h1, h2⟩ := h
  refine ⟨by simpa using h1, ?_⟩
  rcases h2 with ⟨h3, _⟩ | ⟨g', cap, cur, hv, hb, hg, a1, a2, a3, a4⟩
  · cases h3
  · injection hv with hv1 _ hv2
    injection hv1 with hv1
    injection hv1 with hv1
    subst hv1 hv2
    refine .inr ⟨g, c, cur.setIfInBounds i u, rfl, hb, blk_set hg i u, a1, a2, by simpa using a3, ?_⟩
    rw [Array.toList_setIfInBounds, ← a4, List.take_set]
theorem infoStr : (Tryd.prog.info? 9).map (fun i => (i.zero, i.size, i.bytes)) = some (some (.string ⟨#[]⟩), 1, 16) := by kernel_rfl
/-- the lines, cur being the one under way -/
def linesR (cur : List UInt8) : List Int → List (List UInt8)
  | [] => [cur]
  | r :: t => if r = 10 then cur :: linesR [] t else linesR (cur ++ Lib.encodeRune r) t
theorem own_iter {w : World} {base e sz n : Nat} {v : Value} {xs : List Value} (h : w.ownsRow base e sz v n xs) {k pos : Nat} {s : ByteArray} (hk : w.heap[k]? = some (.stringIter s pos)) (pos' : Nat) : (w.iterAt k s pos').ownsRow base e sz v n xs :=
  own_step h fun j hj => by
    refine Lib.iterAt_other w k j s pos' (fun e => ?_)
    subst e
    obtain ⟨C, fz, hC⟩ := own_typed h j hj
    rw [hk] at hC
    cases hC
theorem iter_grown {w w' : World} {base e sz n : Nat} {v : Value} {xs : List Value} (h : w.ownsRow base e sz v n xs) {k pos : Nat} {s : ByteArray} (hk : w.heap[k]? = some (.stringIter s pos)) (hg : w.grownBy w' v.ownBlock) : w'.heap[k]? = some (.stringIter s pos) := by
  refine (hg.block k (Array.getElem?_eq_some_iff.1 hk).1 (fun e => ?_)).trans hk
  obtain ⟨C, fz, hC⟩ := own_typed h k e.symm
  rw [hk] at hC
  cases hC
theorem iter_set {w : World} {base e sz n : Nat} {v : Value} {xs : List Value} (h : w.ownsRow base e sz v n xs) {k g i pos : Nat} {s : ByteArray} (hv : v.ownBlock = some g) (hk : w.heap[k]? = some (.stringIter s pos)) (u : Value) : (w.setCell ⟨g, i, none⟩ u).heap[k]? = some (.stringIter s pos) := by
  refine (Below.heap_setCell w ⟨g, i, none⟩ u k (fun e => ?_)).trans hk
  obtain ⟨C, fz, hC⟩ := own_typed h g hv
  simp only at e
  rw [← e, hk] at hC
  cases hC

end Go.Proofs.YthjpchabeemfmaaDoor
