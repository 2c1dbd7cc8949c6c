import Derived.Test.YtbbmboklpfjliaaDoorL
import Derived.Lib.AppendStr
import Derived.Lib.UnsafeStr
import Derived.Laws.BytesArg
import Derived.Laws.AppendOwnNone
namespace Go.Proofs.YtbbmboklpfjliaaDoor
open Go.RowKit
set_option linter.unusedVariables false
set_option linter.unusedSimpArgs false
set_option maxHeartbeats 4000000
set_option maxRecDepth 100000

/-- v is a slice of bytes of the call's own (element type e), and holds l -/
def OwnB (w : World) (e base : Nat) (v : Value) (l : List UInt8) : Prop := w.ownsRow base e 1 v l.length (Lib.byteCells l)

theorem OwnB.nil (w : World) (e base : Nat) : OwnB w e base (.slice none 0 0) [] := ⟨by simp [Lib.byteCells], .inl ⟨rfl, rfl⟩⟩
theorem OwnB.lt {w : World} {e base : Nat} {v : Value} {l : List UInt8} (h : OwnB w e base v l) (k : Nat) (hk : v.ownBlock = some k) : k < w.heap.size ∧ base ≤ k := by
  rcases h.2 with ⟨rfl, _⟩ | ⟨g, cap, cur, rfl, hb, hg, _⟩
  · simp [Value.ownBlock] at hk
  · simp [Value.ownBlock] at hk
    subst hk
    exact ⟨(Array.getElem?_eq_some_iff.1 hg).1, hb⟩
theorem own_step {w w1 : World} {e base sz n : Nat} {v : Value} {xs : List Value} (h : w.ownsRow base e sz v n xs) (hb : ∀ k, v.ownBlock = some k → w1.heap[k]? = w.heap[k]?) : w1.ownsRow base e sz v n xs := by
  obtain ⟨h1, h2⟩ := h
  refine ⟨h1, ?_⟩
  rcases h2 with h2 | ⟨g, cap, cur, rfl, hb0, hg, r⟩
  · exact .inl h2
  · exact .inr ⟨g, cap, cur, rfl, hb0, by rw [hb g (by simp [Value.ownBlock])]; exact hg, r⟩
theorem own_lt {w : World} {e base sz n : Nat} {v : Value} {xs : List Value} (h : w.ownsRow base e sz v n xs) (k : Nat) (hk : v.ownBlock = some k) : k < w.heap.size ∧ base ≤ k := by
  rcases h.2 with ⟨rfl, _⟩ | ⟨g, cap, cur, rfl, hb, hg, _⟩
  · simp [Value.ownBlock] at hk
  · simp [Value.ownBlock] at hk
    subst hk
    exact ⟨(Array.getElem?_eq_some_iff.1 hg).1, hb⟩
theorem own_below {w w1 : World} {e base sz n : Nat} {v : Value} {xs : List Value} (h : w.ownsRow base e sz v n xs) (hb : Below w.heap.size w w1) : w1.ownsRow base e sz v n xs :=
  own_step h fun k hk => hb.block k (own_lt h k hk).1
theorem OwnB.below {w w1 : World} {e base : Nat} {v : Value} {l : List UInt8} (h : OwnB w e base v l) (hb : Below w.heap.size w w1) : OwnB w1 e base v l := own_below h hb
theorem OwnB.alloc {w : World} {e base : Nat} {v : Value} {l : List UInt8} (h : OwnB w e base v l) (o : Obj) : OwnB (w.alloc o) e base v l := h.below ((Below.refl _ w).alloc (Nat.le_refl _) o)
theorem OwnB.drew {w : World} {e base : Nat} {v : Value} {l : List UInt8} (h : OwnB w e base v l) : OwnB w.drew e base v l := h.below (Below.refl _ w).drew
/-- what an append to a row of the call's own leaves below -/
theorem below_grown {B : Nat} {w w1 w2 : World} {v : Value} {e base sz n : Nat} {xs : List Value} (h : Below B w w1) (hB : B ≤ w1.heap.size) (hb : B ≤ base) (ho : w1.ownsRow base e sz v n xs) (hg : w1.grownBy w2 v.ownBlock) : Below B w w2 :=
  h.grown hg hB fun k hk => Nat.le_trans hb (own_lt ho k hk).2
theorem OwnB.below_grown {B : Nat} {w w1 w2 : World} {v : Value} {e base : Nat} {l : List UInt8} (ho : OwnB w1 e base v l) (h : Below B w w1) (hB : B ≤ w1.heap.size) (hb : B ≤ base) (hg : w1.grownBy w2 v.ownBlock) : Below B w w2 :=
  YtbbmboklpfjliaaDoor.below_grown h hB hb ho hg

theorem alloc_heap_new (w : World) (o : Obj) : (w.alloc o).heap[w.heap.size]? = some o := by
  show (w.heap.push o)[w.heap.size]? = some o
  simp

theorem blk_set {w : World} {g t : Nat} {cs : Array Value} {fz : Nat × Nat} (h : w.heap[g]? = some (.cells cs t fz)) (i : Nat) (u : Value) : (w.setCell ⟨g, i, none⟩ u).heap[g]? = some (.cells (cs.setIfInBounds i u) t fz) := by
  simp [World.setCell, Array.getElem?_modify, h]
theorem blk_cell {w : World} {g t : Nat} {cs : Array Value} {fz : Nat × Nat} (h : w.heap[g]? = some (.cells cs t fz)) (i : Nat) : w.cell? ⟨g, i, none⟩ = cs[i]? := by simp [World.cell?, h]
theorem blk_free {w : World} {g t : Nat} {cs : Array Value} (h : w.heap[g]? = some (.cells cs t (0, 0))) (i : Nat) : w.frozen? ⟨g, i, none⟩ = false := by simp [World.frozen?, h]

/-- v is a slice that reads as the whole numbers l -/
def RdI (w : World) (v : Value) (l : List Int) : Prop :=
  l.length ≤ 4611686018427387904 ∧ ∃ A c, v = .slice A l.length c ∧ l.length ≤ c ∧ (A = none → c = 0) ∧ (l ≠ [] → ∃ g o, A = some ⟨g, o, none⟩ ∧ ∀ i x, l[i]? = some x → w.cell? ⟨g, o + i, none⟩ = some (.int .i64 x))
theorem cell_lt {w : World} {a : Addr} {v : Value} (h : w.cell? a = some v) : a.block < w.heap.size := World.block_lt_of_cell? w a h
theorem cell_keep {w w1 : World} (hb : Below w.heap.size w w1) {a : Addr} {v : Value} (h : w.cell? a = some v) : w1.cell? a = some v := (hb.cell (cell_lt h)).trans h
theorem RdI.below {w w1 : World} {v : Value} {l : List Int} (h : RdI w v l) (hb : Below w.heap.size w w1) : RdI w1 v l := by
  obtain ⟨h0, A, c, hv, hc, hn, hr⟩ := h
  refine ⟨h0, A, c, hv, hc, hn, fun hl => ?_⟩
  obtain ⟨g, o, ha, hx⟩ := hr hl
  exact ⟨g, o, ha, fun i x hi => cell_keep hb (hx i x hi)⟩
theorem RdI.nil (w : World) : RdI w (.slice none 0 0) [] := ⟨by simp, none, 0, rfl, Nat.le_refl _, fun _ => rfl, fun h => absurd rfl h⟩
theorem RdI.form {w : World} {v : Value} {l : List Int} (h : RdI w v l) : ∃ A c, v = .slice A l.length c := by obtain ⟨_, A, c, hv, _⟩ := h; exact ⟨A, c, hv⟩
/-- the form of a slice that is not empty -/
theorem RdI.at {w : World} {v : Value} {l : List Int} (h : RdI w v l) {k : Nat} (hk : k < l.length) : ∃ g o c, v = .slice (some ⟨g, o, none⟩) l.length c ∧ ∀ i x, l[i]? = some x → w.cell? ⟨g, o + i, none⟩ = some (.int .i64 x) := by
  obtain ⟨_, A, c, hv, _, _, hr⟩ := h
  obtain ⟨g, o, rfl, hx⟩ := hr (by intro e; subst e; simp at hk)
  exact ⟨g, o, c, hv, hx⟩

theorem strCells_S (l : List UInt8) : Lib.strCells ⟨l.toArray⟩ = Lib.byteCells l := by simp [Lib.strCells, Lib.byteCells]

theorem grown_alloc {w0 w' : World} {o : Obj} {row : Option Nat} (hg : (w0.alloc o).grownBy w' row) : w0.grownBy w' row :=
  ⟨hg.os, hg.tape, hg.output, Nat.le_trans (by simp) hg.size, fun k hk hr => (hg.block k (by simp; omega) hr).trans (Below.heap_alloc w0 o k hk)⟩
theorem grown_below {w w' : World} {row : Option Nat} (hg : w.grownBy w' row) (h : ∀ k, row = some k → False) : Below w.heap.size w w' :=
  ⟨hg.os, hg.tape, hg.output, hg.size, fun k hk => hg.block k hk (fun e => h k e.symm)⟩
theorem add_plain (g o j : Nat) : (⟨g, o, none⟩ : Addr).add j = ⟨g, o + j, none⟩ := by unfold Addr.add; split <;> simp_all

theorem own_empty (w : World) (e size : Nat) : (w.alloc (.cells #[] e)).ownsRow w.heap.size e size (.slice (some ⟨w.heap.size, 0, none⟩) 0 0) 0 [] :=
  ⟨by simp, .inr ⟨w.heap.size, 0, #[], rfl, Nat.le_refl _, alloc_heap_new _ _, Nat.le_refl _, Nat.zero_le _, by simp, by simp⟩⟩
theorem own_nil (w : World) (base e size : Nat) : w.ownsRow base e size (.slice none 0 0) 0 [] := ⟨by simp, .inl ⟨rfl, rfl⟩⟩
def ints (l : List Int) : List Value := l.map fun x => .int .i64 x
theorem ints_one (l : List Int) : ∀ u ∈ ints l, u.oneCell' = true := by
  intro u hu
  simp only [ints, List.mem_map] at hu
  obtain ⟨x, _, rfl⟩ := hu
  rfl
theorem ints_get {l : List Int} {j : Nat} {u : Value} (h : (ints l)[j]? = some u) : ∃ x, l[j]? = some x ∧ u = .int .i64 x := by
  simp only [ints, List.getElem?_map, Option.map_eq_some_iff] at h
  obtain ⟨x, h1, h2⟩ := h
  exact ⟨x, h1, h2.symm⟩
/-- a row of the call's own, at its cells -/
theorem own_cells {w : World} {base e sz n : Nat} {v : Value} {xs : List Value} (h : w.ownsRow base e sz v n xs) (hn : 0 < n) : ∃ g c, v = .slice (some ⟨g, 0, none⟩) n c ∧ n ≤ c ∧ base ≤ g ∧ (∃ cur, w.heap[g]? = some (.cells cur e (0, 0))) ∧ ∀ j u, xs[j]? = some u → w.cell? ⟨g, j, none⟩ = some u := by
  rcases h.2 with ⟨rfl, h0⟩ | ⟨g, cap, cur, rfl, hb, hg, hnc, _, _, ht⟩
  · omega
  · refine ⟨g, cap, rfl, hnc, hb, ⟨cur, hg⟩, fun j u hj => ?_⟩
    rw [blk_cell hg]
    rw [← ht, List.getElem?_take] at hj
    split at hj
    · simpa using hj
    · cases hj
theorem own_slice {w : World} {base e sz n : Nat} {v : Value} {xs : List Value} (h : w.ownsRow base e sz v n xs) : ∃ A c, v = .slice A n c ∧ n ≤ c ∧ (A = none → c = 0) := by
  rcases h.2 with ⟨rfl, rfl⟩ | ⟨g, cap, cur, rfl, hb, hg, hnc, _, _, ht⟩
  · exact ⟨none, 0, rfl, Nat.le_refl _, fun _ => rfl⟩
  · exact ⟨_, cap, rfl, hnc, fun h => by cases h⟩
theorem own_typed {w : World} {base e sz n : Nat} {v : Value} {xs : List Value} (h : w.ownsRow base e sz v n xs) (k : Nat) (hk : v.ownBlock = some k) : ∃ C fz, w.heap[k]? = some (.cells C e fz) := by
  rcases h.2 with ⟨rfl, _⟩ | ⟨g, cap, cur, rfl, hb, hg, _⟩
  · simp [Value.ownBlock] at hk
  · simp [Value.ownBlock] at hk
    subst hk
    exact ⟨_, _, hg⟩
/-- where v leads, there is a row of elements of type t -/
def Typ (w : World) (v : Value) (t : Nat) : Prop := ∀ k, v.ownBlock = some k → ∃ C fz, w.heap[k]? = some (.cells C t fz)
theorem Typ.below {w w1 : World} {v : Value} {t : Nat} (h : Typ w v t) (hb : Below w.heap.size w w1) : Typ w1 v t := fun k hk => by
  obtain ⟨C, fz, hc⟩ := h k hk
  exact ⟨C, fz, (hb.block k (Array.getElem?_eq_some_iff.1 hc).1).trans hc⟩
theorem Typ.own {w : World} {base e sz n : Nat} {v : Value} {xs : List Value} (h : w.ownsRow base e sz v n xs) : Typ w v e := own_typed h
theorem Typ.nil (w : World) (t n c : Nat) : Typ w (.slice none n c) t := fun k hk => by simp [Value.ownBlock] at hk

theorem RdI.of_own {w : World} {base e : Nat} {v : Value} {n : Nat} {l : List Int} (h : w.ownsRow base e 1 v n (ints l)) (hl : l.length ≤ 4611686018427387904) : RdI w v l := by
  have hn : n = l.length := by have := h.1; simp [ints] at this; exact this.symm
  subst hn
  obtain ⟨A, c, rfl, hc, hA⟩ := own_slice h
  refine ⟨hl, A, c, rfl, hc, hA, fun hne => ?_⟩
  obtain ⟨g, c', he, _, _, _, hcl⟩ := own_cells h (List.length_pos_iff.2 hne)
  injection he with he1 _ _
  exact ⟨g, 0, he1, fun i x hi => by rw [Nat.zero_add]; exact hcl i _ (by simp [ints, hi])⟩
theorem RdI.src {w : World} {A : Option Addr} {c : Nat} {l : List Int} (h : RdI w (.slice A l.length c) l) : l.length ≠ 0 → ∃ g o', A = some ⟨g, o', none⟩ ∧ ∀ j u, (ints l)[j]? = some u → w.cell? ⟨g, o' + j, none⟩ = some u := by
  obtain ⟨_, A', c', hv, _, _, hr⟩ := h
  injection hv with h1 _ _
  subst h1
  intro hl
  obtain ⟨g, o, ha, hx⟩ := hr (by intro e; subst e; exact hl rfl)
  refine ⟨g, o, ha, fun j u hj => ?_⟩
  obtain ⟨x, h1, rfl⟩ := ints_get hj
  exact hx j x h1

section
variable {P : Program} (w : World)

/-- append(v, y...) where v is a row of the call's own and y a slice that is read (nil let in) -/
theorem append_read {ops : Array Oper} {rest : List Oper} {o : Oper} {a : Act} {Q : Exit → Act → World → Prop} (hgd : o.guard = none) (sl x : Operand) (t e : TypeId) (z : Value) (size bytes : Nat)
    (ho : o.op = .call { callee := .builtin .append, args := #[sl, x], argTypes := #[t, t] })
    (ht : P.underlying t = some (.slice e)) (hi : (P.info? e).map (fun i => (i.zero, i.size, i.bytes)) = some (some z, size, bytes)) (hzs : z.cells.size = size) (hsz : 0 < size)
    (base : Nat) (v : Value) (n : Nat) (xs : List Value) (hs : a.eval sl = v) (hown : w.ownsRow base e size v n xs)
    (A : Option Addr) (m c : Nat) (news : List Value) (hx : a.eval x = .slice A m c) (hc : A = none → c = 0) (hl : news.length = m * size)
    (hsrc : m ≠ 0 → ∃ g o', A = some ⟨g, o', none⟩ ∧ ∀ j u, news[j]? = some u → w.cell? ⟨g, o' + j, none⟩ = some u) (h1 : ∀ u ∈ news, u.oneCell' = true)
    (hb : (n + m) * bytes ≤ 140737488355328) (hb0 : 0 < bytes) (hbase : base ≤ w.heap.size)
    (h : ∀ v' w', w'.ownsRow base e size v' (n + m) (xs ++ news) → w.grownBy w' v.ownBlock → wpList P ops Q rest (a.put o.dst v') w') : wpList P ops Q (o :: rest) a w := by
  obtain ⟨i, hi0, hz0, hz1, hz2⟩ := info_parts hi
  have h63 : n + m ≤ maxLen := by
    have : n + m ≤ (n + m) * bytes := Nat.le_mul_of_pos_right _ hb0
    simp only [maxLen]; omega
  by_cases hm : m = 0
  · subst hm
    have hnews : news = [] := List.eq_nil_of_length_eq_zero (by simpa using hl)
    subst hnews
    cases A with
    | none =>
      have hc0 := hc rfl
      subst hc0
      refine wpList_append_own_none hgd sl x t ho base e i size ht hi0 v n xs hs hown hx ?_
      exact h v w (by simpa using hown) ⟨rfl, rfl, rfl, Nat.le_refl _, fun _ _ _ => rfl⟩
    | some ad =>
      exact wpList_append_own w hgd sl x t ho base e i z size bytes ht hi0 hz0 hz1 hz2 hzs hsz v n xs hs hown ad 0 c [] hx (by simp) (by simp) (by simp) h63 hb hbase fun v' w' h2 h3 _ => h v' w' h2 h3
  · obtain ⟨g, o', rfl, hcl⟩ := hsrc hm
    exact wpList_append_own w hgd sl x t ho base e i z size bytes ht hi0 hz0 hz1 hz2 hzs hsz v n xs hs hown ⟨g, o', none⟩ m c news hx hl (fun j u hj => by rw [add_plain]; exact hcl j u hj) h1 h63 hb hbase fun v' w' h2 h3 _ => h v' w' h2 h3

/-- append(v, y) where v is a row of the call's own: y lies in a new block -/
theorem append_box {w0 : World} {ops : Array Oper} {rest : List Oper} {o : Oper} {a : Act} {Q : Exit → Act → World → Prop} (hgd : o.guard = none) (sl x : Operand) (t e : TypeId) (z : Value) (size bytes : Nat)
    (ho : o.op = .call { callee := .builtin .append, args := #[sl, x], argTypes := #[t, t] })
    (ht : P.underlying t = some (.slice e)) (hi : (P.info? e).map (fun i => (i.zero, i.size, i.bytes)) = some (some z, size, bytes)) (hzs : z.cells.size = size) (hsz : 0 < size)
    (base : Nat) (v : Value) (n : Nat) (xs : List Value) (hs : a.eval sl = v) (hown : w0.ownsRow base e size v n xs)
    (c tb : Nat) (news : List Value) (hx : a.eval x = .slice (some ⟨w0.heap.size, 0, none⟩) 1 c) (hl : news.length = size) (h1 : ∀ u ∈ news, u.oneCell' = true)
    (hb : (n + 1) * bytes ≤ 140737488355328) (hb0 : 0 < bytes) (hbase : base ≤ w0.heap.size)
    (h : ∀ v' w', w'.ownsRow base e size v' (n + 1) (xs ++ news) → w0.grownBy w' v.ownBlock → wpList P ops Q rest (a.put o.dst v') w') : wpList P ops Q (o :: rest) a (w0.alloc (.cells news.toArray tb)) := by
  obtain ⟨i, hi0, hz0, hz1, hz2⟩ := info_parts hi
  have h63 : n + 1 ≤ maxLen := by
    have : n + 1 ≤ (n + 1) * bytes := Nat.le_mul_of_pos_right _ hb0
    simp only [maxLen]; omega
  refine wpList_append_own _ hgd sl x t ho base e i z size bytes ht hi0 hz0 hz1 hz2 hzs hsz v n xs hs (hown.alloc _) ⟨w0.heap.size, 0, none⟩ 1 c news hx (by rw [hl, Nat.one_mul]) (fun j u hj => ?_) h1 h63 hb (by simp; omega) fun v' w' h2 h3 _ => h v' w' h2 (grown_alloc h3)
  rw [add_plain, Nat.zero_add, blk_cell (alloc_heap_new w0 (.cells news.toArray tb)) j]
  simpa using hj

/-- append(v, s...) for a row of bytes of the call's own and a text -/
theorem append_S {ops : Array Oper} {rest : List Oper} {o : Oper} {a : Act} {Q : Exit → Act → World → Prop} (hgd : o.guard = none) (sl x : Operand) (t u e : TypeId)
    (ho : o.op = .call { callee := .builtin .append, args := #[sl, x], argTypes := #[t, u] })
    (ht : P.underlying t = some (.slice e)) (hu : P.underlying u = some .string) (hi : (P.info? e).map (fun i => (i.zero, i.size, i.bytes)) = some (some (.int .u8 0), 1, 1))
    (base : Nat) (v : Value) (l y : List UInt8) (hs : a.eval sl = v) (hown : OwnB w e base v l) (hx : a.eval x = .string ⟨y.toArray⟩)
    (hb : l.length + y.length ≤ 140737488355328) (hbase : base ≤ w.heap.size)
    (h : ∀ v' w', OwnB w' e base v' (l ++ y) → w.grownBy w' v.ownBlock → wpList P ops Q rest (a.put o.dst v') w') : wpList P ops Q (o :: rest) a w := by
  obtain ⟨i, hi0, hz0, hz1, hz2⟩ := info_parts hi
  refine Lib.wpList_append_own_string w hgd sl x t u ho base e i ht hu hi0 hz0 hz1 hz2 v l.length (Lib.byteCells l) hs hown ⟨y.toArray⟩ hx ?_ ?_ hbase ?_
  · simp only [maxLen, S_size]; omega
  · simp only [S_size]; omega
  · intro v' w' h1 h2 _
    refine h v' w' ?_ h2
    unfold OwnB
    rw [S_size, strCells_S, ← Lib.byteCells_append, ← List.length_append] at h1
    exact h1

/-- string of the bytes that lie somewhere -/
theorem convert_at {src dst e : Nat} {l : List UInt8} {b off cap : Nat} (hs : P.underlying src = some (.slice e)) (he : P.underlying e = some (.int .u8)) (hd : P.underlying dst = some .string)
    (hc : ∀ k c, l[k]? = some c → w.cell? ⟨b, off + k, none⟩ = some (.int .u8 (UInt8.toNat c))) : (convert src dst (.slice (some ⟨b, off, none⟩) l.length cap)).run P w = .ok (.string ⟨l.toArray⟩) w := by
  have h1 := run_convert_bytes_arg (P := P) w src e hs he b off l.length cap (l.map fun b => (b.toNat : Int)) (by simp) (fun i hi => by
    rw [hc i l[i] (by simp [hi])]; simp [hi]) dst hd
  rw [h1]
  simp [strOfNums]
  conv => rhs; rw [← List.map_id l]
  apply List.map_congr_left
  intro b _
  simp

/-- string(v) of a row of bytes of the call's own -/
theorem convert_S {src dst e e' base : Nat} {v : Value} {l : List UInt8} (hs : P.underlying src = some (.slice e)) (he : P.underlying e = some (.int .u8)) (hd : P.underlying dst = some .string)
    (h : OwnB w e' base v l) : (convert src dst v).run P w = .ok (.string ⟨l.toArray⟩) w := by
  rcases h.2 with ⟨rfl, h0⟩ | ⟨g, cap, cur, rfl, _⟩
  · obtain rfl : l = [] := List.eq_nil_of_length_eq_zero h0
    exact run_convert_bytes_nil w src e hs he 0 0 dst hd
  · have hc : ∀ i, i < l.length → w.cell? ⟨g, 0 + i, none⟩ = some (.int .u8 ((l.map fun b => (b.toNat : Int)).getD i 0)) := by
      intro i hi
      have hc := World.ownsRow.cells (g := g) h rfl i (.int .u8 (l.map fun b => (b.toNat : Int))[i]!) (by simp [Lib.byteCells, hi])
      have ha : (⟨g, 0, none⟩ : Addr).add i = ⟨g, 0 + i, none⟩ := by unfold Addr.add; split <;> simp_all
      rw [ha] at hc
      rw [hc]
      simp [hi]
    have h1 := run_convert_bytes_arg (P := P) w src e hs he g 0 l.length cap (l.map fun b => (b.toNat : Int)) (by simp) (fun i hi => hc i hi) dst hd
    rw [h1]
    simp [strOfNums]
    conv => rhs; rw [← List.map_id l]
    apply List.map_congr_left
    intro b _
    simp
end
end Go.Proofs.YtbbmboklpfjliaaDoor
