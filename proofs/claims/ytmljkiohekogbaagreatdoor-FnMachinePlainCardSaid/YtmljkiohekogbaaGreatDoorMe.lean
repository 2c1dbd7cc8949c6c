import Derived.Test.YtmljkiohekogbaaGreatDoorMb
import Derived.Maps.OwnOps
import Derived.Maps.OwnSet
import Derived.Maps.RangeWalk
namespace Go.Proofs.YtmljkiohekogbaaGreatDoor
open Go.RowKit Go.Maps
set_option linter.unusedVariables false
set_option linter.unusedSimpArgs false
set_option maxHeartbeats 2000000
set_option maxRecDepth 100000

theorem heap_lt {w : World} {g : Nat} {o : Obj} (h : w.heap[g]? = some o) : g < w.heap.size := (Array.getElem?_eq_some_iff.1 h).1
theorem heap_keep {w w' : World} {g : Nat} {o : Obj} (h : w.heap[g]? = some o) (hb : Below w.heap.size w w') : w'.heap[g]? = some o := (hb.block g (heap_lt h)).trans h
theorem heap_set_ne {w : World} {g b i : Nat} {o : Obj} (h : w.heap[g]? = some o) (hne : g ≠ b) (u : Value) : (w.setCell ⟨b, i, none⟩ u).heap[g]? = some o := by
  have hne' : b ≠ g := fun e => hne e.symm
  simp only [World.setCell, Array.getElem?_modify, if_neg hne']
  exact h
theorem ty_ne {w : World} {g b t t' : Nat} {cs cs' : Array Value} {fz fz' : Nat × Nat} (h : w.heap[g]? = some (.cells cs t fz)) (h' : w.heap[b]? = some (.cells cs' t' fz')) (hne : t ≠ t') : g ≠ b := by
  intro e
  subst e
  rw [h] at h'
  injection h' with h1
  injection h1 with _ h2 _
  exact hne h2
/-! ### a map of codes in memory -/
theorem lawK : Keyed Tryz.prog 3 := int_keyed Tryz.underlying3
theorem zeroB (w : World) : (zeroValue 4).run Tryz.prog w = .ok (.bool false) w := by kernel_rfl
/-- block b is a map that has just these codes -/
def CM (w : World) (b : Nat) (c : List Int) : Prop := w.ownsMap (H := Unit) Tryz.prog 3 (plainElem Tryz.prog 4) b c.length (setD c)
theorem CM.of {w : World} {b n : Nat} {c : List Int} (h : w.ownsMap (H := Unit) Tryz.prog 3 (plainElem Tryz.prog 4) b n (setD c)) : CM w b c := by
  obtain ⟨es, clock, h1, h2, h3, h4⟩ := h
  refine ⟨es, clock, h1, h2, ?_, h4⟩
  unfold setD at h4
  injection h4 with h5
  have := congrArg List.length h5
  rw [setE_len, length_sorted, List.length_map] at this
  have e2 : es.toList.length = es.size := Array.length_toList
  omega
theorem plainElem_bool_inv {P : Program} {e : TypeId} (he : P.underlying e = some .bool) {v : Value} {z : DataW Unit × List MemPlace} (h : plainElem P e v = some z) : ∃ x, v = .bool x ∧ z = (.lit (.bool x), []) := by
  unfold plainElem at h
  rw [he] at h
  cases v with
  | bool x => exact ⟨x, rfl, by simpa using h.symm⟩
  | _ => simp at h
theorem wf64 {x : Int} (h1 : -9223372036854775808 ≤ x) (h2 : x ≤ 9223372036854775807) : (Lit.int .i64 x).wf = true := by
  simp [Lit.wf, IntKind.min, IntKind.max, IntKind.bits, IntKind.signed]
  omega
theorem CM.look {w : World} {b : Nat} {c : List Int} (h : CM w b c) {x : Int} (hx : (Lit.int .i64 x).wf = true) : (Instr.lookup 47 (.map (some b)) (.int .i64 x) false).run Tryz.prog w = .ok (.bool (decide (x ∈ c))) w := by
  obtain ⟨v, ps, hrun, hv⟩ := World.ownsMap.lookup h lawK Tryz.underlying47 (zeroB w) (plainElem_bool Tryz.underlying4 false) (keyOf_int_mk Tryz.underlying3 hx)
  obtain ⟨y, rfl, hy⟩ := plainElem_bool_inv Tryz.underlying4 hv
  simp only [Prod.mk.injEq] at hy
  rw [setD_at] at hy
  have := hy.1
  injection this with this
  injection this with this
  rw [hrun, this]
theorem CM.alloc {w : World} {b : Nat} {c : List Int} (h : CM w b c) (o : Obj) : CM (w.alloc o) b c := World.ownsMap.alloc h o
theorem CM.heap {w w' : World} {b : Nat} {c : List Int} (h : CM w b c) (e : w'.heap[b]? = w.heap[b]?) : CM w' b c := by
  obtain ⟨es, clock, h1, h2, h3, h4⟩ := h
  exact ⟨es, clock, e.trans h1, h2, h3, h4⟩
theorem CM.lt {w : World} {b : Nat} {c : List Int} (h : CM w b c) : b < w.heap.size := World.ownsMap.lt h
theorem CM.obj {w : World} {b : Nat} {c : List Int} (h : CM w b c) : ∃ es clock, w.heap[b]? = some (.map es clock) := let ⟨es, clock, h1, _⟩ := h; ⟨es, clock, h1⟩
theorem CM.made (w : World) : CM (w.alloc (.map #[] 0)) w.heap.size [] := World.ownsMap_made w _ _ _
/-- just that map has turned -/
structure OneMap (w w' : World) (b : Nat) : Prop where
  grown : w.grownBy w' (some b)
  size : w'.heap.size = w.heap.size
theorem OneMap.of {w w' : World} {b : Nat} (h : w.mapTurned w' b) : OneMap w w' b := by
  refine ⟨h.grown, ?_⟩
  obtain ⟨es, ck, es', ck', h1, rfl⟩ := h
  simp [Go.ChangeMaps.setBlock]
theorem OneMap.trans {w w1 w2 : World} {b : Nat} (h : OneMap w w1 b) (k : OneMap w1 w2 b) : OneMap w w2 b :=
  ⟨h.grown.andThen k.grown (fun j hj => by cases hj; exact Or.inr rfl), k.size.trans h.size⟩
theorem OneMap.refl (w : World) (b : Nat) : OneMap w w b := ⟨⟨rfl, rfl, rfl, Nat.le_refl _, fun _ _ _ => rfl⟩, rfl⟩
theorem OneMap.heap {w w' : World} {b g : Nat} (h : OneMap w w' b) (hg : g ≠ b) : w'.heap[g]? = w.heap[g]? := by
  by_cases hl : g < w.heap.size
  · exact h.grown.block g hl (fun e => by cases e; exact hg rfl)
  · rw [Array.getElem?_eq_none (by have := h.size; omega), Array.getElem?_eq_none (by omega)]
section
variable {ops : Array Oper} {rest : List Oper} {o : Oper} {a : Act} {Q : Exit → Act → World → Prop}
theorem wpList_lookC (w : World) (hg : o.guard = none) (m x : Operand) (hop : o.op = Op.lookup 47 m x false) (b : Nat) (c : List Int) (hm : a.eval m = .map (some b)) (h : CM w b c) (y : Int) (hx : a.eval x = .int .i64 y) (hw : (Lit.int .i64 y).wf = true)
    (hK : wpList Tryz.prog ops Q rest (a.put o.dst (.bool (decide (y ∈ c)))) w) : wpList Tryz.prog ops Q (o :: rest) a w := by
  refine wpList_plain hg fun K' hK' => ?_
  unfold Oper.wp
  simp [execOp, hop, hm, hx, h.look hw, Result.andThen]
  exact hK' _ _ hK
theorem wpList_putC (w : World) (hg : o.guard = none) (m x v : Operand) (hop : o.op = Op.mapUpdate 47 m x v) (b : Nat) (c : List Int) (hm : a.eval m = .map (some b)) (h : CM w b c) (hn : c.length < maxLen) (y : Int) (hx : a.eval x = .int .i64 y) (hv : a.eval v = .bool true) (hw : (Lit.int .i64 y).wf = true)
    (hK : ∀ w', CM w' b (insC y c) → OneMap w w' b → wpList Tryz.prog ops Q rest (a.put o.dst undef) w') : wpList Tryz.prog ops Q (o :: rest) a w :=
  wpList_mapUpdate_in w hg m x v 47 hop 3 4 lawK Tryz.underlying47 _ b c.length _ hm h hn _ _ _ hx hv (keyOf_int_mk Tryz.underlying3 hw) _ [] (plainElem_bool Tryz.underlying4 true)
    (fun w' h1 h2 => hK w' (CM.of (by rw [← setD_put]; exact h1)) (.of h2))
theorem wpList_delC (w : World) (hg : o.guard = none) (m x : Operand) (hop : o.op = Op.call { callee := Callee.builtin Builtin.delete, args := #[m, x], argTypes := #[47, 3] }) (b : Nat) (c : List Int) (hm : a.eval m = .map (some b)) (h : CM w b c) (y : Int) (hx : a.eval x = .int .i64 y) (hw : (Lit.int .i64 y).wf = true)
    (hK : ∀ w', CM w' b (delC y c) → OneMap w w' b → wpList Tryz.prog ops Q rest (a.put o.dst (.tuple #[])) w') : wpList Tryz.prog ops Q (o :: rest) a w :=
  wpList_delete_own w hg m x 47 3 hop 4 lawK Tryz.underlying47 _ b c.length _ hm h _ _ hx (keyOf_int_mk Tryz.underlying3 hw)
    (fun w' h1 h2 => hK w' (CM.of (by rw [← setD_del]; exact h1)) (.of h2))
theorem wpList_lenC (w : World) (hg : o.guard = none) (m : Operand) (hop : o.op = Op.call { callee := Callee.builtin Builtin.len, args := #[m], argTypes := #[47] }) (b : Nat) (c : List Int) (hm : a.eval m = .map (some b)) (h : CM w b c)
    (hK : wpList Tryz.prog ops Q rest (a.put o.dst (.int .i64 c.length)) w) : wpList Tryz.prog ops Q (o :: rest) a w :=
  wpList_len_own w hg m 47 hop 3 4 Tryz.underlying47 _ b c.length _ hm h (by rw [setD_size]; exact hK)
theorem wpList_rangeC (w : World) (hg : o.guard = none) (m : Operand) (hop : o.op = Op.range 47 m) (b : Nat) (c : List Int) (hm : a.eval m = .map (some b)) (h : CM w b c)
    (hK : ∀ w', w'.ranges Tryz.prog 3 (plainElem (H := Unit) Tryz.prog 4) b w.heap.size c.length (setD c) (Maps.has (setD c)) (Maps.size (setD c)) → w.grownBy w' none → w'.heap.size = w.heap.size + 1 → wpList Tryz.prog ops Q rest (a.put o.dst (.pointer (some ⟨w.heap.size, 0, none⟩))) w') :
    wpList Tryz.prog ops Q (o :: rest) a w :=
  wpList_range_own w hg m 47 hop 3 4 lawK Tryz.underlying47 _ b c.length _ hm h hK
theorem wpList_nextC (w : World) (hg : o.guard = none) (it : Operand) (hop : o.op = Op.next it false) (b r n : Nat) (c : List Int) (left : Lit → Bool) (cnt : Nat) (hit : a.eval it = .pointer (some ⟨r, 0, none⟩))
    (h : w.ranges Tryz.prog 3 (plainElem (H := Unit) Tryz.prog 4) b r n (setD c) left cnt)
    (hDone : cnt = 0 → (∀ kl, left kl = false) → wpList Tryz.prog ops Q rest (a.put o.dst (.tuple #[.bool false])) w)
    (hMore : ∀ (x : Int) (w' : World) (cnt' : Nat), (Lit.int .i64 x).wf = true → left (.int .i64 x) = true → x ∈ c → w'.ranges Tryz.prog 3 (plainElem (H := Unit) Tryz.prog 4) b r n (setD c) (fun z => left z && !z.sameKey (.int .i64 x)) cnt' → cnt' < cnt →
      w.grownBy w' (some r) → w'.heap.size = w.heap.size → (Instr.entry (.pointer (some ⟨r, 0, none⟩))).run Tryz.prog w' = .ok (.tuple #[.int .i64 x, .bool true]) w' → wpList Tryz.prog ops Q rest (a.put o.dst (.tuple #[.bool true, .int .i64 x, .bool true])) w') :
    wpList Tryz.prog ops Q (o :: rest) a w :=
  wpList_next_ranges w hg it hop 3 lawK (plainElem (H := Unit) Tryz.prog 4) (Value.int .i64) Value.bool (fun key kl hkey => by obtain ⟨x, rfl, _⟩ := Maps.keyOf_int_inv Tryz.underlying3 hkey; exact ⟨x, rfl⟩) (fun v y hv => by obtain ⟨c, rfl, _⟩ := plainElem_bool_inv Tryz.underlying4 hv; exact ⟨c, rfl⟩)
    b r n _ left cnt hit h hDone (fun x v kl y w' cnt' hkey hlk hv hat hrg hlt hgr hsz hen => by
      obtain ⟨x', ex, rfl, hwx⟩ := Maps.keyOf_int_inv Tryz.underlying3 hkey
      cases ex
      obtain ⟨v', ev, rfl⟩ := plainElem_bool_inv Tryz.underlying4 hv
      cases ev
      have h1 := hat (.lit (.bool false))
      rw [setD_at] at h1
      by_cases hm : x ∈ c
      · have : v = true := by simpa [hm] using h1.symm
        subst this
        exact hMore x w' cnt' hwx hlk hm hrg hlt hgr hsz hen
      · exfalso
        have h2 : Maps.has (setD c) (.int .i64 x) = false := by rw [setD_has]; exact decide_eq_false hm
        have h3 := hat (.lit (.bool (!v)))
        rw [Maps.atKey_of_not_has h2] at h3
        injection h3 with h3
        injection h3 with h3
        cases v <;> cases h3)
end
end Go.Proofs.YtmljkiohekogbaaGreatDoor
