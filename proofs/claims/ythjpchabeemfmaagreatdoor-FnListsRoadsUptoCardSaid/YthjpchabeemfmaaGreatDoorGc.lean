import Derived.Test.YthjpchabeemfmaaGreatDoorGb
import Derived.Deep.RegionHeld3
import Derived.Deep.AppendLies
import Derived.Deep.QuietTactic
import Derived.BigQuiet
import Derived.WalkSmall
import Derived.Test.YthjpchabeemfmaaGreatDoorGa
import Derived.Handy
namespace Go.Proofs.YthjpchabeemfmaaGreatDoor
open Go.RowKit
set_option linter.unusedVariables false
set_option linter.unusedSimpArgs false
set_option maxHeartbeats 4000000
set_option maxRecDepth 100000
attribute [local go_sem] S_extract S_append run_cut_S run_head_S run_tail_S Nat.add_sub_cancel_left

/-- an item: how deep it stands, and its text -/
abbrev It := Nat × List UInt8
def itemCells (it : It) : Array Value := #[.int .i64 it.1, .string ⟨it.2.toArray⟩]

theorem analyze_calls (b : Nat) (s : List UInt8) (ap : Int) (sp cls : ByteArray) (iv : Value) (lev : Nat) (st : Value) (w : World) (hs : s.length ≤ 1000000000) (h : Cl s)
    (hb : w.heap[b]? = some (.cells #[.int .i64 ap, .string sp, .string cls, iv, .int .i64 lev, st] 66 (0, 0))) :
    Calls Tryz.prog 52 #[.pointer (some ⟨b, 0, none⟩), .iface 9 (.string ⟨s.toArray⟩)] w fun e w' => ∃ g, e = .returned (.pointer (some ⟨g, 0, none⟩)) ∧ w.heap.size ≤ g ∧ w'.heap[g]? = some (.cells (itemCells (lev, s)) 76 (0, 0)) ∧ Below w.heap.size w w' := by
  have h9 : ∀ x ∈ s, x ≠ 9 := fun x hx => (h x hx).1
  have K1 := hid (fun w => lzzReplaceAll_calls s [9] [32, 32, 32, 32] w (by simp) (by omega) (by simp) (by rw [repAll_no h9]; omega))
  have K2 := hid (fun w => ProcessCRLF_calls s w hs (fun x hx => (h x hx).2))
  rw [repAll_no h9] at K1
  have hl0 : w.cell? ⟨b, 4, none⟩ = some (.int .i64 lev) := blk_cell hb 4
  clear hb
  go_enter Tryz.func52, Tryz.ntmps52
  go_wp2_with (first
    | (go_at_call 69; (with_reducible refine (zzText_calls s _).mono ?_); rintro e w1 ⟨rfl, rfl⟩)
    | (go_at_call 61; (with_reducible refine (K1.out _).mono ?_); rintro e w1 ⟨rfl, hb1⟩)
    | (go_at_call 70; (with_reducible refine (K2.out _).mono ?_); rintro e w2 ⟨rfl, hb2⟩; replace hb2 := hb1.trans (hb2.mono hb1.size); have hl4 := cell_keep hb2 hl0))
  go_ret
  exact ⟨_, rfl, hb2.size, alloc_heap_new w2 _, hb2.alloc hb2.size _⟩

/-- the pointers to items -/
def Items (w : World) (base : Nat) (ps : List Value) (items : List It) : Prop :=
  ps.length = items.length ∧ ∀ (i : Nat) (it : It), items[i]? = some it → ∃ g, ps[i]? = some (Value.pointer (some ⟨g, 0, none⟩)) ∧ base ≤ g ∧ w.heap[g]? = some (.cells (itemCells it) 76 (0, 0))
def LRow (ap : Int) (sp : ByteArray) (cls : List UInt8) (iv : Value) (lev : Nat) (st : Value) : Array Value := #[.int .i64 ap, .string sp, .string ⟨cls.toArray⟩, iv, .int .i64 lev, st]
/-- a list at block b, made at or behind base -/
structure LAt (w : World) (base b : Nat) (items : List It) (lev : Nat) (cls : List UInt8) (st : Value) (ap : Int) (sp : ByteArray) (iv : Value) (ps : List Value) : Prop where
  row : w.heap[b]? = some (.cells (LRow ap sp cls iv lev st) 66 (0, 0))
  le : base ≤ b
  own : w.ownsRow base 74 1 iv items.length ps
  items : Items w base ps items
theorem heap_lt {w : World} {g : Nat} {o : Obj} (h : w.heap[g]? = some o) : g < w.heap.size := (Array.getElem?_eq_some_iff.1 h).1
theorem heap_keep {w w' : World} {g : Nat} {o : Obj} (h : w.heap[g]? = some o) (hb : Below w.heap.size w w') : w'.heap[g]? = some o := (hb.block g (heap_lt h)).trans h
theorem Items.below {w w' : World} {base : Nat} {ps : List Value} {items : List It} (h : Items w base ps items) (hb : Below w.heap.size w w') : Items w' base ps items :=
  ⟨h.1, fun i it hi => let ⟨g, h1, h2, h3⟩ := h.2 i it hi; ⟨g, h1, h2, heap_keep h3 hb⟩⟩
theorem LAt.below {w w' : World} {base b : Nat} {items : List It} {lev : Nat} {cls : List UInt8} {st : Value} {ap : Int} {sp : ByteArray} {iv : Value} {ps : List Value} (h : LAt w base b items lev cls st ap sp iv ps) (hb : Below w.heap.size w w') : LAt w' base b items lev cls st ap sp iv ps :=
  ⟨heap_keep h.row hb, h.le, own_below h.own hb, h.items.below hb⟩
/-- a block of another type, behind an append to a row -/
theorem heap_grown {w w' : World} {u : Value} {base e t sz n : Nat} {xs : List Value} {g : Nat} {cs : Array Value} {fz : Nat × Nat} (h : w.heap[g]? = some (.cells cs t fz)) (ho : w.ownsRow base e sz u n xs) (hne : t ≠ e) (hg : w.grownBy w' u.ownBlock) : w'.heap[g]? = some (.cells cs t fz) := by
  refine (hg.block g (heap_lt h) ?_).trans h
  intro e1
  obtain ⟨C', fz', hC'⟩ := own_typed ho g e1.symm
  rw [h] at hC'
  injection hC' with h1
  injection h1 with _ h2 _
  exact hne h2
theorem heap_set_ne {w : World} {g b i : Nat} {o : Obj} (h : w.heap[g]? = some o) (hne : g ≠ b) (u : Value) : (w.setCell ⟨b, i, none⟩ u).heap[g]? = some o := by
  have hne' : b ≠ g := fun e => hne e.symm
  simp only [World.setCell, Array.getElem?_modify, if_neg hne']
  exact h

theorem ty_ne {w : World} {g b t t' : Nat} {cs cs' : Array Value} {fz fz' : Nat × Nat} (h : w.heap[g]? = some (.cells cs t fz)) (h' : w.heap[b]? = some (.cells cs' t' fz')) (hne : t ≠ t') : g ≠ b := by
  intro e
  subst e
  rw [h] at h'
  injection h' with h1
  injection h1 with _ h2 _
  exact hne h2
/-- what is neither a list nor a row of pointers to items stays -/
def Kept (w w' : World) : Prop := ∀ (g : Nat) (cs : Array Value) (t : Nat) (fz : Nat × Nat), w.heap[g]? = some (.cells cs t fz) → t ≠ 66 → t ≠ 74 → w'.heap[g]? = some (.cells cs t fz)
theorem Kept.refl (w : World) : Kept w w := fun _ _ _ _ h _ _ => h
theorem Kept.trans {w w1 w2 : World} (h : Kept w w1) (h' : Kept w1 w2) : Kept w w2 := fun g cs t fz h0 a b => h' g cs t fz (h g cs t fz h0 a b) a b
theorem Kept.of_below {w w' : World} (h : Below w.heap.size w w') : Kept w w' := fun g cs t fz h0 _ _ => heap_keep h0 h
theorem Kept.own {w w' : World} (h : Kept w w') {base e sz n : Nat} {v : Value} {xs : List Value} (ho : w.ownsRow base e sz v n xs) (h1 : e ≠ 66) (h2 : e ≠ 74) : w'.ownsRow base e sz v n xs :=
  own_step ho fun k hk => by
    obtain ⟨C, fz, hC⟩ := own_typed ho k hk
    exact (h _ _ _ _ hC h1 h2).trans hC.symm
theorem LAt.push_kept {w w1 w2 : World} {base b : Nat} {items : List It} {lev : Nat} {cls : List UInt8} {st : Value} {ap : Int} {sp : ByteArray} {iv : Value} {ps : List Value}
    (H : LAt w base b items lev cls st ap sp iv ps) (hb1 : Below w.heap.size w w1) (hg : w1.grownBy w2 iv.ownBlock) (v : Value) : Kept w (w2.setCell ⟨b, 3, none⟩ v) := fun g cs t fz h0 a1 a2 => by
  have H1 := H.below hb1
  have h2 := heap_grown (heap_keep h0 hb1) H1.own a2 hg
  exact heap_set_ne h2 (ty_ne h2 (heap_grown H1.row H1.own (by decide) hg) a1) _
theorem LAt.push {w w1 w2 : World} {base b g g2 cap : Nat} {items : List It} {lev : Nat} {cls : List UInt8} {st : Value} {ap : Int} {sp : ByteArray} {iv : Value} {ps : List Value} {it : It}
    (H : LAt w base b items lev cls st ap sp iv ps) (hbw : base ≤ w.heap.size) (hb1 : Below w.heap.size w w1) (hg0 : w.heap.size ≤ g) (hg1 : w1.heap[g]? = some (.cells (itemCells it) 76 (0, 0)))
    (hown : w2.ownsRow base 74 1 (.slice (some ⟨g2, 0, none⟩) (items.length + 1) cap) (items.length + 1) (ps ++ [.pointer (some ⟨g, 0, none⟩)])) (hg : w1.grownBy w2 iv.ownBlock) :
    Below base w (w2.setCell ⟨b, 3, none⟩ (.slice (some ⟨g2, 0, none⟩) (items.length + 1) cap)) ∧ LAt (w2.setCell ⟨b, 3, none⟩ (.slice (some ⟨g2, 0, none⟩) (items.length + 1) cap)) base b (items ++ [it]) lev cls st ap sp (.slice (some ⟨g2, 0, none⟩) (items.length + 1) cap) (ps ++ [.pointer (some ⟨g, 0, none⟩)]) := by
  have H1 := H.below hb1
  have hr2 := heap_grown H1.row H1.own (by decide) hg
  refine ⟨(below_grown (hb1.mono hbw) (Nat.le_trans hbw hb1.size) (Nat.le_refl _) H1.own hg).setCell H.le _, blk_set hr2 3 _, H.le, ?_, by simp [H.items.1], ?_⟩
  · rw [List.length_append]
    refine own_step hown fun k hk => ?_
    obtain ⟨C, fz, hC⟩ := own_typed hown k hk
    exact (heap_set_ne hC (ty_ne hC hr2 (by decide)) _).trans hC.symm
  · intro i x hx
    by_cases hi : i < items.length
    · rw [List.getElem?_append_left hi] at hx
      obtain ⟨gi, h1, h2, h3⟩ := H1.items.2 i x hx
      have h4 := heap_grown h3 H1.own (by decide) hg
      exact ⟨gi, by rw [List.getElem?_append_left (by rw [H.items.1]; exact hi)]; exact h1, h2, heap_set_ne h4 (ty_ne h4 hr2 (by decide)) _⟩
    · rw [List.getElem?_append_right (by omega)] at hx
      have h0 : i - items.length = 0 := by
        have := (List.getElem?_eq_some_iff.1 hx).1
        simp at this; omega
      rw [h0] at hx
      simp at hx
      subst hx
      have h4 := heap_grown hg1 H1.own (by decide) hg
      exact ⟨g, by rw [List.getElem?_append_right (by rw [H.items.1]; omega), H.items.1, h0]; rfl, Nat.le_trans hbw hg0, heap_set_ne h4 (ty_ne h4 hr2 (by decide)) _⟩

theorem infoPtr : (Tryz.prog.info? 74).map (fun i => (i.zero, i.size, i.bytes)) = some (some (.pointer none), 1, 8) := by kernel_rfl

/-- append(v, y) at a step of a region that draws its order: y lies in a new block -/
theorem step_box {P : Program} {w0 : World} {ops : Array Oper} {o : Oper} {a : Act} {K : Act → World → Prop} {Q : Exit → Act → World → Prop} {E : Prop} (hgd : o.guard = none) (sl x : Operand) (t : TypeId)
    (ho : o.op = .call { callee := .builtin .append, args := #[sl, x], argTypes := #[t, t] }) (e : TypeId) (z : Value) (size bytes : Nat)
    (ht : P.underlying t = some (.slice e)) (hi : (P.info? e).map (fun i => (i.zero, i.size, i.bytes)) = some (some z, size, bytes)) (hzs : z.cells.size = size) (hsz : 0 < size)
    (base : Nat) (v : Value) (n : Nat) (xs : List Value) (hs : a.eval sl = v) (hown : w0.ownsRow base e size v n xs)
    (c tb : Nat) (news : List Value) (hx : a.eval x = .slice (some ⟨w0.heap.size, 0, none⟩) 1 c) (hl : news.length = size) (h1 : ∀ u ∈ news, u.oneCell' = true)
    (hb : (n + 1) * bytes ≤ 140737488355328) (hb0 : 0 < bytes) (hbase : base ≤ w0.heap.size)
    (h : ∀ g cap w', w'.ownsRow base e size (.slice (some ⟨g, 0, none⟩) (n + 1) cap) (n + 1) (xs ++ news) → w0.grownBy w' v.ownBlock → K (a.put o.dst (.slice (some ⟨g, 0, none⟩) (n + 1) cap)) w') :
    if Region.wanted o (yielded ops a.tmps) = true then Oper.wp P o a (w0.alloc (.cells news.toArray tb)) K Q else E := by
  obtain ⟨i, hi0, hz0, hz1, hz2⟩ := info_parts hi
  have h63 : n + 1 ≤ maxLen := by
    have : n + 1 ≤ (n + 1) * bytes := Nat.le_mul_of_pos_right _ hb0
    simp only [maxLen]; omega
  refine step_append_lies _ hgd sl x t ho base e i z size bytes ht hi0 hz0 hz1 hz2 hzs hsz v n xs hs (own_below hown ((Below.refl _ w0).alloc (Nat.le_refl _) _)) ⟨w0.heap.size, 0, none⟩ 1 c news hx (by rw [hl, Nat.one_mul]) (fun j u hj => ?_) h1 (by decide) h63 hb (by simp; omega) _ rfl fun g cap w' h2 h3 _ _ => h g cap w' h2 (grown_alloc h3)
  rw [add_plain, Nat.zero_add, blk_cell (alloc_heap_new w0 (.cells news.toArray tb)) j]
  simpa using hj

theorem AppendItem_calls (base b : Nat) (items : List It) (lev : Nat) (cls : List UInt8) (st : Value) (ap : Int) (sp : ByteArray) (iv : Value) (ps : List Value) (s : List UInt8) (w : World) (hs : s.length ≤ 1000000000) (h : Cl s) (hn : items.length ≤ 1000000) (hbw : base ≤ w.heap.size)
    (H : LAt w base b items lev cls st ap sp iv ps) :
    Calls Tryz.prog 37 #[.pointer (some ⟨b, 0, none⟩), .iface 9 (.string ⟨s.toArray⟩)] w fun e w' => e = .returned (.tuple #[]) ∧ Below base w w' ∧ Kept w w' ∧ ∃ iv' ps', LAt w' base b (items ++ [(lev, s)]) lev cls st ap sp iv' ps' := by
  have KA := hid (fun w hb => analyze_calls b s ap sp ⟨cls.toArray⟩ iv lev st w hs h hb)
  obtain ⟨A0, c0, rfl, _⟩ := own_slice H.own
  have hc3 : w.cell? ⟨b, 3, none⟩ = some (.slice A0 items.length c0) := blk_cell H.row 3
  go_enter Tryz.func37, Tryz.ntmps37
  go_region_law
    (first
      | (go_simp; go_at_call 52; (with_reducible refine (KA.out _ H.row).mono ?_); rintro e w1 ⟨g, rfl, hg0, hg1, hb1⟩; replace hb1 : Below w.heap.size w w1 := (Below.refl _ w).drew.trans hb1; have hc1 := cell_keep hb1 hc3; have hc1a := cell_keep ((Below.refl _ w1).alloc (Nat.le_refl _) (.cells #[.pointer (some ⟨g, 0, none⟩)] 74)) hc1)
      | ((refine step_box (by rfl) _ _ 63 (by rfl) 74 (.pointer none) 1 8 Tryz.underlying63 infoPtr rfl (by decide) base (.slice A0 items.length c0) items.length ps (by rfl) (own_below H.own hb1) 1 74 [.pointer (some ⟨g, 0, none⟩)] (by rfl) rfl (by simp; rfl) (by omega) (by decide) (Nat.le_trans hbw hb1.size) ?_; intro g2 cap2 w2 hown2 hg2; have hr2 := heap_grown (heap_keep H.row hb1) (own_below H.own hb1) (by decide) hg2; have hc2 : w2.cell? ⟨b, 3, none⟩ = some (.slice A0 items.length c0) := blk_cell hr2 3; have hf2 : w2.frozen? ⟨b, 3, none⟩ = false := blk_free hr2 3)))
  all_goals (go_end0; have HP := H.push hbw hb1 hg0 hg1 hown2 hg2; exact ⟨rfl, HP.1, H.push_kept hb1 hg2 _, _, _, HP.2⟩)
end Go.Proofs.YthjpchabeemfmaaGreatDoor

namespace Go.Proofs.YthjpchabeemfmaaGreatDoor
open Go.RowKit
set_option linter.unusedVariables false
set_option linter.unusedSimpArgs false
set_option maxHeartbeats 4000000
set_option maxRecDepth 100000
attribute [local go_sem] S_extract S_append run_cut_S run_head_S run_tail_S Nat.add_sub_cancel_left

theorem below_keep_cell {B : Nat} {w w' : World} (hb : Below B w w') {a : Addr} {v : Value} (h : w.cell? a = some v) (hlt : a.block < B) : w'.cell? a = some v := by
  simp only [World.cell?] at h ⊢
  rw [hb.block _ hlt]
  exact h

theorem LAt.setLev {w : World} {base b : Nat} {items : List It} {lev : Nat} {cls : List UInt8} {st : Value} {ap : Int} {sp : ByteArray} {iv : Value} {ps : List Value} (H : LAt w base b items lev cls st ap sp iv ps) (n : Nat) :
    LAt (w.setCell ⟨b, 4, none⟩ (.int .i64 n)) base b items n cls st ap sp iv ps ∧ Below base w (w.setCell ⟨b, 4, none⟩ (.int .i64 n)) ∧ Kept w (w.setCell ⟨b, 4, none⟩ (.int .i64 n)) := by
  refine ⟨⟨blk_set H.row 4 _, H.le, own_step H.own fun k hk => ?_, H.items.1, fun i x hx => ?_⟩, (Below.refl _ w).setCell H.le _, fun g cs t fz h0 a1 a2 => heap_set_ne h0 (ty_ne h0 H.row a1) _⟩
  · obtain ⟨C, fz, hC⟩ := own_typed H.own k hk
    exact (heap_set_ne hC (ty_ne hC H.row (by decide)) _).trans hC.symm
  · obtain ⟨gi, h1, h2, h3⟩ := H.items.2 i x hx
    exact ⟨gi, h1, h2, heap_set_ne h3 (ty_ne h3 H.row (by decide)) _⟩

theorem UnIndentAll_calls (base b : Nat) (items : List It) (lev : Nat) (cls : List UInt8) (st : Value) (ap : Int) (sp : ByteArray) (iv : Value) (ps : List Value) (w : World) (H : LAt w base b items lev cls st ap sp iv ps) :
    Calls Tryz.prog 41 #[.pointer (some ⟨b, 0, none⟩)] w fun e w' => e = .returned (.tuple #[]) ∧ Below base w w' ∧ Kept w w' ∧ LAt w' base b items 0 cls st ap sp iv ps := by
  have hc4 : w.cell? ⟨b, 4, none⟩ = some (.int .i64 lev) := blk_cell H.row 4
  have hf4 : w.frozen? ⟨b, 4, none⟩ = false := blk_free H.row 4
  go_enter Tryz.func41, Tryz.ntmps41
  go_wp2_with fail
  go_end0
  have HP := H.setLev 0
  exact ⟨rfl, HP.2.1, HP.2.2, HP.1⟩

theorem UnIndent_calls (base b : Nat) (items : List It) (lev : Nat) (cls : List UInt8) (st : Value) (ap : Int) (sp : ByteArray) (iv : Value) (ps : List Value) (w : World) (hl : lev ≤ 1000000) (H : LAt w base b items lev cls st ap sp iv ps) :
    Calls Tryz.prog 40 #[.pointer (some ⟨b, 0, none⟩)] w fun e w' => e = .returned (.tuple #[]) ∧ Below base w w' ∧ Kept w w' ∧ LAt w' base b items (lev - 1) cls st ap sp iv ps := by
  have hc4 : w.cell? ⟨b, 4, none⟩ = some (.int .i64 lev) := blk_cell H.row 4
  have hf4 : w.frozen? ⟨b, 4, none⟩ = false := blk_free H.row 4
  by_cases h0 : 0 < lev
  · obtain ⟨m, rfl⟩ : ∃ m, lev = m + 1 := ⟨lev - 1, by omega⟩
    have h0' : (0 : Int) < ((m + 1 : Nat) : Int) := by omega
    go_enter Tryz.func40, Tryz.ntmps40
    go_wp2_with fail
    go_end0
    have HP := H.setLev m
    exact ⟨rfl, HP.2.1, HP.2.2, HP.1⟩
  · have h1 : lev = 0 := by omega
    subst h1
    go_enter Tryz.func40, Tryz.ntmps40
    go_wp2_with fail
    go_end0
    exact ⟨rfl, Below.refl _ w, Kept.refl w, H⟩

def indent (items : List It) (lev : Nat) : Nat := match items.getLast? with
  | none => lev
  | some it => if it.1 < lev then lev else lev + 1

theorem Indent_calls (base b : Nat) (items : List It) (lev : Nat) (cls : List UInt8) (st : Value) (ap : Int) (sp : ByteArray) (iv : Value) (ps : List Value) (w : World) (hl : lev ≤ 1000000) (hn : items.length ≤ 1000000) (H : LAt w base b items lev cls st ap sp iv ps) :
    Calls Tryz.prog 39 #[.pointer (some ⟨b, 0, none⟩)] w fun e w' => e = .returned (.tuple #[]) ∧ Below base w w' ∧ Kept w w' ∧ LAt w' base b items (indent items lev) cls st ap sp iv ps := by
  have hc4 : w.cell? ⟨b, 4, none⟩ = some (.int .i64 lev) := blk_cell H.row 4
  have hc3 : w.cell? ⟨b, 3, none⟩ = some iv := blk_cell H.row 3
  have hf4 : w.frozen? ⟨b, 4, none⟩ = false := blk_free H.row 4
  rcases Nat.eq_zero_or_pos items.length with h0 | h0
  · have hi : items = [] := List.eq_nil_of_length_eq_zero h0
    subst hi
    obtain ⟨A0, c0, rfl, _⟩ := own_slice H.own
    go_enter Tryz.func39, Tryz.ntmps39
    go_wp2_with fail
    go_end0
    exact ⟨rfl, Below.refl _ w, Kept.refl w, H⟩
  · obtain ⟨m, hm⟩ : ∃ m, items.length = m + 1 := ⟨items.length - 1, by omega⟩
    have hown := H.own
    rw [hm] at hown
    obtain ⟨g, c0, rfl, hc, hg, _, hcell⟩ := own_cells hown (by omega)
    obtain ⟨it, hit⟩ : ∃ it, items[m]? = some it := ⟨_, List.getElem?_eq_getElem (by omega)⟩
    have hlast : items.getLast? = some it := by rw [List.getLast?_eq_getElem?, hm]; exact hit
    obtain ⟨gi, hp, _, hgi⟩ := H.items.2 m it hit
    have hcm := hcell m _ hp
    have hci : w.cell? ⟨gi, 0, none⟩ = some (.int .i64 it.1) := blk_cell hgi 0
    have e1 : ((m : Int) + 1 - 1) = m := by omega
    have hne : (((m : Int) + 1) == 0) = false := by rw [beq_eq_false_iff_ne]; omega
    have HI := hid (show indent items lev = if it.1 < lev then lev else lev + 1 by unfold indent; rw [hlast])
    have HH := hid H
    have hmb : m ≤ 1000000 := by omega
    have hmi : (m : Int) < (m : Int) + 1 := by omega
    clear H hown hlast hit hp hgi hcell hm h0
    by_cases hlt : it.1 < lev
    · have hlt' : (it.1 : Int) < (lev : Int) := by omega
      go_enter Tryz.func39, Tryz.ntmps39
      go_wp2_with fail
      go_quiet (fail)
      go_wp2_with fail
      go_end0
      have hD := bdrew (Below.refl w.heap.size w) nq
      have hD2 : Below base w (w.drewN nq) := bdrew (Below.refl base w) nq
      refine ⟨rfl, hD2, Kept.of_below hD, ?_⟩
      rw [HI.out, if_pos hlt]
      exact HH.out.below hD
    · have hlt' : ¬ (it.1 : Int) < (lev : Int) := by omega
      go_enter Tryz.func39, Tryz.ntmps39
      go_wp2_with fail
      go_quiet (fail)
      go_wp2_with fail
      go_end0
      have hD := bdrew (Below.refl w.heap.size w) nq
      have hD2 : Below base w (w.drewN nq) := bdrew (Below.refl base w) nq
      have HP := (HH.out.below hD).setLev (lev + 1)
      rw [HI.out, if_neg hlt]
      exact ⟨rfl, hD2.trans HP.2.1, (Kept.of_below hD).trans HP.2.2, HP.1⟩

@[go_sem] theorem mk0 (w : World) : (Instr.makeSlice 63 (.int .i64 0) (.int .i64 0)).run Tryz.prog w = .ok (.slice (some ⟨w.heap.size, 0, none⟩) 0 0) (w.alloc (.cells #[] 74)) := by kernel_rfl
theorem Reset_calls (base b : Nat) (items : List It) (lev : Nat) (cls : List UInt8) (st : Value) (ap : Int) (sp : ByteArray) (iv : Value) (ps : List Value) (w : World) (hbw : base ≤ w.heap.size) (H : LAt w base b items lev cls st ap sp iv ps) :
    Calls Tryz.prog 42 #[.pointer (some ⟨b, 0, none⟩)] w fun e w' => e = .returned (.tuple #[]) ∧ Below base w w' ∧ Kept w w' ∧ ∃ iv', LAt w' base b [] 0 cls (.pointer none) 0 sp iv' [] := by
  obtain ⟨W0, e0⟩ : ∃ W0, W0 = w.setCell ⟨b, 0, none⟩ (.int .i64 0) := ⟨_, rfl⟩
  have r0 : W0.heap[b]? = some (.cells (LRow 0 sp cls iv lev st) 66 (0, 0)) := by rw [e0]; exact blk_set H.row 0 _
  have z0 : W0.heap.size = w.heap.size := by rw [e0]; simp [World.setCell]
  obtain ⟨W1, e1⟩ : ∃ W1, W1 = W0.alloc (.cells #[] 74) := ⟨_, rfl⟩
  have hb01 : Below W0.heap.size W0 W1 := by rw [e1]; exact (Below.refl _ W0).alloc (Nat.le_refl _) _
  have r1 : W1.heap[b]? = some (.cells (LRow 0 sp cls iv lev st) 66 (0, 0)) := heap_keep r0 hb01
  obtain ⟨W2, e2⟩ : ∃ W2, W2 = W1.setCell ⟨b, 3, none⟩ (.slice (some ⟨w.heap.size, 0, none⟩) 0 0) := ⟨_, rfl⟩
  have r2 : W2.heap[b]? = some (.cells (LRow 0 sp cls (.slice (some ⟨w.heap.size, 0, none⟩) 0 0) lev st) 66 (0, 0)) := by rw [e2]; exact blk_set r1 3 _
  obtain ⟨W3, e3⟩ : ∃ W3, W3 = W2.setCell ⟨b, 4, none⟩ (.int .i64 0) := ⟨_, rfl⟩
  have r3 : W3.heap[b]? = some (.cells (LRow 0 sp cls (.slice (some ⟨w.heap.size, 0, none⟩) 0 0) 0 st) 66 (0, 0)) := by rw [e3]; exact blk_set r2 4 _
  have hc0 : w.cell? ⟨b, 0, none⟩ = some (.int .i64 ap) := blk_cell H.row 0
  have hc1 : W1.cell? ⟨b, 3, none⟩ = some iv := blk_cell r1 3
  have hc2 : W2.cell? ⟨b, 4, none⟩ = some (.int .i64 lev) := blk_cell r2 4
  have hc3 : W3.cell? ⟨b, 5, none⟩ = some st := blk_cell r3 5
  have hf0 : w.frozen? ⟨b, 0, none⟩ = false := blk_free H.row 0
  have hf1 : W1.frozen? ⟨b, 3, none⟩ = false := blk_free r1 3
  have hf2 : W2.frozen? ⟨b, 4, none⟩ = false := blk_free r2 4
  have hf3 : W3.frozen? ⟨b, 5, none⟩ = false := blk_free r3 5
  have HG : Hid (∀ W4, W4 = W3.setCell ⟨b, 5, none⟩ (.pointer none) → Below base w W4 ∧ Kept w W4 ∧ LAt W4 base b [] 0 cls (.pointer none) 0 sp (.slice (some ⟨w.heap.size, 0, none⟩) 0 0) []) := hid (by
    rintro W4 rfl
    have n1 : W1.heap[w.heap.size]? = some (.cells #[] 74 (0, 0)) := by rw [e1, ← z0]; exact alloc_heap_new W0 _
    have hne : w.heap.size ≠ b := by have := heap_lt H.row; omega
    have n2 : W2.heap[w.heap.size]? = some (.cells #[] 74 (0, 0)) := by rw [e2]; exact heap_set_ne n1 hne _
    have n3 : W3.heap[w.heap.size]? = some (.cells #[] 74 (0, 0)) := by rw [e3]; exact heap_set_ne n2 hne _
    refine ⟨?_, fun g cs t fz h0 a1 a2 => ?_, blk_set r3 5 _, H.le, ⟨by simp, .inr ⟨w.heap.size, 0, #[], rfl, hbw, heap_set_ne n3 hne _, Nat.le_refl _, by simp [maxLen], by simp, by simp⟩⟩, rfl, fun i x hx => by simp at hx⟩
    · rw [e3, e2, e1, e0]
      exact (((((Below.refl _ w).setCell H.le _).alloc (by simpa [World.setCell] using hbw) _).setCell H.le _).setCell H.le _).setCell H.le _
    · have hgb := ty_ne h0 H.row a1
      have g0 : W0.heap[g]? = some (.cells cs t fz) := by rw [e0]; exact heap_set_ne h0 hgb _
      have g1 := heap_keep g0 hb01
      have g2 : W2.heap[g]? = some (.cells cs t fz) := by rw [e2]; exact heap_set_ne g1 hgb _
      have g3 : W3.heap[g]? = some (.cells cs t fz) := by rw [e3]; exact heap_set_ne g2 hgb _
      exact heap_set_ne g3 hgb _)
  clear H
  rw [e3, e2, e1, e0] at HG
  rw [e3, e2, e1, e0] at hc3 hf3
  rw [e2, e1, e0] at hc2 hf2
  rw [e1, e0] at hc1 hf1
  go_enter Tryz.func42, Tryz.ntmps42
  go_wp2_with fail
  go_end0
  have HP := HG.out _ rfl
  exact ⟨rfl, HP.1, HP.2.1, _, HP.2.2⟩
end Go.Proofs.YthjpchabeemfmaaGreatDoor

namespace Go.Proofs.YthjpchabeemfmaaGreatDoor
open Go.RowKit
set_option linter.unusedVariables false
set_option linter.unusedSimpArgs false
set_option maxHeartbeats 4000000
set_option maxRecDepth 100000
attribute [local go_sem] S_extract S_append run_cut_S run_head_S run_tail_S Nat.add_sub_cancel_left

def anyText (s : List UInt8) : Value := .iface 9 (.string ⟨s.toArray⟩)

theorem AppendItems_calls (base b : Nat) (items : List It) (lev : Nat) (cls : List UInt8) (st : Value) (ap : Int) (sp : ByteArray) (iv : Value) (ps : List Value) (texts : List (List UInt8)) (v : Value) (ab : Nat) (w : World)
    (ht : ∀ s ∈ texts, s.length ≤ 1000000000 ∧ Cl s) (hn : items.length + texts.length ≤ 1000000) (hbw : base ≤ w.heap.size)
    (ha : w.ownsRow ab 20 1 v texts.length (texts.map anyText)) (H : LAt w base b items lev cls st ap sp iv ps) :
    Calls Tryz.prog 38 #[.pointer (some ⟨b, 0, none⟩), v] w fun e w' => e = .returned (.tuple #[]) ∧ Below base w w' ∧ Kept w w' ∧ ∃ iv' ps', LAt w' base b (items ++ texts.map (lev, ·)) lev cls st ap sp iv' ps' := by
  obtain ⟨A0, c0, rfl, _⟩ := own_slice ha
  have HA := hid ha
  clear ha
  go_enter Tryz.func38, Tryz.ntmps38
  go_wp2_with fail
  go_loopw [8] (fun u wr => ∃ k : Nat, k ≤ texts.length ∧ u = .int .i64 k ∧ Below base w wr ∧ Kept w wr ∧ ∃ iv' ps', LAt wr base b (items ++ (texts.take k).map (lev, ·)) lev cls st ap sp iv' ps') (fun u _ => texts.length - (intOf u).toNat)
  case atStart => exact ⟨0, by omega, rfl, Below.refl _ w, Kept.refl w, iv, ps, by simpa using H⟩
  case round =>
    obtain ⟨k, hk, rfl, hbl, hkp, iv', ps', HL⟩ := hrel
    by_cases hlt : k < texts.length
    · obtain ⟨s, hs⟩ : ∃ s, texts[k]? = some s := ⟨_, List.getElem?_eq_getElem hlt⟩
      obtain ⟨hs1, hs2⟩ := ht s (List.mem_of_getElem? hs)
      have how := hkp.own HA.out (by decide) (by decide)
      obtain ⟨g, c1, hv, _, _, _, hcell⟩ := own_cells how (by omega)
      injection hv with hv1 hv2 hv3
      subst hv1 hv3
      have hck : wr.cell? ⟨g, k, none⟩ = some (anyText s) := hcell k _ (by simp [hs])
      have hlt' : (k : Int) < (texts.length : Int) := by omega
      have KA := hid (AppendItem_calls base b _ lev cls st ap sp iv' ps' s wr hs1 hs2 (by simp; omega) (Nat.le_trans hbw hbl.size) HL)
      have htk : items ++ (texts.take k).map (lev, ·) ++ [(lev, s)] = items ++ (texts.take (k + 1)).map (lev, ·) := by
        rw [List.take_add_one, hs]; simp
      rw [htk] at KA
      clear how hcell hs htk HL
      unfold anyText at hck
      go_wp2_with (go_at_call 37; (with_reducible refine KA.out.mono ?_); rintro e w' ⟨rfl, hb2, hk2, iv2, ps2, HL2⟩)
      go_roundw
      case rel => exact ⟨k + 1, by omega, by go_num, hbl.trans hb2, hkp.trans hk2, iv2, ps2, HL2⟩
      case measure => simp [intOf]; omega
    · have hk2 : k = texts.length := by omega
      have hlt' : ¬ (k : Int) < (texts.length : Int) := by omega
      rw [hk2, List.take_length] at HL
      have HL' := hid HL
      clear hk2 HL
      go_wp2_with fail
      go_end0
      exact ⟨rfl, hbl, hkp, iv', ps', HL'.out⟩
end Go.Proofs.YthjpchabeemfmaaGreatDoor

namespace Go.Proofs.YthjpchabeemfmaaGreatDoor
open Go.RowKit
set_option linter.unusedVariables false
set_option linter.unusedSimpArgs false
set_option maxHeartbeats 4000000
set_option maxRecDepth 100000
attribute [local go_sem] S_extract S_append run_cut_S run_head_S run_tail_S Nat.add_sub_cancel_left

def stepP (q : List It × Nat) (p : Stp) : List It × Nat :=
  if p.kind = 0 then (q.1 ++ [(q.2, p.text)], q.2) else if p.kind = 1 then (q.1 ++ p.texts.map (q.2, ·), q.2) else if p.kind = 2 then (q.1, indent q.1 q.2) else if p.kind = 3 then (q.1, q.2 - 1) else if p.kind = 4 then (q.1, 0) else if p.kind = 5 then ([], 0) else q
def playF (l : List Stp) : List It × Nat := l.foldl stepP ([], 0)
/-- the items that steps make -/
def played (l : List Stp) : List It := (playF l).1
/-- steps that are right -/
def StOk (p : Stp) : Prop := p.text.length ≤ 1000000000 ∧ Cl p.text ∧ p.texts.length ≤ 10 ∧ ∀ t ∈ p.texts, t.length ≤ 1000000000 ∧ Cl t
theorem infoAny : (Tryz.prog.info? 20).map (fun i => (i.zero, i.size, i.bytes)) = some (some .nilIface, 1, 16) := by kernel_rfl

def playK (l : List Stp) (k : Nat) : List It × Nat := (l.take k).foldl stepP ([], 0)
theorem playK_succ (l : List Stp) (k : Nat) (p : Stp) (h : l[k]? = some p) : playK l (k + 1) = stepP (playK l k) p := by
  unfold playK
  rw [List.take_add_one, h]
  simp
theorem stepP_bounds (q : List It × Nat) (p : Stp) (h : p.texts.length ≤ 10) : (stepP q p).1.length ≤ q.1.length + 10 ∧ (stepP q p).2 ≤ q.2 + 1 := by
  unfold stepP
  repeat' split
  all_goals simp
  all_goals try omega
  · unfold indent
    split
    · omega
    · split <;> omega

set_option maxHeartbeats 8000000 in
theorem listOf_calls (l : List Stp) (v : Value) (w : World) (hl : l.length ≤ 1000) (hok : ∀ p ∈ l, StOk p) (h : RdSt w v l) :
    Calls Tryz.prog 26 #[v] w fun e w' => e = .returned (.pointer (some ⟨w.heap.size, 0, none⟩)) ∧ Below w.heap.size w w' ∧ ∃ iv ps, LAt w' w.heap.size w.heap.size (playK l l.length).1 (playK l l.length).2 [] (.pointer none) 0 ⟨#[]⟩ iv ps := by
  obtain ⟨A0, c0, rfl, _, _⟩ := h.1.form
  have HR := hid h
  clear h
  go_enter Tryz.func26, Tryz.ntmps26
  go_wp2_with fail
  go_loopw [13] (fun u wr => ∃ k : Nat, k ≤ l.length ∧ u = .int .i64 k ∧ Below w.heap.size w wr ∧ w.heap.size < wr.heap.size ∧ Hid ((playK l k).1.length ≤ 10 * k ∧ (playK l k).2 ≤ k) ∧ ∃ iv ps, LAt wr w.heap.size w.heap.size (playK l k).1 (playK l k).2 [] (.pointer none) 0 ⟨#[]⟩ iv ps) (fun u _ => l.length - (intOf u).toNat)
  case atStart => exact ⟨0, by omega, rfl, (Below.refl _ w).alloc (Nat.le_refl _) _, by simp, hid ⟨by simp [playK], by simp [playK]⟩, .slice none 0 0, [], ⟨alloc_heap_new w _, Nat.le_refl _, own_nil _ _ _ _, rfl, fun i x hx => by simp [playK] at hx⟩⟩
  case round =>
    obtain ⟨k, hk, rfl, hbw, hsz, hbd, iv, ps, HL⟩ := hrel
    by_cases hlt : k < l.length
    · obtain ⟨p, hp⟩ : ∃ p, l[k]? = some p := ⟨_, List.getElem?_eq_getElem hlt⟩
      obtain ⟨hp1, hp2, hp3, hp4⟩ := hok p (List.mem_of_getElem? hp)
      obtain ⟨g, o, rfl, hcell⟩ := HR.out.1.at (by omega)
      have hcs := stp_get hp
      have hc0 : wr.cell? ⟨g, o + k * 3, none⟩ = some (.int .i64 p.kind) := cell_keep hbw (hcell _ _ hcs.1)
      have hc1 : wr.cell? ⟨g, o + k * 3 + 1, none⟩ = some (.string ⟨p.text.toArray⟩) := cell_keep hbw (hcell _ _ hcs.2.1)
      have hc2 : wr.cell? ⟨g, o + k * 3 + 2, none⟩ = some p.val := cell_keep hbw (hcell _ _ hcs.2.2)
      have HT := hid ((HR.out.2 p (List.mem_of_getElem? hp)).below hbw)
      obtain ⟨At, ct, hval, _, _⟩ := HT.out.form
      rw [hval] at hc2 HT
      have HP := hid (playK_succ l k p hp)
      have hlt' : (k : Int) < (l.length : Int) := by omega
      have hbd2 : Hid ((playK l (k + 1)).1.length ≤ 10 * (k + 1) ∧ (playK l (k + 1)).2 ≤ k + 1) := hid (by
        rw [HP.out]
        have := stepP_bounds (playK l k) p hp3
        have := hbd.out
        omega)
      have hbd3 := hbd.out
      clear hcell hcs hp hbd hval
      generalize hq : playK l k = q at *
      obtain ⟨its, lev⟩ := q
      simp only at HL hbd3
      have HLh := hid HL
      have hbA := hbw.alloc hbw.size (.cells #[.int .i64 p.kind, .string ⟨p.text.toArray⟩, .slice At p.texts.length ct] 39)
      have HL1 := HL.below ((Below.refl _ wr).alloc (Nat.le_refl _) (.cells #[.int .i64 p.kind, .string ⟨p.text.toArray⟩, .slice At p.texts.length ct] 39))
      have hsA := hbA.size
      have HT1 := hid (HT.out.below ((Below.refl _ wr).alloc (Nat.le_refl _) (.cells #[.int .i64 p.kind, .string ⟨p.text.toArray⟩, .slice At p.texts.length ct] 39)))
      clear HL HT
      by_cases k0 : p.kind = 0
      · have E0 : (p.kind == 0) = true := by simpa using k0
        have HS := hid (show playK l (k + 1) = (its ++ [(lev, p.text)], lev) by rw [HP.out]; unfold stepP; rw [if_pos k0])
        have KA := hid (AppendItem_calls _ _ its lev [] (.pointer none) 0 ⟨#[]⟩ iv ps p.text _ hp1 hp2 (by omega) hsA HL1)
        clear k0 HP HL1
        go_wp2_with (go_at_call 37; (with_reducible refine KA.out.mono ?_); rintro e w' ⟨rfl, hb2, hk2, iv2, ps2, HL2⟩)
        go_roundw
        case rel => exact ⟨k + 1, by omega, by go_num, hbA.trans hb2, Nat.lt_of_lt_of_le hsz (Nat.le_trans (by simp) hb2.size), hbd2, iv2, ps2, by rw [HS.out]; exact HL2⟩
        case measure => simp [intOf]; omega
      · have E0 : (p.kind == 0) = false := by simpa using k0
        by_cases k1 : p.kind = 1
        · have E1 : (p.kind == 1) = true := by simpa using k1
          have HS := hid (show playK l (k + 1) = (its ++ p.texts.map (lev, ·), lev) by rw [HP.out]; unfold stepP; rw [if_neg k0, if_pos k1])
          clear k0 k1 HP
          go_wp2_with fail
          generalize hW1 : wr.alloc (.cells #[.int .i64 p.kind, .string ⟨p.text.toArray⟩, .slice At p.texts.length ct] 39) = W1 at *
          have hss : wr.heap.size ≤ W1.heap.size := by rw [← hW1]; simp
          clear hW1
          have HL1h := hid HL1
          clear HL1
          go_loopw [6, 31] (fun vi u ws => ∃ j : Nat, j ≤ p.texts.length ∧ u = .int .i64 j ∧ Below W1.heap.size W1 ws ∧ ws.ownsRow W1.heap.size 20 1 vi j ((p.texts.take j).map anyText)) (fun _ u _ => p.texts.length - (intOf u).toNat)
          case atStart => exact ⟨0, by omega, rfl, Below.refl _ W1, own_nil _ _ _ _⟩
          case round =>
            obtain ⟨j, hj, rfl, hbs, hown⟩ := hrel
            by_cases hjl : j < p.texts.length
            · obtain ⟨t, ht⟩ : ∃ t, p.texts[j]? = some t := ⟨_, List.getElem?_eq_getElem hjl⟩
              obtain ⟨gt, ot, rfl, hct⟩ := RdF.at HT1.out (by omega)
              have hctj := cell_keep hbs (hct j (.string ⟨t.toArray⟩) (by simp [strs, ht]))
              have hjl' : (j : Int) < (p.texts.length : Int) := by omega
              have hbsz := hbs.size
              have HTK := hid (show (p.texts.take j).map anyText ++ [anyText t] = (p.texts.take (j + 1)).map anyText by rw [List.take_add_one, ht]; simp)
              clear ht hct
              go_wp2_with (at_builtin; refine append_box rfl _ _ 68 20 .nilIface 1 16 rfl Tryz.underlying68 infoAny rfl (by decide) W1.heap.size u6 j ((p.texts.take j).map anyText) rfl hown 1 20 [anyText t] rfl rfl (by simp; rfl) (by omega) (by decide) hbsz ?_; intro v1 w1 hown1 hg1)
              rw [HTK.out] at hown1
              go_roundw
              case rel => exact ⟨j + 1, by omega, by go_num, below_grown hbs hbsz (Nat.le_refl _) hown hg1, hown1⟩
              case measure => simp [intOf]; omega
            · have hj2 : j = p.texts.length := by omega
              have hjl' : ¬ (j : Int) < (p.texts.length : Int) := by omega
              have hown2 := hown
              rw [hj2, List.take_length] at hown2
              have KA := hid (AppendItems_calls _ _ its lev [] (.pointer none) 0 ⟨#[]⟩ iv ps p.texts u6 _ _ hp4 (by omega) (Nat.le_trans hsA hbs.size) hown2 (HL1h.out.below hbs))
              have hbT := hbA.trans (hbs.mono hsA)
              obtain ⟨A6, c6, rfl, _⟩ := own_slice hown2
              clear hown hown2 hj2
              go_wp2_with (go_at_call 38; (with_reducible refine KA.out.mono ?_); rintro e w' ⟨rfl, hb2, hk2, iv2, ps2, HL2⟩)
              go_roundw
              case rel => exact ⟨k + 1, by omega, by go_num, hbT.trans hb2, Nat.lt_of_lt_of_le hsz (Nat.le_trans hss (Nat.le_trans hbs.size hb2.size)), hbd2, iv2, ps2, by rw [HS.out]; exact HL2⟩
              case measure => simp [intOf]; omega
        · have E1 : (p.kind == 1) = false := by simpa using k1
          by_cases k2 : p.kind = 2
          · have E2 : (p.kind == 2) = true := by simpa using k2
            have HS := hid (show playK l (k + 1) = (its, indent its lev) by rw [HP.out]; unfold stepP; rw [if_neg k0, if_neg k1, if_pos k2])
            have KA := hid (Indent_calls _ _ its lev [] (.pointer none) 0 ⟨#[]⟩ iv ps _ (by omega) (by omega) HL1)
            clear HP HL1 k0 k1 k2
            go_wp2_with (go_at_call 39; (with_reducible refine KA.out.mono ?_); rintro e w' ⟨rfl, hb2, hk2, HL2⟩)
            go_roundw
            case rel => exact ⟨k + 1, by omega, by go_num, hbA.trans hb2, Nat.lt_of_lt_of_le hsz (Nat.le_trans (by simp) hb2.size), hbd2, iv, ps, by rw [HS.out]; exact HL2⟩
            case measure => simp [intOf]; omega
          · have E2 : (p.kind == 2) = false := by simpa using k2
            by_cases k3 : p.kind = 3
            · have E3 : (p.kind == 3) = true := by simpa using k3
              have HS := hid (show playK l (k + 1) = (its, lev - 1) by rw [HP.out]; unfold stepP; rw [if_neg k0, if_neg k1, if_neg k2, if_pos k3])
              have KA := hid (UnIndent_calls _ _ its lev [] (.pointer none) 0 ⟨#[]⟩ iv ps _ (by omega) HL1)
              clear HP HL1 k0 k1 k2 k3
              go_wp2_with (go_at_call 40; (with_reducible refine KA.out.mono ?_); rintro e w' ⟨rfl, hb2, hk2, HL2⟩)
              go_roundw
              case rel => exact ⟨k + 1, by omega, by go_num, hbA.trans hb2, Nat.lt_of_lt_of_le hsz (Nat.le_trans (by simp) hb2.size), hbd2, iv, ps, by rw [HS.out]; exact HL2⟩
              case measure => simp [intOf]; omega
            · have E3 : (p.kind == 3) = false := by simpa using k3
              by_cases k4 : p.kind = 4
              · have E4 : (p.kind == 4) = true := by simpa using k4
                have HS := hid (show playK l (k + 1) = (its, 0) by rw [HP.out]; unfold stepP; rw [if_neg k0, if_neg k1, if_neg k2, if_neg k3, if_pos k4])
                have KA := hid (UnIndentAll_calls _ _ its lev [] (.pointer none) 0 ⟨#[]⟩ iv ps _ HL1)
                clear HP HL1 k0 k1 k2 k3 k4
                go_wp2_with (go_at_call 41; (with_reducible refine KA.out.mono ?_); rintro e w' ⟨rfl, hb2, hk2, HL2⟩)
                go_roundw
                case rel => exact ⟨k + 1, by omega, by go_num, hbA.trans hb2, Nat.lt_of_lt_of_le hsz (Nat.le_trans (by simp) hb2.size), hbd2, iv, ps, by rw [HS.out]; exact HL2⟩
                case measure => simp [intOf]; omega
              · have E4 : (p.kind == 4) = false := by simpa using k4
                by_cases k5 : p.kind = 5
                · have E5 : (p.kind == 5) = true := by simpa using k5
                  have HS := hid (show playK l (k + 1) = ([], 0) by rw [HP.out]; unfold stepP; rw [if_neg k0, if_neg k1, if_neg k2, if_neg k3, if_neg k4, if_pos k5])
                  have KA := hid (Reset_calls _ _ its lev [] (.pointer none) 0 ⟨#[]⟩ iv ps _ hsA HL1)
                  clear HP HL1 k0 k1 k2 k3 k4 k5
                  go_wp2_with (go_at_call 42; (with_reducible refine KA.out.mono ?_); rintro e w' ⟨rfl, hb2, hk2, iv2, HL2⟩)
                  go_roundw
                  case rel => exact ⟨k + 1, by omega, by go_num, hbA.trans hb2, Nat.lt_of_lt_of_le hsz (Nat.le_trans (by simp) hb2.size), hbd2, iv2, [], by rw [HS.out]; exact HL2⟩
                  case measure => simp [intOf]; omega
                · have E5 : (p.kind == 5) = false := by simpa using k5
                  have HS := hid (show playK l (k + 1) = (its, lev) by rw [HP.out]; unfold stepP; rw [if_neg k0, if_neg k1, if_neg k2, if_neg k3, if_neg k4, if_neg k5])
                  have HL2 := hid HL1
                  clear HP HL1 k0 k1 k2 k3 k4 k5
                  go_wp2_with fail
                  go_roundw
                  case rel => exact ⟨k + 1, by omega, by go_num, hbA, Nat.lt_of_lt_of_le hsz (by simp), hbd2, iv, ps, by rw [HS.out]; exact HL2.out⟩
                  case measure => simp [intOf]; omega
    · have hk2 : k = l.length := by omega
      subst hk2
      have hlt' : ¬ (l.length : Int) < (l.length : Int) := by omega
      have HL' := hid HL
      clear HL
      go_wp2_with fail
      go_ret
      exact ⟨rfl, hbw, iv, ps, HL'.out⟩
end Go.Proofs.YthjpchabeemfmaaGreatDoor

namespace Go.Proofs.YthjpchabeemfmaaGreatDoor
open Go.RowKit
set_option linter.unusedVariables false
set_option linter.unusedSimpArgs false
set_option maxHeartbeats 4000000
set_option maxRecDepth 100000
attribute [local go_sem] S_extract S_append run_cut_S run_head_S run_tail_S Nat.add_sub_cancel_left

/-- a store into a list's own cells, all but the items' -/
theorem LAt.put {w : World} {base b : Nat} {items : List It} {lev lev' : Nat} {cls cls' : List UInt8} {st st' : Value} {ap ap' : Int} {sp sp' : ByteArray} {iv : Value} {ps : List Value} (H : LAt w base b items lev cls st ap sp iv ps) (i : Nat) (u : Value)
    (he : (LRow ap sp cls iv lev st).setIfInBounds i u = LRow ap' sp' cls' iv lev' st') :
    LAt (w.setCell ⟨b, i, none⟩ u) base b items lev' cls' st' ap' sp' iv ps ∧ Below base w (w.setCell ⟨b, i, none⟩ u) ∧ Kept w (w.setCell ⟨b, i, none⟩ u) := by
  refine ⟨⟨by rw [← he]; exact blk_set H.row i _, H.le, own_step H.own fun k hk => ?_, H.items.1, fun i x hx => ?_⟩, (Below.refl _ w).setCell H.le _, fun g cs t fz h0 a1 a2 => heap_set_ne h0 (ty_ne h0 H.row a1) _⟩
  · obtain ⟨C, fz, hC⟩ := own_typed H.own k hk
    exact (heap_set_ne hC (ty_ne hC H.row (by decide)) _).trans hC.symm
  · obtain ⟨gi, h1, h2, h3⟩ := H.items.2 i x hx
    exact ⟨gi, h1, h2, heap_set_ne h3 (ty_ne h3 H.row (by decide)) _⟩

theorem SetClass_calls (base b : Nat) (items : List It) (lev : Nat) (cls c : List UInt8) (st : Value) (ap : Int) (sp : ByteArray) (iv : Value) (ps : List Value) (w : World) (H : LAt w base b items lev cls st ap sp iv ps) :
    Calls Tryz.prog 31 #[.pointer (some ⟨b, 0, none⟩), .string ⟨c.toArray⟩] w fun e w' => e = .returned (.tuple #[]) ∧ Below base w w' ∧ Kept w w' ∧ LAt w' base b items lev c st ap sp iv ps := by
  have hc2 : w.cell? ⟨b, 2, none⟩ = some (.string ⟨cls.toArray⟩) := blk_cell H.row 2
  have hf2 : w.frozen? ⟨b, 2, none⟩ = false := blk_free H.row 2
  go_enter Tryz.func31, Tryz.ntmps31
  go_wp2_with fail
  go_end0
  have HP := H.put (ap' := ap) (sp' := sp) (cls' := c) (lev' := lev) (st' := st) 2 (.string ⟨c.toArray⟩) rfl
  exact ⟨rfl, HP.2.1, HP.2.2, HP.1⟩

/-- a style: its cells -/
structure Sty where
  fmt : Int
  single : List UInt8
  top : List UInt8
  first : List UInt8
  middle : List UInt8
  vert : List UInt8
  bottom : List UInt8
  newline : List UInt8
  pre : List UInt8
  name : List UInt8
def styCells (s : Sty) : Array Value := #[.int .i64 s.fmt, .string ⟨s.single.toArray⟩, .string ⟨s.top.toArray⟩, .string ⟨s.first.toArray⟩, .string ⟨s.middle.toArray⟩, .string ⟨s.vert.toArray⟩, .string ⟨s.bottom.toArray⟩, .string ⟨s.newline.toArray⟩, .string ⟨s.pre.toArray⟩, .string ⟨s.name.toArray⟩]
/-- the default style -/
def dfl : Sty := ⟨0, [42], [42], [42], [42], [32, 32], [42], [10], [], [83, 116, 121, 108, 101, 68, 101, 102, 97, 117, 108, 116]⟩

theorem StyleDefault_calls (w : World) : Calls Tryz.prog 71 #[] w fun e w' => e = .returned (.agg #[.int .i64 0, .string ⟨#[42]⟩, .string ⟨#[42]⟩, .string ⟨#[42]⟩, .string ⟨#[42]⟩, .string ⟨#[32, 32]⟩, .string ⟨#[42]⟩, .string ⟨#[10]⟩, .string ⟨#[]⟩, .string ⟨#[83, 116, 121, 108, 101, 68, 101, 102, 97, 117, 108, 116]⟩]) ∧ w' = w.alloc (.cells #[.int .i64 0, .string ⟨#[42]⟩, .string ⟨#[42]⟩, .string ⟨#[42]⟩, .string ⟨#[42]⟩, .string ⟨#[32, 32]⟩, .string ⟨#[42]⟩, .string ⟨#[10]⟩, .string ⟨#[]⟩, .string ⟨#[83, 116, 121, 108, 101, 68, 101, 102, 97, 117, 108, 116]⟩] 56) := by
  go_enter Tryz.func71, Tryz.ntmps71
  go_wp2_with fail
  go_returns
  exact ⟨rfl, rfl⟩

theorem Style_nil (base b : Nat) (items : List It) (lev : Nat) (cls : List UInt8) (ap : Int) (sp : ByteArray) (iv : Value) (ps : List Value) (w : World) (hbw : base ≤ w.heap.size) (H : LAt w base b items lev cls (.pointer none) ap sp iv ps) :
    Calls Tryz.prog 53 #[.pointer (some ⟨b, 0, none⟩)] w fun e w' => ∃ sb, e = .returned (.pointer (some ⟨sb, 0, none⟩)) ∧ Below base w w' ∧ Kept w w' ∧ base ≤ sb ∧ w'.heap[sb]? = some (.cells (styCells dfl) 56 (0, 0)) ∧ LAt w' base b items lev cls (.pointer (some ⟨sb, 0, none⟩)) ap sp iv ps := by
  obtain ⟨WA, eA⟩ : ∃ WA, WA = w.alloc (.cells #[.int .i64 0, .string ⟨#[42]⟩, .string ⟨#[42]⟩, .string ⟨#[42]⟩, .string ⟨#[42]⟩, .string ⟨#[32, 32]⟩, .string ⟨#[42]⟩, .string ⟨#[10]⟩, .string ⟨#[]⟩, .string ⟨#[83, 116, 121, 108, 101, 68, 101, 102, 97, 117, 108, 116]⟩] 56) := ⟨_, rfl⟩
  have hA : Below w.heap.size w WA := by rw [eA]; exact (Below.refl _ w).alloc (Nat.le_refl _) _
  obtain ⟨WB, eB⟩ : ∃ WB, WB = WA.alloc (.cells #[.int .i64 0, .string ⟨#[42]⟩, .string ⟨#[42]⟩, .string ⟨#[42]⟩, .string ⟨#[42]⟩, .string ⟨#[32, 32]⟩, .string ⟨#[42]⟩, .string ⟨#[10]⟩, .string ⟨#[]⟩, .string ⟨#[83, 116, 121, 108, 101, 68, 101, 102, 97, 117, 108, 116]⟩] 56) := ⟨_, rfl⟩
  have zA : WA.heap.size = w.heap.size + 1 := by rw [eA]; simp
  have hB : Below w.heap.size w WB := by rw [eB]; exact hA.alloc hA.size _
  have HB := H.below hB
  have nB : WB.heap[w.heap.size + 1]? = some (.cells (styCells dfl) 56 (0, 0)) := by rw [eB, ← zA]; exact alloc_heap_new WA _
  have HP := HB.put (ap' := ap) (sp' := sp) (cls' := cls) (lev' := lev) (st' := .pointer (some ⟨w.heap.size + 1, 0, none⟩)) 5 (.pointer (some ⟨w.heap.size + 1, 0, none⟩)) rfl
  have hne : w.heap.size + 1 ≠ b := by have := heap_lt H.row; omega
  have HF : Hid (∀ W, W = WB.setCell ⟨b, 5, none⟩ (.pointer (some ⟨w.heap.size + 1, 0, none⟩)) → Below base w W ∧ Kept w W ∧ base ≤ w.heap.size + 1 ∧ W.heap[w.heap.size + 1]? = some (.cells (styCells dfl) 56 (0, 0)) ∧ LAt W base b items lev cls (.pointer (some ⟨w.heap.size + 1, 0, none⟩)) ap sp iv ps) := hid (by
    rintro W rfl
    exact ⟨(hB.mono hbw).trans HP.2.1, (Kept.of_below hB).trans HP.2.2, by omega, heap_set_ne nB hne _, HP.1⟩)
  have hc5 : w.cell? ⟨b, 5, none⟩ = some (.pointer none) := blk_cell H.row 5
  have hcB : WB.cell? ⟨b, 5, none⟩ = some (.pointer none) := blk_cell HB.row 5
  have hfB : WB.frozen? ⟨b, 5, none⟩ = false := blk_free HB.row 5
  have hcW : (WB.setCell ⟨b, 5, none⟩ (.pointer (some ⟨w.heap.size + 1, 0, none⟩))).cell? ⟨b, 5, none⟩ = some (.pointer (some ⟨w.heap.size + 1, 0, none⟩)) := blk_cell HP.1.row 5
  rw [eB, eA] at hcB hfB hcW HF
  clear HP HB H nB
  go_enter Tryz.func53, Tryz.ntmps53
  go_wp2_with (go_at_call 71; (with_reducible refine (StyleDefault_calls _).mono ?_); rintro e w' ⟨rfl, rfl⟩)
  go_ret
  exact ⟨_, rfl, HF.out _ rfl⟩
end Go.Proofs.YthjpchabeemfmaaGreatDoor
