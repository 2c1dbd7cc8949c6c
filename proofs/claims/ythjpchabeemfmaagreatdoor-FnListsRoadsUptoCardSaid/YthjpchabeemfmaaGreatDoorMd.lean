import Derived.Test.YthjpchabeemfmaaGreatDoorDg
import Derived.Test.YthjpchabeemfmaaGreatDoorUt
import Derived.Deep.RegionHeld3
import Derived.Defers
namespace Go.Proofs.YthjpchabeemfmaaGreatDoor
open Go.RowKit
set_option linter.unusedVariables false
set_option linter.unusedSimpArgs false
set_option maxHeartbeats 4000000
set_option maxRecDepth 100000
attribute [local go_sem] S_extract S_append run_cut_S run_head_S run_tail_S Nat.add_sub_cancel_left

/-- the style of Markdown -/
def mdS : Sty := ⟨0, [42], [42], [42], [42], [32, 32], [42], [60, 98, 114, 47, 62], [32, 32], [83, 116, 121, 108, 101, 77, 97, 114, 107, 100, 111, 119, 110]⟩
theorem md_short : ShortSt mdS := ⟨by decide, by decide, by decide, by decide, by decide, by decide, by decide, by decide⟩
theorem StyleMarkdown_calls (w : World) : Calls Tryz.prog 49 #[] w fun e w' => e = .returned (.agg (styCells mdS)) ∧ Below w.heap.size w w' := by
  have he : (.agg (styCells mdS) : Value) = .agg #[.int .i64 0, .string ⟨#[42]⟩, .string ⟨#[42]⟩, .string ⟨#[42]⟩, .string ⟨#[42]⟩, .string ⟨#[32, 32]⟩, .string ⟨#[42]⟩, .string ⟨#[60, 98, 114, 47, 62]⟩, .string ⟨#[32, 32]⟩, .string ⟨#[83, 116, 121, 108, 101, 77, 97, 114, 107, 100, 111, 119, 110]⟩] := rfl
  rw [he]
  clear he
  go_enter Tryz.func49, Tryz.ntmps49
  go_wp2_with fail
  go_returns
  exact ⟨rfl, (Below.refl _ _).alloc (Nat.le_refl _) _⟩
theorem SetStyle_eq (b : Nat) (s : Sty) (w : World) (H : ListRow w b) :
    Calls Tryz.prog 27 #[.pointer (some ⟨b, 0, none⟩), .agg (styCells s)] w fun e w' => e = .returned (.tuple #[]) ∧ w' = (w.alloc (.cells (styCells s) 56)).setCell ⟨b, 5, none⟩ (.pointer (some ⟨w.heap.size, 0, none⟩)) := by
  obtain ⟨ap, sp, cls, iv, lev, st, hrow⟩ := H
  have hcs : styCells s = #[.int .i64 s.fmt, .string ⟨s.single.toArray⟩, .string ⟨s.top.toArray⟩, .string ⟨s.first.toArray⟩, .string ⟨s.middle.toArray⟩, .string ⟨s.vert.toArray⟩, .string ⟨s.bottom.toArray⟩, .string ⟨s.newline.toArray⟩, .string ⟨s.pre.toArray⟩, .string ⟨s.name.toArray⟩] := rfl
  have hA : Below w.heap.size w (w.alloc (.cells (styCells s) 56)) := (Below.refl _ w).alloc (Nat.le_refl _) _
  have hrA := heap_keep hrow hA
  have hfB : (w.alloc (.cells (styCells s) 56)).frozen? ⟨b, 5, none⟩ = false := blk_free hrA 5
  have hcB : (w.alloc (.cells (styCells s) 56)).cell? ⟨b, 5, none⟩ = some st := blk_cell hrA 5
  rw [hcs] at hfB hcB ⊢
  clear hrA hA hcs hrow
  go_enter Tryz.func27, Tryz.ntmps27
  go_wp2_with fail
  go_end0
  exact ⟨rfl, rfl⟩
/-- what stays while a list's style is laid -/
structure SL (w w' : World) (base b : Nat) (s : Sty) : Prop where
  below : Below base w w'
  kept : ∀ (g : Nat) (o : Obj), w.heap[g]? = some o → g ≠ b → w'.heap[g]? = some o
  row : ListRow w' b
theorem SetStyle_row (base b : Nat) (s : Sty) (w : World) (hb : base ≤ b) (hbw : base ≤ w.heap.size) (H : ListRow w b) :
    Calls Tryz.prog 27 #[.pointer (some ⟨b, 0, none⟩), .agg (styCells s)] w fun e w' => e = .returned (.tuple #[]) ∧ SL w w' base b s := by
  refine (SetStyle_eq b s w H).mono ?_
  rintro e w' ⟨rfl, rfl⟩
  obtain ⟨ap, sp, cls, iv, lev, st, hrow⟩ := H
  have hA : Below w.heap.size w (w.alloc (.cells (styCells s) 56)) := (Below.refl _ w).alloc (Nat.le_refl _) _
  exact ⟨rfl, (hA.mono hbw).setCell hb _, fun g o h0 hne => heap_set_ne (heap_keep h0 hA) hne _, _, _, _, _, _, _, blk_set (heap_keep hrow hA) 5 _⟩
theorem SetStyle_list (base b : Nat) (items : List It) (lev : Nat) (cls : List UInt8) (st : Value) (s : Sty) (ap : Int) (sp : ByteArray) (iv : Value) (ps : List Value) (w : World) (hbw : base ≤ w.heap.size) (H : LAt w base b items lev cls st ap sp iv ps) :
    Calls Tryz.prog 27 #[.pointer (some ⟨b, 0, none⟩), .agg (styCells s)] w fun e w' => e = .returned (.tuple #[]) ∧ SL w w' base b s ∧ ∃ sb, base ≤ sb ∧ w'.heap[sb]? = some (.cells (styCells s) 56 (0, 0)) ∧ LAt w' base b items lev cls (.pointer (some ⟨sb, 0, none⟩)) ap sp iv ps := by
  have HR : ListRow w b := ⟨_, _, _, _, _, _, H.row⟩
  refine (SetStyle_eq b s w HR).mono ?_
  rintro e w' ⟨rfl, rfl⟩
  have hA : Below w.heap.size w (w.alloc (.cells (styCells s) 56)) := (Below.refl _ w).alloc (Nat.le_refl _) _
  have HA := H.below hA
  have HP := HA.put (ap' := ap) (sp' := sp) (cls' := cls) (lev' := lev) (st' := .pointer (some ⟨w.heap.size, 0, none⟩)) 5 (.pointer (some ⟨w.heap.size, 0, none⟩)) rfl
  have hne : w.heap.size ≠ b := by have := heap_lt H.row; omega
  exact ⟨rfl, ⟨(hA.mono hbw).trans HP.2.1, fun g o h0 hne => heap_set_ne (heap_keep h0 hA) hne _, _, _, _, _, _, _, HP.1.row⟩, w.heap.size, hbw, heap_set_ne (alloc_heap_new w _) hne _, HP.1⟩
/-- what stays while the old style is laid again -/
structure DQ (w w' : World) (base b cl co sb : Nat) (s : Sty) : Prop where
  below : Below base w w'
  size : base ≤ w'.heap.size
  row : ListRow w' b
  l : w'.heap[cl]? = some (.cells #[.pointer (some ⟨b, 0, none⟩)] 51 (0, 0))
  o : w'.heap[co]? = some (.cells #[.pointer (some ⟨sb, 0, none⟩)] 64 (0, 0))
  s : w'.heap[sb]? = some (.cells (styCells s) 56 (0, 0))
theorem ne_row {w : World} {b g : Nat} {cs : Array Value} {t : Nat} {fz : Nat × Nat} (H : ListRow w b) (h : w.heap[g]? = some (.cells cs t fz)) (hne : t ≠ 66) : g ≠ b := by
  obtain ⟨_, _, _, _, _, _, hr⟩ := H
  exact ty_ne h hr hne
theorem DQ.drew {w w' : World} {base b cl co sb : Nat} {s : Sty} (h : DQ w w' base b cl co sb s) : DQ w w'.drew base b cl co sb s :=
  ⟨h.below.trans ⟨rfl, rfl, rfl, Nat.le_refl _, fun _ _ => rfl⟩, h.size, h.row, h.l, h.o, h.s⟩
theorem DQ.lay {w w1 w' : World} {base b cl co sb : Nat} {s s2 : Sty} (h : DQ w w1 base b cl co sb s) (k : SL w1 w' base b s2) : DQ w w' base b cl co sb s :=
  ⟨h.below.trans k.below, Nat.le_trans h.size k.below.size, k.row, k.kept _ _ h.l (ne_row h.row h.l (by decide)), k.kept _ _ h.o (ne_row h.row h.o (by decide)), k.kept _ _ h.s (ne_row h.row h.s (by decide))⟩
theorem DQ.cells {w w' : World} {base b cl co sb : Nat} {s : Sty} (h : DQ w w' base b cl co sb s) : w'.cell? ⟨cl, 0, none⟩ = some (.pointer (some ⟨b, 0, none⟩)) ∧ w'.cell? ⟨co, 0, none⟩ = some (.pointer (some ⟨sb, 0, none⟩)) ∧ w'.cell? ⟨sb, 0, none⟩ = some (.int .i64 s.fmt) ∧ w'.cell? ⟨sb, 1, none⟩ = some (.string ⟨s.single.toArray⟩) ∧ w'.cell? ⟨sb, 2, none⟩ = some (.string ⟨s.top.toArray⟩) ∧ w'.cell? ⟨sb, 3, none⟩ = some (.string ⟨s.first.toArray⟩) ∧ w'.cell? ⟨sb, 4, none⟩ = some (.string ⟨s.middle.toArray⟩) ∧ w'.cell? ⟨sb, 5, none⟩ = some (.string ⟨s.vert.toArray⟩) ∧ w'.cell? ⟨sb, 6, none⟩ = some (.string ⟨s.bottom.toArray⟩) ∧ w'.cell? ⟨sb, 7, none⟩ = some (.string ⟨s.newline.toArray⟩) ∧ w'.cell? ⟨sb, 8, none⟩ = some (.string ⟨s.pre.toArray⟩) ∧ w'.cell? ⟨sb, 9, none⟩ = some (.string ⟨s.name.toArray⟩) :=
  ⟨blk_cell h.l 0, blk_cell h.o 0, blk_cell h.s 0, blk_cell h.s 1, blk_cell h.s 2, blk_cell h.s 3, blk_cell h.s 4, blk_cell h.s 5, blk_cell h.s 6, blk_cell h.s 7, blk_cell h.s 8, blk_cell h.s 9⟩
/-- the deferred function: the style that was there is laid again -/
theorem RenderMarkdown_deferred (base b cl co sb : Nat) (s : Sty) (u : FrameMode) (w0 w : World) (hb : base ≤ b) (H : DQ w0 w base b cl co sb s) :
    CallsD Tryz.prog 48 #[.pointer (some ⟨co, 0, none⟩), .pointer (some ⟨cl, 0, none⟩)] u w fun e u' w' => u' = u ∧ (e = .returned (.tuple #[]) ∧ Below base w0 w') := by
  obtain ⟨z0, z1, y0, y1, y2, y3, y4, y5, y6, y7, y8, y9⟩ := H.cells
  have cs : styCells s = #[.int .i64 s.fmt, .string ⟨s.single.toArray⟩, .string ⟨s.top.toArray⟩, .string ⟨s.first.toArray⟩, .string ⟨s.middle.toArray⟩, .string ⟨s.vert.toArray⟩, .string ⟨s.bottom.toArray⟩, .string ⟨s.newline.toArray⟩, .string ⟨s.pre.toArray⟩, .string ⟨s.name.toArray⟩] := rfl
  have KS := hid (fun (w' : World) (h : DQ w0 w' base b cl co sb s) => SetStyle_row base b s w' hb h.size h.row)
  have GR := hid (fun (w' : World) (h : DQ w0 w' base b cl co sb s) => (show (w'.cell? ⟨cl, 0, none⟩ = some (.pointer (some ⟨b, 0, none⟩)) ∧ w'.cell? ⟨co, 0, none⟩ = some (.pointer (some ⟨sb, 0, none⟩)) ∧ w'.cell? ⟨sb, 0, none⟩ = some (.int .i64 s.fmt) ∧ w'.cell? ⟨sb, 1, none⟩ = some (.string ⟨s.single.toArray⟩) ∧ w'.cell? ⟨sb, 2, none⟩ = some (.string ⟨s.top.toArray⟩) ∧ w'.cell? ⟨sb, 3, none⟩ = some (.string ⟨s.first.toArray⟩) ∧ w'.cell? ⟨sb, 4, none⟩ = some (.string ⟨s.middle.toArray⟩) ∧ w'.cell? ⟨sb, 5, none⟩ = some (.string ⟨s.vert.toArray⟩) ∧ w'.cell? ⟨sb, 6, none⟩ = some (.string ⟨s.bottom.toArray⟩) ∧ w'.cell? ⟨sb, 7, none⟩ = some (.string ⟨s.newline.toArray⟩) ∧ w'.cell? ⟨sb, 8, none⟩ = some (.string ⟨s.pre.toArray⟩) ∧ w'.cell? ⟨sb, 9, none⟩ = some (.string ⟨s.name.toArray⟩)) ∧ DQ w0 w' base b cl co sb s from ⟨h.cells, h⟩))
  have HD := hid H
  rw [cs] at KS
  clear cs H
  go_enter_d Tryz.func48, Tryz.ntmps48
  go_wp2_with fail
  go_region_held3 (fun w' => (w'.cell? ⟨cl, 0, none⟩ = some (.pointer (some ⟨b, 0, none⟩)) ∧ w'.cell? ⟨co, 0, none⟩ = some (.pointer (some ⟨sb, 0, none⟩)) ∧ w'.cell? ⟨sb, 0, none⟩ = some (.int .i64 s.fmt) ∧ w'.cell? ⟨sb, 1, none⟩ = some (.string ⟨s.single.toArray⟩) ∧ w'.cell? ⟨sb, 2, none⟩ = some (.string ⟨s.top.toArray⟩) ∧ w'.cell? ⟨sb, 3, none⟩ = some (.string ⟨s.first.toArray⟩) ∧ w'.cell? ⟨sb, 4, none⟩ = some (.string ⟨s.middle.toArray⟩) ∧ w'.cell? ⟨sb, 5, none⟩ = some (.string ⟨s.vert.toArray⟩) ∧ w'.cell? ⟨sb, 6, none⟩ = some (.string ⟨s.bottom.toArray⟩) ∧ w'.cell? ⟨sb, 7, none⟩ = some (.string ⟨s.newline.toArray⟩) ∧ w'.cell? ⟨sb, 8, none⟩ = some (.string ⟨s.pre.toArray⟩) ∧ w'.cell? ⟨sb, 9, none⟩ = some (.string ⟨s.name.toArray⟩)) ∧ DQ w0 w' base b cl co sb s) (first
    | exact GR.out _ HD.out.drew
    | exact GR.out _ (by assumption))
    ((go_at_call 27; (with_reducible refine (KS.out _ (And.right ‹_ ∧ DQ w0 _ base b cl co sb s›)).mono ?_); rintro e u1 ⟨rfl, hl⟩; have hd := (And.right ‹_ ∧ DQ w0 _ base b cl co sb s›).lay hl))
  all_goals go_wp2_with fail
  all_goals go_end0
  all_goals exact ⟨rfl, hd.below⟩
/-- what stays while the style of Markdown is laid -/
def MQ (w w' : World) (base b cl co sb : Nat) (s : Sty) (items : List It) (lev : Nat) (cls : List UInt8) (ap : Int) (sp : ByteArray) (iv : Value) (ps : List Value) : Prop := DQ w w' base b cl co sb s ∧ ∃ st, LAt w' base b items lev cls st ap sp iv ps
theorem DQ.call {w w1 w' : World} {base b cl co sb : Nat} {s : Sty} (h : DQ w w1 base b cl co sb s) (k : Below w1.heap.size w1 w') : DQ w w' base b cl co sb s := by
  obtain ⟨ap, sp, cls, iv, lev, st, hr⟩ := h.row
  exact ⟨h.below.trans (k.mono h.size), Nat.le_trans h.size k.size, ⟨ap, sp, cls, iv, lev, st, heap_keep hr k⟩, heap_keep h.l k, heap_keep h.o k, heap_keep h.s k⟩
theorem MQ.call {w w1 w' : World} {base b cl co sb : Nat} {s : Sty} {items : List It} {lev : Nat} {cls : List UInt8} {ap : Int} {sp : ByteArray} {iv : Value} {ps : List Value} (h : MQ w w1 base b cl co sb s items lev cls ap sp iv ps) (k : Below w1.heap.size w1 w') : MQ w w' base b cl co sb s items lev cls ap sp iv ps :=
  ⟨h.1.call k, h.2.imp fun _ H => H.below k⟩
theorem MQ.dq {w w1 : World} {base b cl co sb : Nat} {s : Sty} {items : List It} {lev : Nat} {cls : List UInt8} {ap : Int} {sp : ByteArray} {iv : Value} {ps : List Value} (h : MQ w w1 base b cl co sb s items lev cls ap sp iv ps) : DQ w w1 base b cl co sb s := h.1
theorem MQ.list {w w1 : World} {base b cl co sb : Nat} {s : Sty} {items : List It} {lev : Nat} {cls : List UInt8} {ap : Int} {sp : ByteArray} {iv : Value} {ps : List Value} (h : MQ w w1 base b cl co sb s items lev cls ap sp iv ps) : ∃ st, LAt w1 base b items lev cls st ap sp iv ps := h.2
theorem RenderMarkdown_calls (base b : Nat) (items : List It) (lev : Nat) (cls : List UInt8) (sb : Nat) (s : Sty) (ap : Int) (sp : ByteArray) (iv : Value) (ps : List Value) (w : World) (hbw : base ≤ w.heap.size) (H : LAt w base b items lev cls (.pointer (some ⟨sb, 0, none⟩)) ap sp iv ps) (hst : w.heap[sb]? = some (.cells (styCells s) 56 (0, 0)))
    (hn : items.length ≤ 5000) (hi : ∀ it ∈ items, it.1 ≤ 1000 ∧ it.2.length ≤ 1000) (htl : ∀ it ∈ items, (textF mdS it.2).length ≤ 1000000000) (hlen : (renderF mdS items).length ≤ 100000000000) :
    Calls Tryz.prog 30 #[.pointer (some ⟨b, 0, none⟩)] w fun e w' => e = .returned (.string ⟨(renderF mdS items).toArray⟩) ∧ Below base w w' := by
  obtain ⟨W2, hW2⟩ : ∃ W, W = (w.alloc (.cells #[.pointer (some ⟨b, 0, none⟩)] 51)).alloc (.cells #[.pointer (some ⟨sb, 0, none⟩)] 64) := ⟨_, rfl⟩
  have hb1 : Below w.heap.size w (w.alloc (.cells #[.pointer (some ⟨b, 0, none⟩)] 51)) := (Below.refl _ w).alloc (Nat.le_refl _) _
  have hb2 : Below (w.heap.size + 1) (w.alloc (.cells #[.pointer (some ⟨b, 0, none⟩)] 51)) W2 := by rw [hW2]; exact (Below.refl _ _).alloc (by simp) _
  have hb2' : Below (w.alloc (.cells #[.pointer (some ⟨b, 0, none⟩)] 51)).heap.size (w.alloc (.cells #[.pointer (some ⟨b, 0, none⟩)] 51)) W2 := by simpa using hb2
  have hbW : Below w.heap.size w W2 := hb1.trans (hb2.mono (by omega))
  have HQ : MQ w W2 base b w.heap.size (w.heap.size + 1) sb s items lev cls ap sp iv ps := by
    have HL := H.below hbW
    refine ⟨⟨hbW.mono hbw, Nat.le_trans hbw hbW.size, ⟨_, _, _, _, _, _, HL.row⟩, heap_keep (alloc_heap_new w _) hb2', ?_, heap_keep hst hbW⟩, _, HL⟩
    have := alloc_heap_new (w.alloc (.cells #[.pointer (some ⟨b, 0, none⟩)] 51)) (.cells #[.pointer (some ⟨sb, 0, none⟩)] 64)
    rw [hW2]
    simpa using this
  have hc5 : (w.alloc (.cells #[.pointer (some ⟨b, 0, none⟩)] 51)).cell? ⟨b, 5, none⟩ = some (.pointer (some ⟨sb, 0, none⟩)) := blk_cell (heap_keep H.row hb1) 5
  have hmf : ∀ (fn : Fn) (first cap : Array Value) (w : World), (Instr.makeFunc fn first cap).run Tryz.prog w = .ok (.func fn first cap) w := fun _ _ _ _ => rfl
  have hle := hid H.le
  have KR := hid (fun (sb' : Nat) (w1 : World) (b1 : base ≤ w1.heap.size) (h1 : base ≤ sb') (h2 : w1.heap[sb']? = some (.cells (styCells mdS) 56 (0, 0))) (HL : LAt w1 base b items lev cls (.pointer (some ⟨sb', 0, none⟩)) ap sp iv ps) =>
    Render_more base b items lev cls _ mdS ap sp iv ps w1 b1 HL (.inr ⟨sb', rfl, h1, h2⟩) (by decide) (by decide) (by decide) hn hi rfl htl hlen)
  have GR := hid (fun (w' : World) (h : MQ w w' base b w.heap.size (w.heap.size + 1) sb s items lev cls ap sp iv ps) => (show w'.cell? ⟨w.heap.size, 0, none⟩ = some (.pointer (some ⟨b, 0, none⟩)) ∧ MQ w w' base b w.heap.size (w.heap.size + 1) sb s items lev cls ap sp iv ps from ⟨h.1.cells.1, h⟩))
  have HQ := hid HQ
  have HW2 := hid hW2
  clear hb1 hb2 hb2' hbW hst H hn hi htl hlen hW2
  go_enter_defers Tryz.func30, Tryz.ntmps30
  go_wp2_with fail
  rw [← HW2.out]
  go_region_held3 (fun w' => w'.cell? ⟨w.heap.size, 0, none⟩ = some (.pointer (some ⟨b, 0, none⟩)) ∧ MQ w w' base b w.heap.size (w.heap.size + 1) sb s items lev cls ap sp iv ps) (first
    | exact GR.out _ ⟨HQ.out.1.drew, HQ.out.2.imp fun _ H => H.below (below_drewQ _)⟩
    | exact GR.out _ (by assumption))
    (first
    | (go_at_call 49; (with_reducible refine (StyleMarkdown_calls _).mono ?_); rintro e u1 ⟨rfl, hv1⟩; have hq1 := (And.right ‹_ ∧ MQ w _ base b w.heap.size (w.heap.size + 1) sb s items lev cls ap sp iv ps›).call hv1)
    | (go_at_call 27; obtain ⟨stq, HLq⟩ := (And.right ‹_ ∧ MQ w _ base b w.heap.size (w.heap.size + 1) sb s items lev cls ap sp iv ps›).list; (with_reducible refine (SetStyle_list base b items lev cls stq mdS ap sp iv ps _ (And.right ‹_ ∧ MQ w _ base b w.heap.size (w.heap.size + 1) sb s items lev cls ap sp iv ps›).dq.size HLq).mono ?_); rintro e u2 ⟨rfl, hsl, sbn, hsbn, hcn, HLn⟩; have hdn := (And.right ‹_ ∧ MQ w _ base b w.heap.size (w.heap.size + 1) sb s items lev cls ap sp iv ps›).dq.lay hsl; have hqn : MQ w u2 base b w.heap.size (w.heap.size + 1) sb s items lev cls ap sp iv ps := ⟨hdn, _, HLn⟩))
  all_goals
    have KR2 := hid (KR.out sbn u2 hdn.size hsbn hcn HLn)
    have HDN := hid hdn
    clear HLn hcn hsl hq1 hqn hdn
  all_goals go_wp2_with (first
    | (go_at_call 29; (with_reducible refine KR2.out.mono ?_); rintro e u3 ⟨rfl, hb3, hk3, hr3⟩; have HD3 : Hid (DQ w u3 base b w.heap.size (w.heap.size + 1) sb s) := hid ⟨HDN.out.below.trans hb3, Nat.le_trans HDN.out.size hb3.size, hr3, hk3 _ _ _ _ HDN.out.l (by decide) (by decide) (by decide) (by decide), hk3 _ _ _ _ HDN.out.o (by decide) (by decide) (by decide) (by decide), hk3 _ _ _ _ HDN.out.s (by decide) (by decide) (by decide) (by decide)⟩))
  all_goals
    refine leaves_cons (f := 48) (args := #[.pointer (some ⟨w.heap.size + 1, 0, none⟩), .pointer (some ⟨w.heap.size, 0, none⟩)]) (by simp) (by simp [go_sem]) ?_
    refine (RenderMarkdown_deferred base b _ _ sb s .returning w _ hle.out HD3.out).mono ?_
    rintro e u' w'' ⟨rfl, rfl, hbe⟩
    exact ⟨_, results_tmp rfl _ _ _, rfl, hbe⟩
theorem ListMarkdown_long (l : List Stp) (v : Value) (s : Sty) (hname : s.name = []) (w : World) (hl : l.length ≤ 1000) (hok : ∀ p ∈ l, StSh p) (hb : (playK l l.length).1.length ≤ 2000 ∧ ∀ it ∈ (playK l l.length).1, it.1 ≤ 200 ∧ it.2.length ≤ 200) (h : RdSt w v l) :
    Calls Tryz.prog 14 #[v, .agg #[.int .i64 s.fmt, .string ⟨s.single.toArray⟩, .string ⟨s.top.toArray⟩, .string ⟨s.first.toArray⟩, .string ⟨s.middle.toArray⟩, .string ⟨s.vert.toArray⟩, .string ⟨s.bottom.toArray⟩, .string ⟨s.newline.toArray⟩, .string ⟨s.pre.toArray⟩]] w fun e w' => e = .returned (.string ⟨(renderF mdS (playK l l.length).1).toArray⟩) ∧ Below w.heap.size w w' := by
  obtain ⟨W1, hW1⟩ : ∃ W, W = w.alloc (.cells #[.int .i64 s.fmt, .string ⟨s.single.toArray⟩, .string ⟨s.top.toArray⟩, .string ⟨s.first.toArray⟩, .string ⟨s.middle.toArray⟩, .string ⟨s.vert.toArray⟩, .string ⟨s.bottom.toArray⟩, .string ⟨s.newline.toArray⟩, .string ⟨s.pre.toArray⟩] 24) := ⟨_, rfl⟩
  have hbW : Below w.heap.size w W1 := by rw [hW1]; exact (Below.refl _ w).alloc (Nat.le_refl _) _
  have hzW : W1.heap.size = w.heap.size + 1 := by rw [hW1]; simp
  have KL := hid (listOf_calls l v W1 (by omega) (fun p hp => (hok p hp).ok) (h.below hbW))
  obtain ⟨s1, s2⟩ := hb
  have HB := hid (show W1.heap[w.heap.size]? = some (.cells #[.int .i64 s.fmt, .string ⟨s.single.toArray⟩, .string ⟨s.top.toArray⟩, .string ⟨s.first.toArray⟩, .string ⟨s.middle.toArray⟩, .string ⟨s.vert.toArray⟩, .string ⟨s.bottom.toArray⟩, .string ⟨s.newline.toArray⟩, .string ⟨s.pre.toArray⟩] 24 (0, 0)) by rw [hW1]; exact alloc_heap_new w _)
  generalize hq : playK l l.length = q at *
  obtain ⟨items, lev⟩ := q
  simp only at *
  clear hq
  have KR := hid (fun (sb : Nat) (iv : Value) (ps : List Value) (w1 : World) (b1 : W1.heap.size ≤ w1.heap.size) (hst : w1.heap[sb]? = some (.cells (styCells s) 56 (0, 0))) (H : LAt w1 W1.heap.size W1.heap.size items lev [] (.pointer (some ⟨sb, 0, none⟩)) 0 ⟨#[]⟩ iv ps) =>
    RenderMarkdown_calls W1.heap.size W1.heap.size items lev [] sb s 0 ⟨#[]⟩ iv ps w1 b1 H hst (by omega) (fun it hit => by have := s2 it hit; omega)
      (fun it hit => by have h1 := textF_len md_short it.2; have := s2 it hit; omega) (by have := out_len md_short items none s2; unfold renderF; omega))
  have KT := hid (fun (w' : World) => listStyle_calls s hname w')
  have KSt := hid (fun (iv : Value) (ps : List Value) (w1 : World) (b1 : W1.heap.size ≤ w1.heap.size) (H : LAt w1 W1.heap.size W1.heap.size items lev [] (.pointer none) 0 ⟨#[]⟩ iv ps) => SetStyle_calls W1.heap.size W1.heap.size items lev [] (.pointer none) s hname 0 ⟨#[]⟩ iv ps w1 b1 H)
  have HbW := hid hbW
  have HzW := hid hzW
  have HW1 := hid hW1
  rw [hW1] at KL
  clear s1 s2 hok h hbW hzW hW1
  go_enter Tryz.func14, Tryz.ntmps14
  go_wp2_with (first
    | (go_at_call 26; (with_reducible refine KL.out.mono ?_); rintro e w1 ⟨rfl, hb1, iv, ps, H1⟩; rw [← HW1.out] at hb1 H1; have HH := heap_keep HB.out hb1; have z0 : w1.cell? ⟨w.heap.size, 0, none⟩ = some (.int .i64 s.fmt) := blk_cell HH 0; have z1 : w1.cell? ⟨w.heap.size, 1, none⟩ = some (.string ⟨s.single.toArray⟩) := blk_cell HH 1; have z2 : w1.cell? ⟨w.heap.size, 2, none⟩ = some (.string ⟨s.top.toArray⟩) := blk_cell HH 2; have z3 : w1.cell? ⟨w.heap.size, 3, none⟩ = some (.string ⟨s.first.toArray⟩) := blk_cell HH 3; have z4 : w1.cell? ⟨w.heap.size, 4, none⟩ = some (.string ⟨s.middle.toArray⟩) := blk_cell HH 4; have z5 : w1.cell? ⟨w.heap.size, 5, none⟩ = some (.string ⟨s.vert.toArray⟩) := blk_cell HH 5; have z6 : w1.cell? ⟨w.heap.size, 6, none⟩ = some (.string ⟨s.bottom.toArray⟩) := blk_cell HH 6; have z7 : w1.cell? ⟨w.heap.size, 7, none⟩ = some (.string ⟨s.newline.toArray⟩) := blk_cell HH 7; have z8 : w1.cell? ⟨w.heap.size, 8, none⟩ = some (.string ⟨s.pre.toArray⟩) := blk_cell HH 8; have HH1 := hid H1; have Hb1 := hid hb1; clear H1 hb1 HH)
    | (go_at_call 28; (with_reducible refine (KT.out _).mono ?_); rintro e w2 ⟨rfl, hb2⟩; have Hb2 := hid (Hb1.out.trans (hb2.mono Hb1.out.size)); have KS2 := hid (KSt.out iv ps w2 Hb2.out.size (HH1.out.below hb2)); clear hb2)
    | (go_at_call 27; rw [HzW.out] at KS2; (with_reducible refine KS2.out.mono ?_); rintro e w3 ⟨rfl, hb3, sb, hsb, hst, H3⟩; rw [← HzW.out] at hb3 hsb H3; have Hb3 := hid (Hb2.out.trans hb3); have KR3 := hid (KR.out sb iv ps w3 Hb3.out.size hst H3); rw [HzW.out] at KR3; clear hb3 hst H3)
    | (go_at_call 30; (with_reducible refine KR3.out.mono ?_); rintro e w4 ⟨rfl, hb4⟩; rw [← HzW.out] at hb4))
  go_ret
  refine ⟨rfl, HbW.out.trans ((Hb3.out.trans hb4).mono (by have := HzW.out; omega))⟩
theorem ListMarkdown_calls (l : List Stp) (v : Value) (s : Sty) (hname : s.name = []) (w : World) (hl : l.length ≤ 200) (hok : ∀ p ∈ l, StSh p) (h : RdSt w v l) :
    Calls Tryz.prog 14 #[v, .agg #[.int .i64 s.fmt, .string ⟨s.single.toArray⟩, .string ⟨s.top.toArray⟩, .string ⟨s.first.toArray⟩, .string ⟨s.middle.toArray⟩, .string ⟨s.vert.toArray⟩, .string ⟨s.bottom.toArray⟩, .string ⟨s.newline.toArray⟩, .string ⟨s.pre.toArray⟩]] w fun e w' => e = .returned (.string ⟨(renderF mdS (playK l l.length).1).toArray⟩) ∧ Below w.heap.size w w' := ListMarkdown_long l v s hname w (by omega) hok (steps_short l hl hok) h
end Go.Proofs.YthjpchabeemfmaaGreatDoor
