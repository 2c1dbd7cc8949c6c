import Derived.Test.YthjpchabeemfmaaGreatDoorDf
import Derived.Handy
namespace Go.Proofs.YthjpchabeemfmaaGreatDoor
open Go.RowKit
set_option linter.unusedVariables false
set_option linter.unusedSimpArgs false
set_option maxHeartbeats 4000000
set_option maxRecDepth 100000
attribute [local go_sem] S_extract S_append run_cut_S run_head_S run_tail_S Nat.add_sub_cancel_left

theorem listStyle_calls (s : Sty) (hname : s.name = []) (w : World) : Calls Tryz.prog 28 #[.agg #[.int .i64 s.fmt, .string ⟨s.single.toArray⟩, .string ⟨s.top.toArray⟩, .string ⟨s.first.toArray⟩, .string ⟨s.middle.toArray⟩, .string ⟨s.vert.toArray⟩, .string ⟨s.bottom.toArray⟩, .string ⟨s.newline.toArray⟩, .string ⟨s.pre.toArray⟩]] w fun e w' => e = .returned (.agg #[.int .i64 s.fmt, .string ⟨s.single.toArray⟩, .string ⟨s.top.toArray⟩, .string ⟨s.first.toArray⟩, .string ⟨s.middle.toArray⟩, .string ⟨s.vert.toArray⟩, .string ⟨s.bottom.toArray⟩, .string ⟨s.newline.toArray⟩, .string ⟨s.pre.toArray⟩, .string ⟨#[]⟩]) ∧ Below w.heap.size w w' := by
  go_enter Tryz.func28, Tryz.ntmps28
  go_wp2_with fail
  go_returns
  exact ⟨rfl, ((Below.refl _ _).alloc (Nat.le_refl _) _).alloc (by simp) _⟩
theorem SetStyle_calls (base b : Nat) (items : List It) (lev : Nat) (cls : List UInt8) (st : Value) (s : Sty) (hname : s.name = []) (ap : Int) (sp : ByteArray) (iv : Value) (ps : List Value) (w : World) (hbw : base ≤ w.heap.size) (H : LAt w base b items lev cls st ap sp iv ps) :
    Calls Tryz.prog 27 #[.pointer (some ⟨b, 0, none⟩), .agg #[.int .i64 s.fmt, .string ⟨s.single.toArray⟩, .string ⟨s.top.toArray⟩, .string ⟨s.first.toArray⟩, .string ⟨s.middle.toArray⟩, .string ⟨s.vert.toArray⟩, .string ⟨s.bottom.toArray⟩, .string ⟨s.newline.toArray⟩, .string ⟨s.pre.toArray⟩, .string ⟨#[]⟩]] w fun e w' => e = .returned (.tuple #[]) ∧ Below base w w' ∧ ∃ sb, base ≤ sb ∧ w'.heap[sb]? = some (.cells (styCells s) 56 (0, 0)) ∧ LAt w' base b items lev cls (.pointer (some ⟨sb, 0, none⟩)) ap sp iv ps := by
  have hcs : styCells s = #[.int .i64 s.fmt, .string ⟨s.single.toArray⟩, .string ⟨s.top.toArray⟩, .string ⟨s.first.toArray⟩, .string ⟨s.middle.toArray⟩, .string ⟨s.vert.toArray⟩, .string ⟨s.bottom.toArray⟩, .string ⟨s.newline.toArray⟩, .string ⟨s.pre.toArray⟩, .string ⟨#[]⟩] := by unfold styCells; rw [hname]
  rw [← hcs]
  have hA : Below w.heap.size w (w.alloc (.cells (styCells s) 56)) := (Below.refl _ w).alloc (Nat.le_refl _) _
  have HA := H.below hA
  have HP := HA.put (ap' := ap) (sp' := sp) (cls' := cls) (lev' := lev) (st' := .pointer (some ⟨w.heap.size, 0, none⟩)) 5 (.pointer (some ⟨w.heap.size, 0, none⟩)) rfl
  have hne : w.heap.size ≠ b := by have := heap_lt H.row; omega
  have HF := hid (⟨(hA.mono hbw).trans HP.2.1, w.heap.size, hbw, heap_set_ne (alloc_heap_new w _) hne _, HP.1⟩ : Below base w ((w.alloc (.cells (styCells s) 56)).setCell ⟨b, 5, none⟩ (.pointer (some ⟨w.heap.size, 0, none⟩))) ∧ ∃ sb, base ≤ sb ∧ ((w.alloc (.cells (styCells s) 56)).setCell ⟨b, 5, none⟩ (.pointer (some ⟨w.heap.size, 0, none⟩))).heap[sb]? = some (.cells (styCells s) 56 (0, 0)) ∧ LAt ((w.alloc (.cells (styCells s) 56)).setCell ⟨b, 5, none⟩ (.pointer (some ⟨w.heap.size, 0, none⟩))) base b items lev cls (.pointer (some ⟨sb, 0, none⟩)) ap sp iv ps)
  have hfB : (w.alloc (.cells (styCells s) 56)).frozen? ⟨b, 5, none⟩ = false := blk_free HA.row 5
  have hcB : (w.alloc (.cells (styCells s) 56)).cell? ⟨b, 5, none⟩ = some st := blk_cell HA.row 5
  rw [hcs] at HF hfB hcB
  rw [hcs]
  clear HA HP hA H hcs
  go_enter Tryz.func27, Tryz.ntmps27
  go_wp2_with fail
  go_end0
  exact ⟨rfl, HF.out⟩
theorem ListRender_long (l : List Stp) (v : Value) (s : Sty) (hs : ShortSt s) (hname : s.name = []) (hfmt : s.fmt = 0) (w : World) (hl : l.length ≤ 1000) (hok : ∀ p ∈ l, StSh p) (hb : (playK l l.length).1.length ≤ 2000 ∧ ∀ it ∈ (playK l l.length).1, it.1 ≤ 200 ∧ it.2.length ≤ 200) (h : RdSt w v l) :
    Calls Tryz.prog 12 #[v, .agg #[.int .i64 s.fmt, .string ⟨s.single.toArray⟩, .string ⟨s.top.toArray⟩, .string ⟨s.first.toArray⟩, .string ⟨s.middle.toArray⟩, .string ⟨s.vert.toArray⟩, .string ⟨s.bottom.toArray⟩, .string ⟨s.newline.toArray⟩, .string ⟨s.pre.toArray⟩]] w fun e w' => e = .returned (.string ⟨(renderF s (playK l l.length).1).toArray⟩) ∧ Below w.heap.size w w' := by
  obtain ⟨W1, hW1⟩ : ∃ W, W = w.alloc (.cells #[.int .i64 s.fmt, .string ⟨s.single.toArray⟩, .string ⟨s.top.toArray⟩, .string ⟨s.first.toArray⟩, .string ⟨s.middle.toArray⟩, .string ⟨s.vert.toArray⟩, .string ⟨s.bottom.toArray⟩, .string ⟨s.newline.toArray⟩, .string ⟨s.pre.toArray⟩] 24) := ⟨_, rfl⟩
  have hbW : Below w.heap.size w W1 := by rw [hW1]; exact (Below.refl _ w).alloc (Nat.le_refl _) _
  have hzW : W1.heap.size = w.heap.size + 1 := by rw [hW1]; simp
  have KL := hid (listOf_calls l v W1 (by omega) (fun p hp => (hok p hp).ok) (h.below hbW))
  obtain ⟨s1, s2⟩ := hb
  have HB := hid (show W1.heap[w.heap.size]? = some (.cells #[.int .i64 s.fmt, .string ⟨s.single.toArray⟩, .string ⟨s.top.toArray⟩, .string ⟨s.first.toArray⟩, .string ⟨s.middle.toArray⟩, .string ⟨s.vert.toArray⟩, .string ⟨s.bottom.toArray⟩, .string ⟨s.newline.toArray⟩, .string ⟨s.pre.toArray⟩] 24 (0, 0)) by rw [hW1]; exact alloc_heap_new w _)
  generalize hq : playK l l.length = q at *
  obtain ⟨items, lev⟩ := q
  simp only at *
  clear hq
  have hv := hs.vert
  have hp := hs.pre
  have hn := hs.newline
  have KR := hid (fun (st : Value) (iv : Value) (ps : List Value) (w1 : World) (b1 : W1.heap.size ≤ w1.heap.size) (hst : StOf w1 W1.heap.size st s) (H : LAt w1 W1.heap.size W1.heap.size items lev [] st 0 ⟨#[]⟩ iv ps) =>
    Render_calls W1.heap.size W1.heap.size items lev [] st s 0 ⟨#[]⟩ iv ps w1 b1 H hst (by omega) (by omega) (by omega) (by omega) (fun it hit => by have := s2 it hit; omega) hfmt
      (fun it hit => by have h1 := textF_len hs it.2; have := s2 it hit; omega) (by have := out_len hs items none s2; unfold renderF; omega))
  have KT := hid (fun (w' : World) => listStyle_calls s hname w')
  have KSt := hid (fun (iv : Value) (ps : List Value) (w1 : World) (b1 : W1.heap.size ≤ w1.heap.size) (H : LAt w1 W1.heap.size W1.heap.size items lev [] (.pointer none) 0 ⟨#[]⟩ iv ps) => SetStyle_calls W1.heap.size W1.heap.size items lev [] (.pointer none) s hname 0 ⟨#[]⟩ iv ps w1 b1 H)
  have HbW := hid hbW
  have HzW := hid hzW
  have HW1 := hid hW1
  rw [hW1] at KL
  clear s1 s2 hok h hv hp hn hbW hzW hW1 hs hfmt
  go_enter Tryz.func12, Tryz.ntmps12
  go_wp2_with (first
    | (go_at_call 26; (with_reducible refine KL.out.mono ?_); rintro e w1 ⟨rfl, hb1, iv, ps, H1⟩; rw [← HW1.out] at hb1 H1; have HH := heap_keep HB.out hb1; have z0 : w1.cell? ⟨w.heap.size, 0, none⟩ = some (.int .i64 s.fmt) := blk_cell HH 0; have z1 : w1.cell? ⟨w.heap.size, 1, none⟩ = some (.string ⟨s.single.toArray⟩) := blk_cell HH 1; have z2 : w1.cell? ⟨w.heap.size, 2, none⟩ = some (.string ⟨s.top.toArray⟩) := blk_cell HH 2; have z3 : w1.cell? ⟨w.heap.size, 3, none⟩ = some (.string ⟨s.first.toArray⟩) := blk_cell HH 3; have z4 : w1.cell? ⟨w.heap.size, 4, none⟩ = some (.string ⟨s.middle.toArray⟩) := blk_cell HH 4; have z5 : w1.cell? ⟨w.heap.size, 5, none⟩ = some (.string ⟨s.vert.toArray⟩) := blk_cell HH 5; have z6 : w1.cell? ⟨w.heap.size, 6, none⟩ = some (.string ⟨s.bottom.toArray⟩) := blk_cell HH 6; have z7 : w1.cell? ⟨w.heap.size, 7, none⟩ = some (.string ⟨s.newline.toArray⟩) := blk_cell HH 7; have z8 : w1.cell? ⟨w.heap.size, 8, none⟩ = some (.string ⟨s.pre.toArray⟩) := blk_cell HH 8; have HH1 := hid H1; have Hb1 := hid hb1; clear H1 hb1 HH)
    | (go_at_call 28; (with_reducible refine (KT.out _).mono ?_); rintro e w2 ⟨rfl, hb2⟩; have Hb2 := hid (Hb1.out.trans (hb2.mono Hb1.out.size)); have KS2 := hid (KSt.out iv ps w2 Hb2.out.size (HH1.out.below hb2)); clear hb2)
    | (go_at_call 27; rw [HzW.out] at KS2; (with_reducible refine KS2.out.mono ?_); rintro e w3 ⟨rfl, hb3, sb, hsb, hst, H3⟩; rw [← HzW.out] at hb3 hsb H3; have Hb3 := hid (Hb2.out.trans hb3); have KR3 := hid (KR.out _ iv ps w3 Hb3.out.size (.inr ⟨sb, rfl, hsb, hst⟩) H3); rw [HzW.out] at KR3; clear hb3 hst H3)
    | (go_at_call 29; (with_reducible refine KR3.out.mono ?_); rintro e w4 ⟨rfl, hb4⟩; rw [← HzW.out] at hb4))
  go_ret
  refine ⟨rfl, HbW.out.trans ((Hb3.out.trans hb4).mono (by have := HzW.out; omega))⟩
theorem ListRender_calls (l : List Stp) (v : Value) (s : Sty) (hs : ShortSt s) (hname : s.name = []) (hfmt : s.fmt = 0) (w : World) (hl : l.length ≤ 200) (hok : ∀ p ∈ l, StSh p) (h : RdSt w v l) :
    Calls Tryz.prog 12 #[v, .agg #[.int .i64 s.fmt, .string ⟨s.single.toArray⟩, .string ⟨s.top.toArray⟩, .string ⟨s.first.toArray⟩, .string ⟨s.middle.toArray⟩, .string ⟨s.vert.toArray⟩, .string ⟨s.bottom.toArray⟩, .string ⟨s.newline.toArray⟩, .string ⟨s.pre.toArray⟩]] w fun e w' => e = .returned (.string ⟨(renderF s (playK l l.length).1).toArray⟩) ∧ Below w.heap.size w w' := ListRender_long l v s hs hname hfmt w (by omega) hok (steps_short l hl hok) h
/-- the style that ltAlive asks -/
def aliveSt : Sty := ⟨0, [42], [], [], [], [], [], [10], [], []⟩
end Go.Proofs.YthjpchabeemfmaaGreatDoor
