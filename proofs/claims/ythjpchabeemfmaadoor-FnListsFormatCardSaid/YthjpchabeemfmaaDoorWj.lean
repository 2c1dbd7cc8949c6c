import Derived.Test.YthjpchabeemfmaaDoorWg
import Derived.Test.YthjpchabeemfmaaDoorWi
import Derived.Test.YthjpchabeemfmaaDoorMd
import Derived.Test.YthjpchabeemfmaaDoorSa
import Derived.Test.YthjpchabeemfmaaDoorUt
import Derived.Deep.RegionHeld3
namespace Go.Proofs.YthjpchabeemfmaaDoor
open Go.RowKit
set_option linter.unusedVariables false
set_option linter.unusedSimpArgs false
set_option maxHeartbeats 8000000
set_option maxRecDepth 100000
attribute [local go_sem] S_extract S_append run_cut_S run_head_S run_tail_S Nat.add_sub_cancel_left

/-- a style's format plays no part in what stands around the texts -/
theorem lines_fmt (s : Sty) (x : Int) (sp : List UInt8) (h : Hint) (ah : List UInt8) : ∀ (ls : List (List UInt8)) (k : Nat), linesF { s with fmt := x } sp h ah k ls = linesF s sp h ah k ls
  | [], k => rfl
  | l :: r, k => by rw [linesF, linesF, lines_fmt s x sp h ah r]; rfl
theorem out_fmt (fx : List UInt8 → List UInt8) (s : Sty) (x : Int) (sp : List UInt8) : ∀ (l : List It) (prev : Option Nat), outG fx { s with fmt := x } sp prev l = outG fx s sp prev l
  | [], prev => rfl
  | y :: t, prev => by
    rw [outG, outG, out_fmt fx s x sp t]
    congr 1
    unfold itemG
    rw [lines_fmt]
    rfl
theorem render_fmt (fx : List UInt8 → List UInt8) (s : Sty) (x : Int) (l : List It) : renderG fx { s with fmt := x } l = renderG fx s l := out_fmt fx s x _ l none
theorem fmtG_zero (t : List UInt8) : fmtG 0 t = t := rfl
theorem mapIt_id (l : List It) : mapIt (fmtG 0) l = l := by
  unfold mapIt
  have : (fun it : It => (it.1, fmtG 0 it.2)) = id := funext fun it => rfl
  rw [this, List.map_id]
theorem format_law (s : Sty) (x : Int) (l : List It) : renderG (fmtG x) { s with fmt := x } l = renderG (fmtG 0) s (mapIt (fmtG x) l) := by
  rw [render_fmt, ← render_map (fmtG 0), mapIt_id, render_map]
/-- texts as they come in -/
def TxIn (t : List UInt8) : Prop := t.length ≤ 200 ∧ Cl t
theorem fmtG_in {t : List UInt8} (h : TxIn t) (x : Int) : (fmtG x t).length ≤ 800 ∧ Cl (fmtG x t) := by
  obtain ⟨h1, h2⟩ := fmtG_calm x t h.2
  exact ⟨by have := h.1; omega, h1⟩
theorem items_in (l : List Stp) (hl : l.length ≤ 80) (hok : ∀ p ∈ l, StSh p) : (playK l l.length).1.length ≤ 800 ∧ ∀ it ∈ (playK l l.length).1, it.1 ≤ 80 ∧ TxIn it.2 := by
  obtain ⟨h1, h2, h3⟩ := playK_inv l TxIn (fun p hp => ⟨(hok p hp).2.2.1, ⟨(hok p hp).1, (hok p hp).2.1⟩, fun t ht => ⟨((hok p hp).2.2.2 t ht).1, ((hok p hp).2.2.2 t ht).2⟩⟩) l.length (Nat.le_refl _)
  exact ⟨by omega, fun it hi => by have := h3 it hi; exact ⟨by omega, this.2⟩⟩
theorem keys_ok {x : Int} {l l' : List Stp} (h : l'.map keyP = l.map (keyM (fmtG x))) (hok : ∀ p ∈ l, StSh p) : ∀ p ∈ l', StOk p := by
  intro q hq
  have h1 : keyP q ∈ l.map (keyM (fmtG x)) := by rw [← h]; exact List.mem_map_of_mem hq
  obtain ⟨p, hp, e⟩ := List.mem_map.1 h1
  obtain ⟨a1, a2, a3, a4⟩ := hok p hp
  unfold keyP keyM at e
  injection e with _ e2
  injection e2 with e2 e3
  refine ⟨?_, ?_, ?_, ?_⟩
  · rw [← e2]; have := (fmtG_in ⟨a1, a2⟩ x).1; omega
  · rw [← e2]; exact (fmtG_in ⟨a1, a2⟩ x).2
  · rw [← e3, List.length_map]; exact a3
  · intro t ht
    rw [← e3] at ht
    obtain ⟨u, hu, rfl⟩ := List.mem_map.1 ht
    have := fmtG_in ⟨(a4 u hu).1, (a4 u hu).2⟩ x
    exact ⟨by omega, this.2⟩

theorem format_tells (x : Int) (l l' : List Stp) (v0 v5 : Value) (s : Sty) (W : World) (hs : ShortSt s) (hname : s.name = []) (hfmt : s.fmt = 0) (hnl : s.newline = [10]) (n0 : l.length ≤ 80) (s0 : ∀ p ∈ l, StSh p) (r0 : RdSt W v0 l) (r5 : RdSt W v5 l') (hk : l'.map keyP = l.map (keyM (fmtG x))) (hT : CTab W) :
    ∃ (p h : List UInt8), TellsIn W 11 #[v0, .agg #[.int .i64 x, .string ⟨s.single.toArray⟩, .string ⟨s.top.toArray⟩, .string ⟨s.first.toArray⟩, .string ⟨s.middle.toArray⟩, .string ⟨s.vert.toArray⟩, .string ⟨s.bottom.toArray⟩, .string ⟨s.newline.toArray⟩, .string ⟨s.pre.toArray⟩]] (.string ⟨p.toArray⟩) ∧ TellsIn W 11 #[v5, .agg #[.int .i64 s.fmt, .string ⟨s.single.toArray⟩, .string ⟨s.top.toArray⟩, .string ⟨s.first.toArray⟩, .string ⟨s.middle.toArray⟩, .string ⟨s.vert.toArray⟩, .string ⟨s.bottom.toArray⟩, .string ⟨s.newline.toArray⟩, .string ⟨s.pre.toArray⟩]] (.string ⟨p.toArray⟩) ∧ TellsIn W 12 #[v0, .agg #[.int .i64 x, .string ⟨s.single.toArray⟩, .string ⟨s.top.toArray⟩, .string ⟨s.first.toArray⟩, .string ⟨s.middle.toArray⟩, .string ⟨s.vert.toArray⟩, .string ⟨s.bottom.toArray⟩, .string ⟨s.newline.toArray⟩, .string ⟨s.pre.toArray⟩]] (.string ⟨h.toArray⟩) ∧ TellsIn W 12 #[v0, .agg #[.int .i64 s.fmt, .string ⟨s.single.toArray⟩, .string ⟨s.top.toArray⟩, .string ⟨s.first.toArray⟩, .string ⟨s.middle.toArray⟩, .string ⟨s.vert.toArray⟩, .string ⟨s.bottom.toArray⟩, .string ⟨s.newline.toArray⟩, .string ⟨s.pre.toArray⟩]] (.string ⟨h.toArray⟩) := by
  obtain ⟨hs1, hs2, hs3, hs4, hs5, hs6, hs7, hs8⟩ := id hs
  have hsx : ShortSt { s with fmt := x } := ⟨hs1, hs2, hs3, hs4, hs5, hs6, hs7, hs8⟩
  obtain ⟨b1, b2⟩ := items_in l n0 s0
  have e := playK_map (fmtG x) l l' hk
  have hl' : l'.length = l.length := by have := congrArg List.length hk; simpa using this
  have b1' : (playK l' l'.length).1.length ≤ 800 := by rw [e]; show (mapIt _ _).length ≤ _; unfold mapIt; rw [List.length_map]; exact b1
  have b2' : ∀ it ∈ (playK l' l'.length).1, it.1 ≤ 80 ∧ it.2.length ≤ 800 := by
    intro it hit
    rw [e] at hit
    obtain ⟨y, hy, rfl⟩ := List.mem_map.1 hit
    exact ⟨(b2 y hy).1, (fmtG_in (b2 y hy).2 x).1⟩
  have ap : ∀ (k : Int) (W' : World), Below W.heap.size W W' → ∀ t : List UInt8, t.length ≤ 1000 → ApOk W'.heap.size W' k t (fmtG k t) := fun k W' hb t ht W2 hb2 => applyG_calls k t (by omega) W2 (hT.below (hb.trans (hb2.mono hb.size)))
  refine ⟨renderG (fmtG x) { s with fmt := x } (playK l l.length).1, renderF mdS (playK l l.length).1, fun w' hb => ?_, fun w' hb => ?_, fun w' hb => ?_, fun w' hb => ListMarkdown_calls l v0 s hname w' (by omega) s0 (r0.below hb)⟩
  · exact ListRenderG (fmtG x) l v0 { s with fmt := x } hsx hname hnl w' (by omega) (fun p hp => (s0 p hp).ok) ⟨by omega, fun it hit => by have h1 := b2 it hit; have h2 := (fmtG_in h1.2 x).1; have h3 := h1.2.1; omega⟩ (fun it hit => ap x w' hb it.2 (by have := (b2 it hit).2.1; omega)) (r0.below hb)
  · have K := ListRenderG (fmtG 0) l' v5 s hs hname hnl w' (by omega) (keys_ok hk s0) ⟨by omega, fun it hit => by have h1 := b2' it hit; rw [fmtG_zero]; omega⟩ (fun it hit => by rw [hfmt]; exact ap 0 w' hb it.2 (by have := (b2' it hit).2; omega)) (r5.below hb)
    rw [e] at K
    rw [format_law]
    exact K
  · exact ListMarkdown_calls l v0 { s with fmt := x } hname w' (by omega) s0 (r0.below hb)

section
variable (v0 : Value) (s : Sty) (f : Int) (w : World)
abbrev FormatSaid : Prop := Calls Tryd.prog 3 #[v0, .agg #[.int .i64 s.fmt, .string ⟨s.single.toArray⟩, .string ⟨s.top.toArray⟩, .string ⟨s.first.toArray⟩, .string ⟨s.middle.toArray⟩, .string ⟨s.vert.toArray⟩, .string ⟨s.bottom.toArray⟩, .string ⟨s.newline.toArray⟩, .string ⟨s.pre.toArray⟩], .int .u8 f] w fun e w' => e = .returned (.bool true) ∧ Below w.heap.size w w'
theorem format_e1 (K1 : Tells w 4 v0 false) : FormatSaid v0 s f w := by
  have K1 := hid K1
  have BA := hid ((Below.refl _ w).alloc (Nat.le_refl _) (.cells #[.int .i64 s.fmt, .string ⟨s.single.toArray⟩, .string ⟨s.top.toArray⟩, .string ⟨s.first.toArray⟩, .string ⟨s.middle.toArray⟩, .string ⟨s.vert.toArray⟩, .string ⟨s.bottom.toArray⟩, .string ⟨s.newline.toArray⟩, .string ⟨s.pre.toArray⟩] 24))
  have HZ := hid (fun (W' : World) (h : Below (w.heap.size + 1) (w.alloc (.cells #[.int .i64 s.fmt, .string ⟨s.single.toArray⟩, .string ⟨s.top.toArray⟩, .string ⟨s.first.toArray⟩, .string ⟨s.middle.toArray⟩, .string ⟨s.vert.toArray⟩, .string ⟨s.bottom.toArray⟩, .string ⟨s.newline.toArray⟩, .string ⟨s.pre.toArray⟩] 24)) W') => show W'.cell? ⟨w.heap.size, 0, none⟩ = some (.int .i64 s.fmt) ∧ W'.cell? ⟨w.heap.size, 1, none⟩ = some (.string ⟨s.single.toArray⟩) ∧ W'.cell? ⟨w.heap.size, 2, none⟩ = some (.string ⟨s.top.toArray⟩) ∧ W'.cell? ⟨w.heap.size, 3, none⟩ = some (.string ⟨s.first.toArray⟩) ∧ W'.cell? ⟨w.heap.size, 4, none⟩ = some (.string ⟨s.middle.toArray⟩) ∧ W'.cell? ⟨w.heap.size, 5, none⟩ = some (.string ⟨s.vert.toArray⟩) ∧ W'.cell? ⟨w.heap.size, 6, none⟩ = some (.string ⟨s.bottom.toArray⟩) ∧ W'.cell? ⟨w.heap.size, 7, none⟩ = some (.string ⟨s.newline.toArray⟩) ∧ W'.cell? ⟨w.heap.size, 8, none⟩ = some (.string ⟨s.pre.toArray⟩) from by
    have hg := (h.block w.heap.size (by omega)).trans (alloc_heap_new w (.cells #[.int .i64 s.fmt, .string ⟨s.single.toArray⟩, .string ⟨s.top.toArray⟩, .string ⟨s.first.toArray⟩, .string ⟨s.middle.toArray⟩, .string ⟨s.vert.toArray⟩, .string ⟨s.bottom.toArray⟩, .string ⟨s.newline.toArray⟩, .string ⟨s.pre.toArray⟩] 24))
    exact ⟨blk_cell hg 0, blk_cell hg 1, blk_cell hg 2, blk_cell hg 3, blk_cell hg 4, blk_cell hg 5, blk_cell hg 6, blk_cell hg 7, blk_cell hg 8⟩)
  have DZ : (w.alloc (.cells #[.int .i64 s.fmt, .string ⟨s.single.toArray⟩, .string ⟨s.top.toArray⟩, .string ⟨s.first.toArray⟩, .string ⟨s.middle.toArray⟩, .string ⟨s.vert.toArray⟩, .string ⟨s.bottom.toArray⟩, .string ⟨s.newline.toArray⟩, .string ⟨s.pre.toArray⟩] 24)).heap.size = w.heap.size + 1 := by simp
  go_enter Tryd.func3, Tryd.ntmps3
  go_wp2_with (first
    | (go_at_call 4; (with_reducible refine (K1.out _ BA.out).mono ?_); rintro e w1 ⟨rfl, hb1⟩; have B1 := hid (below_next BA.out hb1); have D1 := hid (show Below (w.heap.size + 1) (w.alloc (.cells #[.int .i64 s.fmt, .string ⟨s.single.toArray⟩, .string ⟨s.top.toArray⟩, .string ⟨s.first.toArray⟩, .string ⟨s.middle.toArray⟩, .string ⟨s.vert.toArray⟩, .string ⟨s.bottom.toArray⟩, .string ⟨s.newline.toArray⟩, .string ⟨s.pre.toArray⟩] 24)) w1 from hb1.mono (by first | exact Nat.le_refl _ | simp));  obtain ⟨z0, z1, z2, z3, z4, z5, z6, z7, z8⟩ := HZ.out w1 D1.out))
  go_ret
  exact ⟨rfl, B1.out⟩
theorem format_e2 (K1 : Tells w 4 v0 true) (hf : fits14B s = false) : FormatSaid v0 s f w := by
  have K1 := hid K1
  have BA := hid ((Below.refl _ w).alloc (Nat.le_refl _) (.cells #[.int .i64 s.fmt, .string ⟨s.single.toArray⟩, .string ⟨s.top.toArray⟩, .string ⟨s.first.toArray⟩, .string ⟨s.middle.toArray⟩, .string ⟨s.vert.toArray⟩, .string ⟨s.bottom.toArray⟩, .string ⟨s.newline.toArray⟩, .string ⟨s.pre.toArray⟩] 24))
  have HZ := hid (fun (W' : World) (h : Below (w.heap.size + 1) (w.alloc (.cells #[.int .i64 s.fmt, .string ⟨s.single.toArray⟩, .string ⟨s.top.toArray⟩, .string ⟨s.first.toArray⟩, .string ⟨s.middle.toArray⟩, .string ⟨s.vert.toArray⟩, .string ⟨s.bottom.toArray⟩, .string ⟨s.newline.toArray⟩, .string ⟨s.pre.toArray⟩] 24)) W') => show W'.cell? ⟨w.heap.size, 0, none⟩ = some (.int .i64 s.fmt) ∧ W'.cell? ⟨w.heap.size, 1, none⟩ = some (.string ⟨s.single.toArray⟩) ∧ W'.cell? ⟨w.heap.size, 2, none⟩ = some (.string ⟨s.top.toArray⟩) ∧ W'.cell? ⟨w.heap.size, 3, none⟩ = some (.string ⟨s.first.toArray⟩) ∧ W'.cell? ⟨w.heap.size, 4, none⟩ = some (.string ⟨s.middle.toArray⟩) ∧ W'.cell? ⟨w.heap.size, 5, none⟩ = some (.string ⟨s.vert.toArray⟩) ∧ W'.cell? ⟨w.heap.size, 6, none⟩ = some (.string ⟨s.bottom.toArray⟩) ∧ W'.cell? ⟨w.heap.size, 7, none⟩ = some (.string ⟨s.newline.toArray⟩) ∧ W'.cell? ⟨w.heap.size, 8, none⟩ = some (.string ⟨s.pre.toArray⟩) from by
    have hg := (h.block w.heap.size (by omega)).trans (alloc_heap_new w (.cells #[.int .i64 s.fmt, .string ⟨s.single.toArray⟩, .string ⟨s.top.toArray⟩, .string ⟨s.first.toArray⟩, .string ⟨s.middle.toArray⟩, .string ⟨s.vert.toArray⟩, .string ⟨s.bottom.toArray⟩, .string ⟨s.newline.toArray⟩, .string ⟨s.pre.toArray⟩] 24))
    exact ⟨blk_cell hg 0, blk_cell hg 1, blk_cell hg 2, blk_cell hg 3, blk_cell hg 4, blk_cell hg 5, blk_cell hg 6, blk_cell hg 7, blk_cell hg 8⟩)
  have DZ : (w.alloc (.cells #[.int .i64 s.fmt, .string ⟨s.single.toArray⟩, .string ⟨s.top.toArray⟩, .string ⟨s.first.toArray⟩, .string ⟨s.middle.toArray⟩, .string ⟨s.vert.toArray⟩, .string ⟨s.bottom.toArray⟩, .string ⟨s.newline.toArray⟩, .string ⟨s.pre.toArray⟩] 24)).heap.size = w.heap.size + 1 := by simp
  have K14 := hid (zzFits14_calls s)
  rw [hf] at K14
  go_enter Tryd.func3, Tryd.ntmps3
  go_wp2_with (first
    | (go_at_call 4; (with_reducible refine (K1.out _ BA.out).mono ?_); rintro e w1 ⟨rfl, hb1⟩; have B1 := hid (below_next BA.out hb1); have D1 := hid (show Below (w.heap.size + 1) (w.alloc (.cells #[.int .i64 s.fmt, .string ⟨s.single.toArray⟩, .string ⟨s.top.toArray⟩, .string ⟨s.first.toArray⟩, .string ⟨s.middle.toArray⟩, .string ⟨s.vert.toArray⟩, .string ⟨s.bottom.toArray⟩, .string ⟨s.newline.toArray⟩, .string ⟨s.pre.toArray⟩] 24)) w1 from hb1.mono (by first | exact Nat.le_refl _ | simp));  obtain ⟨z0, z1, z2, z3, z4, z5, z6, z7, z8⟩ := HZ.out w1 D1.out)
    | (go_at_call 5; (with_reducible refine (K14.out _).mono ?_); rintro e w2 ⟨rfl, hb2⟩; have B2 := hid (below_next B1.out hb2); have D2 := hid (show Below (w.heap.size + 1) (w.alloc (.cells #[.int .i64 s.fmt, .string ⟨s.single.toArray⟩, .string ⟨s.top.toArray⟩, .string ⟨s.first.toArray⟩, .string ⟨s.middle.toArray⟩, .string ⟨s.vert.toArray⟩, .string ⟨s.bottom.toArray⟩, .string ⟨s.newline.toArray⟩, .string ⟨s.pre.toArray⟩] 24)) w2 from D1.out.trans (hb2.mono (by have := D1.out.size; have := DZ; omega))); clear z0 z1 z2 z3 z4 z5 z6 z7 z8; obtain ⟨z0, z1, z2, z3, z4, z5, z6, z7, z8⟩ := HZ.out w2 D2.out))
  go_ret
  exact ⟨rfl, B2.out⟩
theorem format_e3 (K1 : Tells w 4 v0 true) (hf : fits14B s = true) (K3 : Tells w 6 v0 false) : FormatSaid v0 s f w := by
  have K1 := hid K1
  have BA := hid ((Below.refl _ w).alloc (Nat.le_refl _) (.cells #[.int .i64 s.fmt, .string ⟨s.single.toArray⟩, .string ⟨s.top.toArray⟩, .string ⟨s.first.toArray⟩, .string ⟨s.middle.toArray⟩, .string ⟨s.vert.toArray⟩, .string ⟨s.bottom.toArray⟩, .string ⟨s.newline.toArray⟩, .string ⟨s.pre.toArray⟩] 24))
  have HZ := hid (fun (W' : World) (h : Below (w.heap.size + 1) (w.alloc (.cells #[.int .i64 s.fmt, .string ⟨s.single.toArray⟩, .string ⟨s.top.toArray⟩, .string ⟨s.first.toArray⟩, .string ⟨s.middle.toArray⟩, .string ⟨s.vert.toArray⟩, .string ⟨s.bottom.toArray⟩, .string ⟨s.newline.toArray⟩, .string ⟨s.pre.toArray⟩] 24)) W') => show W'.cell? ⟨w.heap.size, 0, none⟩ = some (.int .i64 s.fmt) ∧ W'.cell? ⟨w.heap.size, 1, none⟩ = some (.string ⟨s.single.toArray⟩) ∧ W'.cell? ⟨w.heap.size, 2, none⟩ = some (.string ⟨s.top.toArray⟩) ∧ W'.cell? ⟨w.heap.size, 3, none⟩ = some (.string ⟨s.first.toArray⟩) ∧ W'.cell? ⟨w.heap.size, 4, none⟩ = some (.string ⟨s.middle.toArray⟩) ∧ W'.cell? ⟨w.heap.size, 5, none⟩ = some (.string ⟨s.vert.toArray⟩) ∧ W'.cell? ⟨w.heap.size, 6, none⟩ = some (.string ⟨s.bottom.toArray⟩) ∧ W'.cell? ⟨w.heap.size, 7, none⟩ = some (.string ⟨s.newline.toArray⟩) ∧ W'.cell? ⟨w.heap.size, 8, none⟩ = some (.string ⟨s.pre.toArray⟩) from by
    have hg := (h.block w.heap.size (by omega)).trans (alloc_heap_new w (.cells #[.int .i64 s.fmt, .string ⟨s.single.toArray⟩, .string ⟨s.top.toArray⟩, .string ⟨s.first.toArray⟩, .string ⟨s.middle.toArray⟩, .string ⟨s.vert.toArray⟩, .string ⟨s.bottom.toArray⟩, .string ⟨s.newline.toArray⟩, .string ⟨s.pre.toArray⟩] 24))
    exact ⟨blk_cell hg 0, blk_cell hg 1, blk_cell hg 2, blk_cell hg 3, blk_cell hg 4, blk_cell hg 5, blk_cell hg 6, blk_cell hg 7, blk_cell hg 8⟩)
  have DZ : (w.alloc (.cells #[.int .i64 s.fmt, .string ⟨s.single.toArray⟩, .string ⟨s.top.toArray⟩, .string ⟨s.first.toArray⟩, .string ⟨s.middle.toArray⟩, .string ⟨s.vert.toArray⟩, .string ⟨s.bottom.toArray⟩, .string ⟨s.newline.toArray⟩, .string ⟨s.pre.toArray⟩] 24)).heap.size = w.heap.size + 1 := by simp
  have K14 := hid (zzFits14_calls s)
  rw [hf] at K14
  have K3 := hid K3
  go_enter Tryd.func3, Tryd.ntmps3
  go_wp2_with (first
    | (go_at_call 4; (with_reducible refine (K1.out _ BA.out).mono ?_); rintro e w1 ⟨rfl, hb1⟩; have B1 := hid (below_next BA.out hb1); have D1 := hid (show Below (w.heap.size + 1) (w.alloc (.cells #[.int .i64 s.fmt, .string ⟨s.single.toArray⟩, .string ⟨s.top.toArray⟩, .string ⟨s.first.toArray⟩, .string ⟨s.middle.toArray⟩, .string ⟨s.vert.toArray⟩, .string ⟨s.bottom.toArray⟩, .string ⟨s.newline.toArray⟩, .string ⟨s.pre.toArray⟩] 24)) w1 from hb1.mono (by first | exact Nat.le_refl _ | simp));  obtain ⟨z0, z1, z2, z3, z4, z5, z6, z7, z8⟩ := HZ.out w1 D1.out)
    | (go_at_call 5; (with_reducible refine (K14.out _).mono ?_); rintro e w2 ⟨rfl, hb2⟩; have B2 := hid (below_next B1.out hb2); have D2 := hid (show Below (w.heap.size + 1) (w.alloc (.cells #[.int .i64 s.fmt, .string ⟨s.single.toArray⟩, .string ⟨s.top.toArray⟩, .string ⟨s.first.toArray⟩, .string ⟨s.middle.toArray⟩, .string ⟨s.vert.toArray⟩, .string ⟨s.bottom.toArray⟩, .string ⟨s.newline.toArray⟩, .string ⟨s.pre.toArray⟩] 24)) w2 from D1.out.trans (hb2.mono (by have := D1.out.size; have := DZ; omega))); clear z0 z1 z2 z3 z4 z5 z6 z7 z8; obtain ⟨z0, z1, z2, z3, z4, z5, z6, z7, z8⟩ := HZ.out w2 D2.out)
    | (go_at_call 6; (with_reducible refine (K3.out _ B2.out).mono ?_); rintro e w3 ⟨rfl, hb3⟩; have B3 := hid (below_next B2.out hb3); have D3 := hid (show Below (w.heap.size + 1) (w.alloc (.cells #[.int .i64 s.fmt, .string ⟨s.single.toArray⟩, .string ⟨s.top.toArray⟩, .string ⟨s.first.toArray⟩, .string ⟨s.middle.toArray⟩, .string ⟨s.vert.toArray⟩, .string ⟨s.bottom.toArray⟩, .string ⟨s.newline.toArray⟩, .string ⟨s.pre.toArray⟩] 24)) w3 from D2.out.trans (hb3.mono (by have := D2.out.size; have := DZ; omega))); clear z0 z1 z2 z3 z4 z5 z6 z7 z8; obtain ⟨z0, z1, z2, z3, z4, z5, z6, z7, z8⟩ := HZ.out w3 D3.out))
  go_ret
  exact ⟨rfl, B3.out⟩
theorem format_e4 (K1 : Tells w 4 v0 true) (hf : fits14B s = true) (K3 : Tells w 6 v0 true) (hst : lsStyledB s = false) : FormatSaid v0 s f w := by
  have K1 := hid K1
  have BA := hid ((Below.refl _ w).alloc (Nat.le_refl _) (.cells #[.int .i64 s.fmt, .string ⟨s.single.toArray⟩, .string ⟨s.top.toArray⟩, .string ⟨s.first.toArray⟩, .string ⟨s.middle.toArray⟩, .string ⟨s.vert.toArray⟩, .string ⟨s.bottom.toArray⟩, .string ⟨s.newline.toArray⟩, .string ⟨s.pre.toArray⟩] 24))
  have HZ := hid (fun (W' : World) (h : Below (w.heap.size + 1) (w.alloc (.cells #[.int .i64 s.fmt, .string ⟨s.single.toArray⟩, .string ⟨s.top.toArray⟩, .string ⟨s.first.toArray⟩, .string ⟨s.middle.toArray⟩, .string ⟨s.vert.toArray⟩, .string ⟨s.bottom.toArray⟩, .string ⟨s.newline.toArray⟩, .string ⟨s.pre.toArray⟩] 24)) W') => show W'.cell? ⟨w.heap.size, 0, none⟩ = some (.int .i64 s.fmt) ∧ W'.cell? ⟨w.heap.size, 1, none⟩ = some (.string ⟨s.single.toArray⟩) ∧ W'.cell? ⟨w.heap.size, 2, none⟩ = some (.string ⟨s.top.toArray⟩) ∧ W'.cell? ⟨w.heap.size, 3, none⟩ = some (.string ⟨s.first.toArray⟩) ∧ W'.cell? ⟨w.heap.size, 4, none⟩ = some (.string ⟨s.middle.toArray⟩) ∧ W'.cell? ⟨w.heap.size, 5, none⟩ = some (.string ⟨s.vert.toArray⟩) ∧ W'.cell? ⟨w.heap.size, 6, none⟩ = some (.string ⟨s.bottom.toArray⟩) ∧ W'.cell? ⟨w.heap.size, 7, none⟩ = some (.string ⟨s.newline.toArray⟩) ∧ W'.cell? ⟨w.heap.size, 8, none⟩ = some (.string ⟨s.pre.toArray⟩) from by
    have hg := (h.block w.heap.size (by omega)).trans (alloc_heap_new w (.cells #[.int .i64 s.fmt, .string ⟨s.single.toArray⟩, .string ⟨s.top.toArray⟩, .string ⟨s.first.toArray⟩, .string ⟨s.middle.toArray⟩, .string ⟨s.vert.toArray⟩, .string ⟨s.bottom.toArray⟩, .string ⟨s.newline.toArray⟩, .string ⟨s.pre.toArray⟩] 24))
    exact ⟨blk_cell hg 0, blk_cell hg 1, blk_cell hg 2, blk_cell hg 3, blk_cell hg 4, blk_cell hg 5, blk_cell hg 6, blk_cell hg 7, blk_cell hg 8⟩)
  have DZ : (w.alloc (.cells #[.int .i64 s.fmt, .string ⟨s.single.toArray⟩, .string ⟨s.top.toArray⟩, .string ⟨s.first.toArray⟩, .string ⟨s.middle.toArray⟩, .string ⟨s.vert.toArray⟩, .string ⟨s.bottom.toArray⟩, .string ⟨s.newline.toArray⟩, .string ⟨s.pre.toArray⟩] 24)).heap.size = w.heap.size + 1 := by simp
  have K14 := hid (zzFits14_calls s)
  rw [hf] at K14
  have K3 := hid K3
  have KS := hid (LsStyled_calls s)
  rw [hst] at KS
  go_enter Tryd.func3, Tryd.ntmps3
  go_wp2_with (first
    | (go_at_call 4; (with_reducible refine (K1.out _ BA.out).mono ?_); rintro e w1 ⟨rfl, hb1⟩; have B1 := hid (below_next BA.out hb1); have D1 := hid (show Below (w.heap.size + 1) (w.alloc (.cells #[.int .i64 s.fmt, .string ⟨s.single.toArray⟩, .string ⟨s.top.toArray⟩, .string ⟨s.first.toArray⟩, .string ⟨s.middle.toArray⟩, .string ⟨s.vert.toArray⟩, .string ⟨s.bottom.toArray⟩, .string ⟨s.newline.toArray⟩, .string ⟨s.pre.toArray⟩] 24)) w1 from hb1.mono (by first | exact Nat.le_refl _ | simp));  obtain ⟨z0, z1, z2, z3, z4, z5, z6, z7, z8⟩ := HZ.out w1 D1.out)
    | (go_at_call 5; (with_reducible refine (K14.out _).mono ?_); rintro e w2 ⟨rfl, hb2⟩; have B2 := hid (below_next B1.out hb2); have D2 := hid (show Below (w.heap.size + 1) (w.alloc (.cells #[.int .i64 s.fmt, .string ⟨s.single.toArray⟩, .string ⟨s.top.toArray⟩, .string ⟨s.first.toArray⟩, .string ⟨s.middle.toArray⟩, .string ⟨s.vert.toArray⟩, .string ⟨s.bottom.toArray⟩, .string ⟨s.newline.toArray⟩, .string ⟨s.pre.toArray⟩] 24)) w2 from D1.out.trans (hb2.mono (by have := D1.out.size; have := DZ; omega))); clear z0 z1 z2 z3 z4 z5 z6 z7 z8; obtain ⟨z0, z1, z2, z3, z4, z5, z6, z7, z8⟩ := HZ.out w2 D2.out)
    | (go_at_call 6; (with_reducible refine (K3.out _ B2.out).mono ?_); rintro e w3 ⟨rfl, hb3⟩; have B3 := hid (below_next B2.out hb3); have D3 := hid (show Below (w.heap.size + 1) (w.alloc (.cells #[.int .i64 s.fmt, .string ⟨s.single.toArray⟩, .string ⟨s.top.toArray⟩, .string ⟨s.first.toArray⟩, .string ⟨s.middle.toArray⟩, .string ⟨s.vert.toArray⟩, .string ⟨s.bottom.toArray⟩, .string ⟨s.newline.toArray⟩, .string ⟨s.pre.toArray⟩] 24)) w3 from D2.out.trans (hb3.mono (by have := D2.out.size; have := DZ; omega))); clear z0 z1 z2 z3 z4 z5 z6 z7 z8; obtain ⟨z0, z1, z2, z3, z4, z5, z6, z7, z8⟩ := HZ.out w3 D3.out)
    | (go_at_call 7; (with_reducible refine (KS.out _).mono ?_); rintro e w4 ⟨rfl, hb4⟩; have B4 := hid (below_next B3.out hb4); have D4 := hid (show Below (w.heap.size + 1) (w.alloc (.cells #[.int .i64 s.fmt, .string ⟨s.single.toArray⟩, .string ⟨s.top.toArray⟩, .string ⟨s.first.toArray⟩, .string ⟨s.middle.toArray⟩, .string ⟨s.vert.toArray⟩, .string ⟨s.bottom.toArray⟩, .string ⟨s.newline.toArray⟩, .string ⟨s.pre.toArray⟩] 24)) w4 from D3.out.trans (hb4.mono (by have := D3.out.size; have := DZ; omega))); clear z0 z1 z2 z3 z4 z5 z6 z7 z8; obtain ⟨z0, z1, z2, z3, z4, z5, z6, z7, z8⟩ := HZ.out w4 D4.out))
  go_ret
  exact ⟨rfl, B4.out⟩
theorem format_m0 (hx : Int.tmod f 4 = 0) (l0 : List Stp) (K1 : Tells w 4 v0 true) (hf : fits14B s = true) (K3 : Tells w 6 v0 true) (hst : lsStyledB s = true) (hs : ShortSt s) (hname : s.name = []) (hfmt : s.fmt = 0) (hnl : s.newline = [10]) (n0 : l0.length ≤ 80) (s0 : ∀ p ∈ l0, StSh p) (r0 : RdSt w v0 l0) (hT : CTab w) : FormatSaid v0 s f w := by
  have K1 := hid K1
  have BA := hid ((Below.refl _ w).alloc (Nat.le_refl _) (.cells #[.int .i64 s.fmt, .string ⟨s.single.toArray⟩, .string ⟨s.top.toArray⟩, .string ⟨s.first.toArray⟩, .string ⟨s.middle.toArray⟩, .string ⟨s.vert.toArray⟩, .string ⟨s.bottom.toArray⟩, .string ⟨s.newline.toArray⟩, .string ⟨s.pre.toArray⟩] 24))
  have HZ := hid (fun (W' : World) (h : Below (w.heap.size + 1) (w.alloc (.cells #[.int .i64 s.fmt, .string ⟨s.single.toArray⟩, .string ⟨s.top.toArray⟩, .string ⟨s.first.toArray⟩, .string ⟨s.middle.toArray⟩, .string ⟨s.vert.toArray⟩, .string ⟨s.bottom.toArray⟩, .string ⟨s.newline.toArray⟩, .string ⟨s.pre.toArray⟩] 24)) W') => show W'.cell? ⟨w.heap.size, 0, none⟩ = some (.int .i64 s.fmt) ∧ W'.cell? ⟨w.heap.size, 1, none⟩ = some (.string ⟨s.single.toArray⟩) ∧ W'.cell? ⟨w.heap.size, 2, none⟩ = some (.string ⟨s.top.toArray⟩) ∧ W'.cell? ⟨w.heap.size, 3, none⟩ = some (.string ⟨s.first.toArray⟩) ∧ W'.cell? ⟨w.heap.size, 4, none⟩ = some (.string ⟨s.middle.toArray⟩) ∧ W'.cell? ⟨w.heap.size, 5, none⟩ = some (.string ⟨s.vert.toArray⟩) ∧ W'.cell? ⟨w.heap.size, 6, none⟩ = some (.string ⟨s.bottom.toArray⟩) ∧ W'.cell? ⟨w.heap.size, 7, none⟩ = some (.string ⟨s.newline.toArray⟩) ∧ W'.cell? ⟨w.heap.size, 8, none⟩ = some (.string ⟨s.pre.toArray⟩) from by
    have hg := (h.block w.heap.size (by omega)).trans (alloc_heap_new w (.cells #[.int .i64 s.fmt, .string ⟨s.single.toArray⟩, .string ⟨s.top.toArray⟩, .string ⟨s.first.toArray⟩, .string ⟨s.middle.toArray⟩, .string ⟨s.vert.toArray⟩, .string ⟨s.bottom.toArray⟩, .string ⟨s.newline.toArray⟩, .string ⟨s.pre.toArray⟩] 24))
    exact ⟨blk_cell hg 0, blk_cell hg 1, blk_cell hg 2, blk_cell hg 3, blk_cell hg 4, blk_cell hg 5, blk_cell hg 6, blk_cell hg 7, blk_cell hg 8⟩)
  have HZB := hid (fun (W' : World) (h : Below (w.heap.size + 1) (w.alloc (.cells #[.int .i64 s.fmt, .string ⟨s.single.toArray⟩, .string ⟨s.top.toArray⟩, .string ⟨s.first.toArray⟩, .string ⟨s.middle.toArray⟩, .string ⟨s.vert.toArray⟩, .string ⟨s.bottom.toArray⟩, .string ⟨s.newline.toArray⟩, .string ⟨s.pre.toArray⟩] 24)) W') => (h.block w.heap.size (by omega)).trans (alloc_heap_new w (.cells #[.int .i64 s.fmt, .string ⟨s.single.toArray⟩, .string ⟨s.top.toArray⟩, .string ⟨s.first.toArray⟩, .string ⟨s.middle.toArray⟩, .string ⟨s.vert.toArray⟩, .string ⟨s.bottom.toArray⟩, .string ⟨s.newline.toArray⟩, .string ⟨s.pre.toArray⟩] 24)))
  have DZ : (w.alloc (.cells #[.int .i64 s.fmt, .string ⟨s.single.toArray⟩, .string ⟨s.top.toArray⟩, .string ⟨s.first.toArray⟩, .string ⟨s.middle.toArray⟩, .string ⟨s.vert.toArray⟩, .string ⟨s.bottom.toArray⟩, .string ⟨s.newline.toArray⟩, .string ⟨s.pre.toArray⟩] 24)).heap.size = w.heap.size + 1 := by simp
  have K14 := hid (zzFits14_calls s)
  rw [hf] at K14
  have K3 := hid K3
  have KS := hid (LsStyled_calls s)
  rw [hst] at KS
  have HXC := hid (fun (W : World) => alloc_heap_new W (.cells #[.int .i64 0, .string ⟨s.single.toArray⟩, .string ⟨s.top.toArray⟩, .string ⟨s.first.toArray⟩, .string ⟨s.middle.toArray⟩, .string ⟨s.vert.toArray⟩, .string ⟨s.bottom.toArray⟩, .string ⟨s.newline.toArray⟩, .string ⟨s.pre.toArray⟩] 24))
  have KM := hid (fun (W4 : World) (hb : Below w.heap.size w W4) => LtMapped_calls (fmtG 0) W4.heap.size l0 v0 (W4.alloc (.cells #[.int .i64 0, .string ⟨s.single.toArray⟩, .string ⟨s.top.toArray⟩, .string ⟨s.first.toArray⟩, .string ⟨s.middle.toArray⟩, .string ⟨s.vert.toArray⟩, .string ⟨s.bottom.toArray⟩, .string ⟨s.newline.toArray⟩, .string ⟨s.pre.toArray⟩] 24)) n0 (fun p hp => ⟨(s0 p hp).2.2.1, (s0 p hp).1, fun t ht => ((s0 p hp).2.2.2 t ht).1⟩)
    (fun t W ht hbW => Clos_calls W4.heap.size 0 t (by omega) W (blk_cell (heap_keep (alloc_heap_new W4 _) hbW) 0) (hT.below ((hb.alloc hb.size _).trans (hbW.mono (hb.alloc hb.size _).size)))) (r0.below (hb.alloc hb.size _)))
  have TT := hid (fun (v5 : Value) (l' : List Stp) (W : World) (hb : Below w.heap.size w W) (r5 : RdSt W v5 l') (hk : l'.map keyP = l0.map (keyM (fmtG 0))) => format_tells 0 l0 l' v0 v5 s W hs hname hfmt hnl n0 s0 (r0.below hb) r5 hk (hT.below hb))
  clear hs hname hfmt hnl s0 r0 hf hst n0 hT
  go_enter Tryd.func3, Tryd.ntmps3
  go_wp2_with (first
    | (go_at_call 4; (with_reducible refine (K1.out _ BA.out).mono ?_); rintro e w1 ⟨rfl, hb1⟩; have B1 := hid (below_next BA.out hb1); have D1 := hid (show Below (w.heap.size + 1) (w.alloc (.cells #[.int .i64 s.fmt, .string ⟨s.single.toArray⟩, .string ⟨s.top.toArray⟩, .string ⟨s.first.toArray⟩, .string ⟨s.middle.toArray⟩, .string ⟨s.vert.toArray⟩, .string ⟨s.bottom.toArray⟩, .string ⟨s.newline.toArray⟩, .string ⟨s.pre.toArray⟩] 24)) w1 from hb1.mono (by first | exact Nat.le_refl _ | simp));  obtain ⟨z0, z1, z2, z3, z4, z5, z6, z7, z8⟩ := HZ.out w1 D1.out)
    | (go_at_call 5; (with_reducible refine (K14.out _).mono ?_); rintro e w2 ⟨rfl, hb2⟩; have B2 := hid (below_next B1.out hb2); have D2 := hid (show Below (w.heap.size + 1) (w.alloc (.cells #[.int .i64 s.fmt, .string ⟨s.single.toArray⟩, .string ⟨s.top.toArray⟩, .string ⟨s.first.toArray⟩, .string ⟨s.middle.toArray⟩, .string ⟨s.vert.toArray⟩, .string ⟨s.bottom.toArray⟩, .string ⟨s.newline.toArray⟩, .string ⟨s.pre.toArray⟩] 24)) w2 from D1.out.trans (hb2.mono (by have := D1.out.size; have := DZ; omega))); clear z0 z1 z2 z3 z4 z5 z6 z7 z8; obtain ⟨z0, z1, z2, z3, z4, z5, z6, z7, z8⟩ := HZ.out w2 D2.out)
    | (go_at_call 6; (with_reducible refine (K3.out _ B2.out).mono ?_); rintro e w3 ⟨rfl, hb3⟩; have B3 := hid (below_next B2.out hb3); have D3 := hid (show Below (w.heap.size + 1) (w.alloc (.cells #[.int .i64 s.fmt, .string ⟨s.single.toArray⟩, .string ⟨s.top.toArray⟩, .string ⟨s.first.toArray⟩, .string ⟨s.middle.toArray⟩, .string ⟨s.vert.toArray⟩, .string ⟨s.bottom.toArray⟩, .string ⟨s.newline.toArray⟩, .string ⟨s.pre.toArray⟩] 24)) w3 from D2.out.trans (hb3.mono (by have := D2.out.size; have := DZ; omega))); clear z0 z1 z2 z3 z4 z5 z6 z7 z8; obtain ⟨z0, z1, z2, z3, z4, z5, z6, z7, z8⟩ := HZ.out w3 D3.out)
    | (go_at_call 7; (with_reducible refine (KS.out _).mono ?_); rintro e w4 ⟨rfl, hb4⟩; have B4 := hid (below_next B3.out hb4); have D4 := hid (show Below (w.heap.size + 1) (w.alloc (.cells #[.int .i64 s.fmt, .string ⟨s.single.toArray⟩, .string ⟨s.top.toArray⟩, .string ⟨s.first.toArray⟩, .string ⟨s.middle.toArray⟩, .string ⟨s.vert.toArray⟩, .string ⟨s.bottom.toArray⟩, .string ⟨s.newline.toArray⟩, .string ⟨s.pre.toArray⟩] 24)) w4 from D3.out.trans (hb4.mono (by have := D3.out.size; have := DZ; omega))); clear z0 z1 z2 z3 z4 z5 z6 z7 z8; obtain ⟨z0, z1, z2, z3, z4, z5, z6, z7, z8⟩ := HZ.out w4 D4.out)
    | (go_at_call 8; (with_reducible refine (KM.out _ B4.out).mono ?_); rintro e w5 ⟨v5, rfl, hb5, l5, R5, hk5⟩; clear z0 z1 z2 z3 z4 z5 z6 z7 z8; have B5 := hid ((B4.out.alloc B4.out.size (.cells #[.int .i64 0, .string ⟨s.single.toArray⟩, .string ⟨s.top.toArray⟩, .string ⟨s.first.toArray⟩, .string ⟨s.middle.toArray⟩, .string ⟨s.vert.toArray⟩, .string ⟨s.bottom.toArray⟩, .string ⟨s.newline.toArray⟩, .string ⟨s.pre.toArray⟩] 24)).trans (hb5.mono (B4.out.alloc B4.out.size _).size)); have HS5 := hid ((heap_keep (heap_keep (HZB.out w4 D4.out) ((Below.refl _ w4).alloc (Nat.le_refl _) _)) hb5)); have HX5 := hid (heap_keep (HXC.out w4) hb5); have R5 := hid R5; have HK5 := hid hk5; clear hb5 hk5))
  obtain ⟨p, h, t1, t2, t3, t4⟩ := TT.out v5 l5 w5 B5.out R5.out HK5.out
  have T1 := hid t1
  have T2 := hid t2
  have T3 := hid t3
  have T4 := hid t4
  have GRS := hid (fun (w' : World) (hb : Below w5.heap.size w5 w') => (show (w'.cell? ⟨w.heap.size, 0, none⟩ = some (.int .i64 s.fmt) ∧ w'.cell? ⟨w.heap.size, 1, none⟩ = some (.string ⟨s.single.toArray⟩) ∧ w'.cell? ⟨w.heap.size, 2, none⟩ = some (.string ⟨s.top.toArray⟩) ∧ w'.cell? ⟨w.heap.size, 3, none⟩ = some (.string ⟨s.first.toArray⟩) ∧ w'.cell? ⟨w.heap.size, 4, none⟩ = some (.string ⟨s.middle.toArray⟩) ∧ w'.cell? ⟨w.heap.size, 5, none⟩ = some (.string ⟨s.vert.toArray⟩) ∧ w'.cell? ⟨w.heap.size, 6, none⟩ = some (.string ⟨s.bottom.toArray⟩) ∧ w'.cell? ⟨w.heap.size, 7, none⟩ = some (.string ⟨s.newline.toArray⟩) ∧ w'.cell? ⟨w.heap.size, 8, none⟩ = some (.string ⟨s.pre.toArray⟩) ∧ w'.cell? ⟨w4.heap.size, 0, none⟩ = some (.int .i64 0) ∧ w'.cell? ⟨w4.heap.size, 1, none⟩ = some (.string ⟨s.single.toArray⟩) ∧ w'.cell? ⟨w4.heap.size, 2, none⟩ = some (.string ⟨s.top.toArray⟩) ∧ w'.cell? ⟨w4.heap.size, 3, none⟩ = some (.string ⟨s.first.toArray⟩) ∧ w'.cell? ⟨w4.heap.size, 4, none⟩ = some (.string ⟨s.middle.toArray⟩) ∧ w'.cell? ⟨w4.heap.size, 5, none⟩ = some (.string ⟨s.vert.toArray⟩) ∧ w'.cell? ⟨w4.heap.size, 6, none⟩ = some (.string ⟨s.bottom.toArray⟩) ∧ w'.cell? ⟨w4.heap.size, 7, none⟩ = some (.string ⟨s.newline.toArray⟩) ∧ w'.cell? ⟨w4.heap.size, 8, none⟩ = some (.string ⟨s.pre.toArray⟩)) ∧ Below w5.heap.size w5 w' from ⟨⟨blk_cell (heap_keep HS5.out hb) 0, blk_cell (heap_keep HS5.out hb) 1, blk_cell (heap_keep HS5.out hb) 2, blk_cell (heap_keep HS5.out hb) 3, blk_cell (heap_keep HS5.out hb) 4, blk_cell (heap_keep HS5.out hb) 5, blk_cell (heap_keep HS5.out hb) 6, blk_cell (heap_keep HS5.out hb) 7, blk_cell (heap_keep HS5.out hb) 8, blk_cell (heap_keep HX5.out hb) 0, blk_cell (heap_keep HX5.out hb) 1, blk_cell (heap_keep HX5.out hb) 2, blk_cell (heap_keep HX5.out hb) 3, blk_cell (heap_keep HX5.out hb) 4, blk_cell (heap_keep HX5.out hb) 5, blk_cell (heap_keep HX5.out hb) 6, blk_cell (heap_keep HX5.out hb) 7, blk_cell (heap_keep HX5.out hb) 8⟩, hb⟩))
  have HB5 := hid B5.out
  clear t1 t2 t3 t4 TT R5 HK5 HS5 HX5 BA B1 B2 B3 B4 B5 D1 D2 D3 D4 DZ HZ HZB HXC KM
  go_region_held3 (fun w' => (w'.cell? ⟨w.heap.size, 0, none⟩ = some (.int .i64 s.fmt) ∧ w'.cell? ⟨w.heap.size, 1, none⟩ = some (.string ⟨s.single.toArray⟩) ∧ w'.cell? ⟨w.heap.size, 2, none⟩ = some (.string ⟨s.top.toArray⟩) ∧ w'.cell? ⟨w.heap.size, 3, none⟩ = some (.string ⟨s.first.toArray⟩) ∧ w'.cell? ⟨w.heap.size, 4, none⟩ = some (.string ⟨s.middle.toArray⟩) ∧ w'.cell? ⟨w.heap.size, 5, none⟩ = some (.string ⟨s.vert.toArray⟩) ∧ w'.cell? ⟨w.heap.size, 6, none⟩ = some (.string ⟨s.bottom.toArray⟩) ∧ w'.cell? ⟨w.heap.size, 7, none⟩ = some (.string ⟨s.newline.toArray⟩) ∧ w'.cell? ⟨w.heap.size, 8, none⟩ = some (.string ⟨s.pre.toArray⟩) ∧ w'.cell? ⟨w4.heap.size, 0, none⟩ = some (.int .i64 0) ∧ w'.cell? ⟨w4.heap.size, 1, none⟩ = some (.string ⟨s.single.toArray⟩) ∧ w'.cell? ⟨w4.heap.size, 2, none⟩ = some (.string ⟨s.top.toArray⟩) ∧ w'.cell? ⟨w4.heap.size, 3, none⟩ = some (.string ⟨s.first.toArray⟩) ∧ w'.cell? ⟨w4.heap.size, 4, none⟩ = some (.string ⟨s.middle.toArray⟩) ∧ w'.cell? ⟨w4.heap.size, 5, none⟩ = some (.string ⟨s.vert.toArray⟩) ∧ w'.cell? ⟨w4.heap.size, 6, none⟩ = some (.string ⟨s.bottom.toArray⟩) ∧ w'.cell? ⟨w4.heap.size, 7, none⟩ = some (.string ⟨s.newline.toArray⟩) ∧ w'.cell? ⟨w4.heap.size, 8, none⟩ = some (.string ⟨s.pre.toArray⟩)) ∧ Below w5.heap.size w5 w') (first
    | exact GRS.out _ (below_drewQ _)
    | exact GRS.out _ (by assumption))
    (first
    | (go_at_call 11; (with_reducible refine (T1.out _ (And.right ‹_ ∧ Below w5.heap.size w5 _›)).mono ?_); rintro e u0 ⟨rfl, hv0⟩; have hu0 := below_next (And.right ‹_ ∧ Below w5.heap.size w5 _›) hv0)
    | (go_at_call 11; (with_reducible refine (T2.out _ (And.right ‹_ ∧ Below w5.heap.size w5 _›)).mono ?_); rintro e u1 ⟨rfl, hv1⟩; have hu1 := below_next (And.right ‹_ ∧ Below w5.heap.size w5 _›) hv1)
    | (go_at_call 12; (with_reducible refine (T3.out _ (And.right ‹_ ∧ Below w5.heap.size w5 _›)).mono ?_); rintro e u2 ⟨rfl, hv2⟩; have hu2 := below_next (And.right ‹_ ∧ Below w5.heap.size w5 _›) hv2)
    | (go_at_call 12; (with_reducible refine (T4.out _ (And.right ‹_ ∧ Below w5.heap.size w5 _›)).mono ?_); rintro e u3 ⟨rfl, hv3⟩; have hu3 := below_next (And.right ‹_ ∧ Below w5.heap.size w5 _›) hv3)
    | (go_at_call 13; (with_reducible refine (ltAlive_calls _).mono ?_); rintro e u6 ⟨rfl, hv6⟩; have hu6 := below_next (And.right ‹_ ∧ Below w5.heap.size w5 _›) hv6))
  all_goals go_wp2_with fail
  all_goals go_ret
  all_goals exact ⟨rfl, HB5.out.trans (hu6.mono HB5.out.size)⟩

theorem format_m1 (hx : Int.tmod f 4 = 1) (l0 : List Stp) (K1 : Tells w 4 v0 true) (hf : fits14B s = true) (K3 : Tells w 6 v0 true) (hst : lsStyledB s = true) (hs : ShortSt s) (hname : s.name = []) (hfmt : s.fmt = 0) (hnl : s.newline = [10]) (n0 : l0.length ≤ 80) (s0 : ∀ p ∈ l0, StSh p) (r0 : RdSt w v0 l0) (hT : CTab w) : FormatSaid v0 s f w := by
  have K1 := hid K1
  have BA := hid ((Below.refl _ w).alloc (Nat.le_refl _) (.cells #[.int .i64 s.fmt, .string ⟨s.single.toArray⟩, .string ⟨s.top.toArray⟩, .string ⟨s.first.toArray⟩, .string ⟨s.middle.toArray⟩, .string ⟨s.vert.toArray⟩, .string ⟨s.bottom.toArray⟩, .string ⟨s.newline.toArray⟩, .string ⟨s.pre.toArray⟩] 24))
  have HZ := hid (fun (W' : World) (h : Below (w.heap.size + 1) (w.alloc (.cells #[.int .i64 s.fmt, .string ⟨s.single.toArray⟩, .string ⟨s.top.toArray⟩, .string ⟨s.first.toArray⟩, .string ⟨s.middle.toArray⟩, .string ⟨s.vert.toArray⟩, .string ⟨s.bottom.toArray⟩, .string ⟨s.newline.toArray⟩, .string ⟨s.pre.toArray⟩] 24)) W') => show W'.cell? ⟨w.heap.size, 0, none⟩ = some (.int .i64 s.fmt) ∧ W'.cell? ⟨w.heap.size, 1, none⟩ = some (.string ⟨s.single.toArray⟩) ∧ W'.cell? ⟨w.heap.size, 2, none⟩ = some (.string ⟨s.top.toArray⟩) ∧ W'.cell? ⟨w.heap.size, 3, none⟩ = some (.string ⟨s.first.toArray⟩) ∧ W'.cell? ⟨w.heap.size, 4, none⟩ = some (.string ⟨s.middle.toArray⟩) ∧ W'.cell? ⟨w.heap.size, 5, none⟩ = some (.string ⟨s.vert.toArray⟩) ∧ W'.cell? ⟨w.heap.size, 6, none⟩ = some (.string ⟨s.bottom.toArray⟩) ∧ W'.cell? ⟨w.heap.size, 7, none⟩ = some (.string ⟨s.newline.toArray⟩) ∧ W'.cell? ⟨w.heap.size, 8, none⟩ = some (.string ⟨s.pre.toArray⟩) from by
    have hg := (h.block w.heap.size (by omega)).trans (alloc_heap_new w (.cells #[.int .i64 s.fmt, .string ⟨s.single.toArray⟩, .string ⟨s.top.toArray⟩, .string ⟨s.first.toArray⟩, .string ⟨s.middle.toArray⟩, .string ⟨s.vert.toArray⟩, .string ⟨s.bottom.toArray⟩, .string ⟨s.newline.toArray⟩, .string ⟨s.pre.toArray⟩] 24))
    exact ⟨blk_cell hg 0, blk_cell hg 1, blk_cell hg 2, blk_cell hg 3, blk_cell hg 4, blk_cell hg 5, blk_cell hg 6, blk_cell hg 7, blk_cell hg 8⟩)
  have HZB := hid (fun (W' : World) (h : Below (w.heap.size + 1) (w.alloc (.cells #[.int .i64 s.fmt, .string ⟨s.single.toArray⟩, .string ⟨s.top.toArray⟩, .string ⟨s.first.toArray⟩, .string ⟨s.middle.toArray⟩, .string ⟨s.vert.toArray⟩, .string ⟨s.bottom.toArray⟩, .string ⟨s.newline.toArray⟩, .string ⟨s.pre.toArray⟩] 24)) W') => (h.block w.heap.size (by omega)).trans (alloc_heap_new w (.cells #[.int .i64 s.fmt, .string ⟨s.single.toArray⟩, .string ⟨s.top.toArray⟩, .string ⟨s.first.toArray⟩, .string ⟨s.middle.toArray⟩, .string ⟨s.vert.toArray⟩, .string ⟨s.bottom.toArray⟩, .string ⟨s.newline.toArray⟩, .string ⟨s.pre.toArray⟩] 24)))
  have DZ : (w.alloc (.cells #[.int .i64 s.fmt, .string ⟨s.single.toArray⟩, .string ⟨s.top.toArray⟩, .string ⟨s.first.toArray⟩, .string ⟨s.middle.toArray⟩, .string ⟨s.vert.toArray⟩, .string ⟨s.bottom.toArray⟩, .string ⟨s.newline.toArray⟩, .string ⟨s.pre.toArray⟩] 24)).heap.size = w.heap.size + 1 := by simp
  have K14 := hid (zzFits14_calls s)
  rw [hf] at K14
  have K3 := hid K3
  have KS := hid (LsStyled_calls s)
  rw [hst] at KS
  have HXC := hid (fun (W : World) => alloc_heap_new W (.cells #[.int .i64 1, .string ⟨s.single.toArray⟩, .string ⟨s.top.toArray⟩, .string ⟨s.first.toArray⟩, .string ⟨s.middle.toArray⟩, .string ⟨s.vert.toArray⟩, .string ⟨s.bottom.toArray⟩, .string ⟨s.newline.toArray⟩, .string ⟨s.pre.toArray⟩] 24))
  have KM := hid (fun (W4 : World) (hb : Below w.heap.size w W4) => LtMapped_calls (fmtG 1) W4.heap.size l0 v0 (W4.alloc (.cells #[.int .i64 1, .string ⟨s.single.toArray⟩, .string ⟨s.top.toArray⟩, .string ⟨s.first.toArray⟩, .string ⟨s.middle.toArray⟩, .string ⟨s.vert.toArray⟩, .string ⟨s.bottom.toArray⟩, .string ⟨s.newline.toArray⟩, .string ⟨s.pre.toArray⟩] 24)) n0 (fun p hp => ⟨(s0 p hp).2.2.1, (s0 p hp).1, fun t ht => ((s0 p hp).2.2.2 t ht).1⟩)
    (fun t W ht hbW => Clos_calls W4.heap.size 1 t (by omega) W (blk_cell (heap_keep (alloc_heap_new W4 _) hbW) 0) (hT.below ((hb.alloc hb.size _).trans (hbW.mono (hb.alloc hb.size _).size)))) (r0.below (hb.alloc hb.size _)))
  have TT := hid (fun (v5 : Value) (l' : List Stp) (W : World) (hb : Below w.heap.size w W) (r5 : RdSt W v5 l') (hk : l'.map keyP = l0.map (keyM (fmtG 1))) => format_tells 1 l0 l' v0 v5 s W hs hname hfmt hnl n0 s0 (r0.below hb) r5 hk (hT.below hb))
  clear hs hname hfmt hnl s0 r0 hf hst n0 hT
  go_enter Tryd.func3, Tryd.ntmps3
  go_wp2_with (first
    | (go_at_call 4; (with_reducible refine (K1.out _ BA.out).mono ?_); rintro e w1 ⟨rfl, hb1⟩; have B1 := hid (below_next BA.out hb1); have D1 := hid (show Below (w.heap.size + 1) (w.alloc (.cells #[.int .i64 s.fmt, .string ⟨s.single.toArray⟩, .string ⟨s.top.toArray⟩, .string ⟨s.first.toArray⟩, .string ⟨s.middle.toArray⟩, .string ⟨s.vert.toArray⟩, .string ⟨s.bottom.toArray⟩, .string ⟨s.newline.toArray⟩, .string ⟨s.pre.toArray⟩] 24)) w1 from hb1.mono (by first | exact Nat.le_refl _ | simp));  obtain ⟨z0, z1, z2, z3, z4, z5, z6, z7, z8⟩ := HZ.out w1 D1.out)
    | (go_at_call 5; (with_reducible refine (K14.out _).mono ?_); rintro e w2 ⟨rfl, hb2⟩; have B2 := hid (below_next B1.out hb2); have D2 := hid (show Below (w.heap.size + 1) (w.alloc (.cells #[.int .i64 s.fmt, .string ⟨s.single.toArray⟩, .string ⟨s.top.toArray⟩, .string ⟨s.first.toArray⟩, .string ⟨s.middle.toArray⟩, .string ⟨s.vert.toArray⟩, .string ⟨s.bottom.toArray⟩, .string ⟨s.newline.toArray⟩, .string ⟨s.pre.toArray⟩] 24)) w2 from D1.out.trans (hb2.mono (by have := D1.out.size; have := DZ; omega))); clear z0 z1 z2 z3 z4 z5 z6 z7 z8; obtain ⟨z0, z1, z2, z3, z4, z5, z6, z7, z8⟩ := HZ.out w2 D2.out)
    | (go_at_call 6; (with_reducible refine (K3.out _ B2.out).mono ?_); rintro e w3 ⟨rfl, hb3⟩; have B3 := hid (below_next B2.out hb3); have D3 := hid (show Below (w.heap.size + 1) (w.alloc (.cells #[.int .i64 s.fmt, .string ⟨s.single.toArray⟩, .string ⟨s.top.toArray⟩, .string ⟨s.first.toArray⟩, .string ⟨s.middle.toArray⟩, .string ⟨s.vert.toArray⟩, .string ⟨s.bottom.toArray⟩, .string ⟨s.newline.toArray⟩, .string ⟨s.pre.toArray⟩] 24)) w3 from D2.out.trans (hb3.mono (by have := D2.out.size; have := DZ; omega))); clear z0 z1 z2 z3 z4 z5 z6 z7 z8; obtain ⟨z0, z1, z2, z3, z4, z5, z6, z7, z8⟩ := HZ.out w3 D3.out)
    | (go_at_call 7; (with_reducible refine (KS.out _).mono ?_); rintro e w4 ⟨rfl, hb4⟩; have B4 := hid (below_next B3.out hb4); have D4 := hid (show Below (w.heap.size + 1) (w.alloc (.cells #[.int .i64 s.fmt, .string ⟨s.single.toArray⟩, .string ⟨s.top.toArray⟩, .string ⟨s.first.toArray⟩, .string ⟨s.middle.toArray⟩, .string ⟨s.vert.toArray⟩, .string ⟨s.bottom.toArray⟩, .string ⟨s.newline.toArray⟩, .string ⟨s.pre.toArray⟩] 24)) w4 from D3.out.trans (hb4.mono (by have := D3.out.size; have := DZ; omega))); clear z0 z1 z2 z3 z4 z5 z6 z7 z8; obtain ⟨z0, z1, z2, z3, z4, z5, z6, z7, z8⟩ := HZ.out w4 D4.out)
    | (go_at_call 8; (with_reducible refine (KM.out _ B4.out).mono ?_); rintro e w5 ⟨v5, rfl, hb5, l5, R5, hk5⟩; clear z0 z1 z2 z3 z4 z5 z6 z7 z8; have B5 := hid ((B4.out.alloc B4.out.size (.cells #[.int .i64 1, .string ⟨s.single.toArray⟩, .string ⟨s.top.toArray⟩, .string ⟨s.first.toArray⟩, .string ⟨s.middle.toArray⟩, .string ⟨s.vert.toArray⟩, .string ⟨s.bottom.toArray⟩, .string ⟨s.newline.toArray⟩, .string ⟨s.pre.toArray⟩] 24)).trans (hb5.mono (B4.out.alloc B4.out.size _).size)); have HS5 := hid ((heap_keep (heap_keep (HZB.out w4 D4.out) ((Below.refl _ w4).alloc (Nat.le_refl _) _)) hb5)); have HX5 := hid (heap_keep (HXC.out w4) hb5); have R5 := hid R5; have HK5 := hid hk5; clear hb5 hk5))
  obtain ⟨p, h, t1, t2, t3, t4⟩ := TT.out v5 l5 w5 B5.out R5.out HK5.out
  have T1 := hid t1
  have T2 := hid t2
  have T3 := hid t3
  have T4 := hid t4
  have GRS := hid (fun (w' : World) (hb : Below w5.heap.size w5 w') => (show (w'.cell? ⟨w.heap.size, 0, none⟩ = some (.int .i64 s.fmt) ∧ w'.cell? ⟨w.heap.size, 1, none⟩ = some (.string ⟨s.single.toArray⟩) ∧ w'.cell? ⟨w.heap.size, 2, none⟩ = some (.string ⟨s.top.toArray⟩) ∧ w'.cell? ⟨w.heap.size, 3, none⟩ = some (.string ⟨s.first.toArray⟩) ∧ w'.cell? ⟨w.heap.size, 4, none⟩ = some (.string ⟨s.middle.toArray⟩) ∧ w'.cell? ⟨w.heap.size, 5, none⟩ = some (.string ⟨s.vert.toArray⟩) ∧ w'.cell? ⟨w.heap.size, 6, none⟩ = some (.string ⟨s.bottom.toArray⟩) ∧ w'.cell? ⟨w.heap.size, 7, none⟩ = some (.string ⟨s.newline.toArray⟩) ∧ w'.cell? ⟨w.heap.size, 8, none⟩ = some (.string ⟨s.pre.toArray⟩) ∧ w'.cell? ⟨w4.heap.size, 0, none⟩ = some (.int .i64 1) ∧ w'.cell? ⟨w4.heap.size, 1, none⟩ = some (.string ⟨s.single.toArray⟩) ∧ w'.cell? ⟨w4.heap.size, 2, none⟩ = some (.string ⟨s.top.toArray⟩) ∧ w'.cell? ⟨w4.heap.size, 3, none⟩ = some (.string ⟨s.first.toArray⟩) ∧ w'.cell? ⟨w4.heap.size, 4, none⟩ = some (.string ⟨s.middle.toArray⟩) ∧ w'.cell? ⟨w4.heap.size, 5, none⟩ = some (.string ⟨s.vert.toArray⟩) ∧ w'.cell? ⟨w4.heap.size, 6, none⟩ = some (.string ⟨s.bottom.toArray⟩) ∧ w'.cell? ⟨w4.heap.size, 7, none⟩ = some (.string ⟨s.newline.toArray⟩) ∧ w'.cell? ⟨w4.heap.size, 8, none⟩ = some (.string ⟨s.pre.toArray⟩)) ∧ Below w5.heap.size w5 w' from ⟨⟨blk_cell (heap_keep HS5.out hb) 0, blk_cell (heap_keep HS5.out hb) 1, blk_cell (heap_keep HS5.out hb) 2, blk_cell (heap_keep HS5.out hb) 3, blk_cell (heap_keep HS5.out hb) 4, blk_cell (heap_keep HS5.out hb) 5, blk_cell (heap_keep HS5.out hb) 6, blk_cell (heap_keep HS5.out hb) 7, blk_cell (heap_keep HS5.out hb) 8, blk_cell (heap_keep HX5.out hb) 0, blk_cell (heap_keep HX5.out hb) 1, blk_cell (heap_keep HX5.out hb) 2, blk_cell (heap_keep HX5.out hb) 3, blk_cell (heap_keep HX5.out hb) 4, blk_cell (heap_keep HX5.out hb) 5, blk_cell (heap_keep HX5.out hb) 6, blk_cell (heap_keep HX5.out hb) 7, blk_cell (heap_keep HX5.out hb) 8⟩, hb⟩))
  have HB5 := hid B5.out
  clear t1 t2 t3 t4 TT R5 HK5 HS5 HX5 BA B1 B2 B3 B4 B5 D1 D2 D3 D4 DZ HZ HZB HXC KM
  go_region_held3 (fun w' => (w'.cell? ⟨w.heap.size, 0, none⟩ = some (.int .i64 s.fmt) ∧ w'.cell? ⟨w.heap.size, 1, none⟩ = some (.string ⟨s.single.toArray⟩) ∧ w'.cell? ⟨w.heap.size, 2, none⟩ = some (.string ⟨s.top.toArray⟩) ∧ w'.cell? ⟨w.heap.size, 3, none⟩ = some (.string ⟨s.first.toArray⟩) ∧ w'.cell? ⟨w.heap.size, 4, none⟩ = some (.string ⟨s.middle.toArray⟩) ∧ w'.cell? ⟨w.heap.size, 5, none⟩ = some (.string ⟨s.vert.toArray⟩) ∧ w'.cell? ⟨w.heap.size, 6, none⟩ = some (.string ⟨s.bottom.toArray⟩) ∧ w'.cell? ⟨w.heap.size, 7, none⟩ = some (.string ⟨s.newline.toArray⟩) ∧ w'.cell? ⟨w.heap.size, 8, none⟩ = some (.string ⟨s.pre.toArray⟩) ∧ w'.cell? ⟨w4.heap.size, 0, none⟩ = some (.int .i64 1) ∧ w'.cell? ⟨w4.heap.size, 1, none⟩ = some (.string ⟨s.single.toArray⟩) ∧ w'.cell? ⟨w4.heap.size, 2, none⟩ = some (.string ⟨s.top.toArray⟩) ∧ w'.cell? ⟨w4.heap.size, 3, none⟩ = some (.string ⟨s.first.toArray⟩) ∧ w'.cell? ⟨w4.heap.size, 4, none⟩ = some (.string ⟨s.middle.toArray⟩) ∧ w'.cell? ⟨w4.heap.size, 5, none⟩ = some (.string ⟨s.vert.toArray⟩) ∧ w'.cell? ⟨w4.heap.size, 6, none⟩ = some (.string ⟨s.bottom.toArray⟩) ∧ w'.cell? ⟨w4.heap.size, 7, none⟩ = some (.string ⟨s.newline.toArray⟩) ∧ w'.cell? ⟨w4.heap.size, 8, none⟩ = some (.string ⟨s.pre.toArray⟩)) ∧ Below w5.heap.size w5 w') (first
    | exact GRS.out _ (below_drewQ _)
    | exact GRS.out _ (by assumption))
    (first
    | (go_at_call 11; (with_reducible refine (T1.out _ (And.right ‹_ ∧ Below w5.heap.size w5 _›)).mono ?_); rintro e u0 ⟨rfl, hv0⟩; have hu0 := below_next (And.right ‹_ ∧ Below w5.heap.size w5 _›) hv0)
    | (go_at_call 11; (with_reducible refine (T2.out _ (And.right ‹_ ∧ Below w5.heap.size w5 _›)).mono ?_); rintro e u1 ⟨rfl, hv1⟩; have hu1 := below_next (And.right ‹_ ∧ Below w5.heap.size w5 _›) hv1)
    | (go_at_call 12; (with_reducible refine (T3.out _ (And.right ‹_ ∧ Below w5.heap.size w5 _›)).mono ?_); rintro e u2 ⟨rfl, hv2⟩; have hu2 := below_next (And.right ‹_ ∧ Below w5.heap.size w5 _›) hv2)
    | (go_at_call 12; (with_reducible refine (T4.out _ (And.right ‹_ ∧ Below w5.heap.size w5 _›)).mono ?_); rintro e u3 ⟨rfl, hv3⟩; have hu3 := below_next (And.right ‹_ ∧ Below w5.heap.size w5 _›) hv3)
    | (go_at_call 13; (with_reducible refine (ltAlive_calls _).mono ?_); rintro e u6 ⟨rfl, hv6⟩; have hu6 := below_next (And.right ‹_ ∧ Below w5.heap.size w5 _›) hv6))
  all_goals go_wp2_with fail
  all_goals go_ret
  all_goals exact ⟨rfl, HB5.out.trans (hu6.mono HB5.out.size)⟩

theorem format_m2 (hx : Int.tmod f 4 = 2) (l0 : List Stp) (K1 : Tells w 4 v0 true) (hf : fits14B s = true) (K3 : Tells w 6 v0 true) (hst : lsStyledB s = true) (hs : ShortSt s) (hname : s.name = []) (hfmt : s.fmt = 0) (hnl : s.newline = [10]) (n0 : l0.length ≤ 80) (s0 : ∀ p ∈ l0, StSh p) (r0 : RdSt w v0 l0) (hT : CTab w) : FormatSaid v0 s f w := by
  have K1 := hid K1
  have BA := hid ((Below.refl _ w).alloc (Nat.le_refl _) (.cells #[.int .i64 s.fmt, .string ⟨s.single.toArray⟩, .string ⟨s.top.toArray⟩, .string ⟨s.first.toArray⟩, .string ⟨s.middle.toArray⟩, .string ⟨s.vert.toArray⟩, .string ⟨s.bottom.toArray⟩, .string ⟨s.newline.toArray⟩, .string ⟨s.pre.toArray⟩] 24))
  have HZ := hid (fun (W' : World) (h : Below (w.heap.size + 1) (w.alloc (.cells #[.int .i64 s.fmt, .string ⟨s.single.toArray⟩, .string ⟨s.top.toArray⟩, .string ⟨s.first.toArray⟩, .string ⟨s.middle.toArray⟩, .string ⟨s.vert.toArray⟩, .string ⟨s.bottom.toArray⟩, .string ⟨s.newline.toArray⟩, .string ⟨s.pre.toArray⟩] 24)) W') => show W'.cell? ⟨w.heap.size, 0, none⟩ = some (.int .i64 s.fmt) ∧ W'.cell? ⟨w.heap.size, 1, none⟩ = some (.string ⟨s.single.toArray⟩) ∧ W'.cell? ⟨w.heap.size, 2, none⟩ = some (.string ⟨s.top.toArray⟩) ∧ W'.cell? ⟨w.heap.size, 3, none⟩ = some (.string ⟨s.first.toArray⟩) ∧ W'.cell? ⟨w.heap.size, 4, none⟩ = some (.string ⟨s.middle.toArray⟩) ∧ W'.cell? ⟨w.heap.size, 5, none⟩ = some (.string ⟨s.vert.toArray⟩) ∧ W'.cell? ⟨w.heap.size, 6, none⟩ = some (.string ⟨s.bottom.toArray⟩) ∧ W'.cell? ⟨w.heap.size, 7, none⟩ = some (.string ⟨s.newline.toArray⟩) ∧ W'.cell? ⟨w.heap.size, 8, none⟩ = some (.string ⟨s.pre.toArray⟩) from by
    have hg := (h.block w.heap.size (by omega)).trans (alloc_heap_new w (.cells #[.int .i64 s.fmt, .string ⟨s.single.toArray⟩, .string ⟨s.top.toArray⟩, .string ⟨s.first.toArray⟩, .string ⟨s.middle.toArray⟩, .string ⟨s.vert.toArray⟩, .string ⟨s.bottom.toArray⟩, .string ⟨s.newline.toArray⟩, .string ⟨s.pre.toArray⟩] 24))
    exact ⟨blk_cell hg 0, blk_cell hg 1, blk_cell hg 2, blk_cell hg 3, blk_cell hg 4, blk_cell hg 5, blk_cell hg 6, blk_cell hg 7, blk_cell hg 8⟩)
  have HZB := hid (fun (W' : World) (h : Below (w.heap.size + 1) (w.alloc (.cells #[.int .i64 s.fmt, .string ⟨s.single.toArray⟩, .string ⟨s.top.toArray⟩, .string ⟨s.first.toArray⟩, .string ⟨s.middle.toArray⟩, .string ⟨s.vert.toArray⟩, .string ⟨s.bottom.toArray⟩, .string ⟨s.newline.toArray⟩, .string ⟨s.pre.toArray⟩] 24)) W') => (h.block w.heap.size (by omega)).trans (alloc_heap_new w (.cells #[.int .i64 s.fmt, .string ⟨s.single.toArray⟩, .string ⟨s.top.toArray⟩, .string ⟨s.first.toArray⟩, .string ⟨s.middle.toArray⟩, .string ⟨s.vert.toArray⟩, .string ⟨s.bottom.toArray⟩, .string ⟨s.newline.toArray⟩, .string ⟨s.pre.toArray⟩] 24)))
  have DZ : (w.alloc (.cells #[.int .i64 s.fmt, .string ⟨s.single.toArray⟩, .string ⟨s.top.toArray⟩, .string ⟨s.first.toArray⟩, .string ⟨s.middle.toArray⟩, .string ⟨s.vert.toArray⟩, .string ⟨s.bottom.toArray⟩, .string ⟨s.newline.toArray⟩, .string ⟨s.pre.toArray⟩] 24)).heap.size = w.heap.size + 1 := by simp
  have K14 := hid (zzFits14_calls s)
  rw [hf] at K14
  have K3 := hid K3
  have KS := hid (LsStyled_calls s)
  rw [hst] at KS
  have HXC := hid (fun (W : World) => alloc_heap_new W (.cells #[.int .i64 2, .string ⟨s.single.toArray⟩, .string ⟨s.top.toArray⟩, .string ⟨s.first.toArray⟩, .string ⟨s.middle.toArray⟩, .string ⟨s.vert.toArray⟩, .string ⟨s.bottom.toArray⟩, .string ⟨s.newline.toArray⟩, .string ⟨s.pre.toArray⟩] 24))
  have KM := hid (fun (W4 : World) (hb : Below w.heap.size w W4) => LtMapped_calls (fmtG 2) W4.heap.size l0 v0 (W4.alloc (.cells #[.int .i64 2, .string ⟨s.single.toArray⟩, .string ⟨s.top.toArray⟩, .string ⟨s.first.toArray⟩, .string ⟨s.middle.toArray⟩, .string ⟨s.vert.toArray⟩, .string ⟨s.bottom.toArray⟩, .string ⟨s.newline.toArray⟩, .string ⟨s.pre.toArray⟩] 24)) n0 (fun p hp => ⟨(s0 p hp).2.2.1, (s0 p hp).1, fun t ht => ((s0 p hp).2.2.2 t ht).1⟩)
    (fun t W ht hbW => Clos_calls W4.heap.size 2 t (by omega) W (blk_cell (heap_keep (alloc_heap_new W4 _) hbW) 0) (hT.below ((hb.alloc hb.size _).trans (hbW.mono (hb.alloc hb.size _).size)))) (r0.below (hb.alloc hb.size _)))
  have TT := hid (fun (v5 : Value) (l' : List Stp) (W : World) (hb : Below w.heap.size w W) (r5 : RdSt W v5 l') (hk : l'.map keyP = l0.map (keyM (fmtG 2))) => format_tells 2 l0 l' v0 v5 s W hs hname hfmt hnl n0 s0 (r0.below hb) r5 hk (hT.below hb))
  clear hs hname hfmt hnl s0 r0 hf hst n0 hT
  go_enter Tryd.func3, Tryd.ntmps3
  go_wp2_with (first
    | (go_at_call 4; (with_reducible refine (K1.out _ BA.out).mono ?_); rintro e w1 ⟨rfl, hb1⟩; have B1 := hid (below_next BA.out hb1); have D1 := hid (show Below (w.heap.size + 1) (w.alloc (.cells #[.int .i64 s.fmt, .string ⟨s.single.toArray⟩, .string ⟨s.top.toArray⟩, .string ⟨s.first.toArray⟩, .string ⟨s.middle.toArray⟩, .string ⟨s.vert.toArray⟩, .string ⟨s.bottom.toArray⟩, .string ⟨s.newline.toArray⟩, .string ⟨s.pre.toArray⟩] 24)) w1 from hb1.mono (by first | exact Nat.le_refl _ | simp));  obtain ⟨z0, z1, z2, z3, z4, z5, z6, z7, z8⟩ := HZ.out w1 D1.out)
    | (go_at_call 5; (with_reducible refine (K14.out _).mono ?_); rintro e w2 ⟨rfl, hb2⟩; have B2 := hid (below_next B1.out hb2); have D2 := hid (show Below (w.heap.size + 1) (w.alloc (.cells #[.int .i64 s.fmt, .string ⟨s.single.toArray⟩, .string ⟨s.top.toArray⟩, .string ⟨s.first.toArray⟩, .string ⟨s.middle.toArray⟩, .string ⟨s.vert.toArray⟩, .string ⟨s.bottom.toArray⟩, .string ⟨s.newline.toArray⟩, .string ⟨s.pre.toArray⟩] 24)) w2 from D1.out.trans (hb2.mono (by have := D1.out.size; have := DZ; omega))); clear z0 z1 z2 z3 z4 z5 z6 z7 z8; obtain ⟨z0, z1, z2, z3, z4, z5, z6, z7, z8⟩ := HZ.out w2 D2.out)
    | (go_at_call 6; (with_reducible refine (K3.out _ B2.out).mono ?_); rintro e w3 ⟨rfl, hb3⟩; have B3 := hid (below_next B2.out hb3); have D3 := hid (show Below (w.heap.size + 1) (w.alloc (.cells #[.int .i64 s.fmt, .string ⟨s.single.toArray⟩, .string ⟨s.top.toArray⟩, .string ⟨s.first.toArray⟩, .string ⟨s.middle.toArray⟩, .string ⟨s.vert.toArray⟩, .string ⟨s.bottom.toArray⟩, .string ⟨s.newline.toArray⟩, .string ⟨s.pre.toArray⟩] 24)) w3 from D2.out.trans (hb3.mono (by have := D2.out.size; have := DZ; omega))); clear z0 z1 z2 z3 z4 z5 z6 z7 z8; obtain ⟨z0, z1, z2, z3, z4, z5, z6, z7, z8⟩ := HZ.out w3 D3.out)
    | (go_at_call 7; (with_reducible refine (KS.out _).mono ?_); rintro e w4 ⟨rfl, hb4⟩; have B4 := hid (below_next B3.out hb4); have D4 := hid (show Below (w.heap.size + 1) (w.alloc (.cells #[.int .i64 s.fmt, .string ⟨s.single.toArray⟩, .string ⟨s.top.toArray⟩, .string ⟨s.first.toArray⟩, .string ⟨s.middle.toArray⟩, .string ⟨s.vert.toArray⟩, .string ⟨s.bottom.toArray⟩, .string ⟨s.newline.toArray⟩, .string ⟨s.pre.toArray⟩] 24)) w4 from D3.out.trans (hb4.mono (by have := D3.out.size; have := DZ; omega))); clear z0 z1 z2 z3 z4 z5 z6 z7 z8; obtain ⟨z0, z1, z2, z3, z4, z5, z6, z7, z8⟩ := HZ.out w4 D4.out)
    | (go_at_call 8; (with_reducible refine (KM.out _ B4.out).mono ?_); rintro e w5 ⟨v5, rfl, hb5, l5, R5, hk5⟩; clear z0 z1 z2 z3 z4 z5 z6 z7 z8; have B5 := hid ((B4.out.alloc B4.out.size (.cells #[.int .i64 2, .string ⟨s.single.toArray⟩, .string ⟨s.top.toArray⟩, .string ⟨s.first.toArray⟩, .string ⟨s.middle.toArray⟩, .string ⟨s.vert.toArray⟩, .string ⟨s.bottom.toArray⟩, .string ⟨s.newline.toArray⟩, .string ⟨s.pre.toArray⟩] 24)).trans (hb5.mono (B4.out.alloc B4.out.size _).size)); have HS5 := hid ((heap_keep (heap_keep (HZB.out w4 D4.out) ((Below.refl _ w4).alloc (Nat.le_refl _) _)) hb5)); have HX5 := hid (heap_keep (HXC.out w4) hb5); have R5 := hid R5; have HK5 := hid hk5; clear hb5 hk5))
  obtain ⟨p, h, t1, t2, t3, t4⟩ := TT.out v5 l5 w5 B5.out R5.out HK5.out
  have T1 := hid t1
  have T2 := hid t2
  have T3 := hid t3
  have T4 := hid t4
  have GRS := hid (fun (w' : World) (hb : Below w5.heap.size w5 w') => (show (w'.cell? ⟨w.heap.size, 0, none⟩ = some (.int .i64 s.fmt) ∧ w'.cell? ⟨w.heap.size, 1, none⟩ = some (.string ⟨s.single.toArray⟩) ∧ w'.cell? ⟨w.heap.size, 2, none⟩ = some (.string ⟨s.top.toArray⟩) ∧ w'.cell? ⟨w.heap.size, 3, none⟩ = some (.string ⟨s.first.toArray⟩) ∧ w'.cell? ⟨w.heap.size, 4, none⟩ = some (.string ⟨s.middle.toArray⟩) ∧ w'.cell? ⟨w.heap.size, 5, none⟩ = some (.string ⟨s.vert.toArray⟩) ∧ w'.cell? ⟨w.heap.size, 6, none⟩ = some (.string ⟨s.bottom.toArray⟩) ∧ w'.cell? ⟨w.heap.size, 7, none⟩ = some (.string ⟨s.newline.toArray⟩) ∧ w'.cell? ⟨w.heap.size, 8, none⟩ = some (.string ⟨s.pre.toArray⟩) ∧ w'.cell? ⟨w4.heap.size, 0, none⟩ = some (.int .i64 2) ∧ w'.cell? ⟨w4.heap.size, 1, none⟩ = some (.string ⟨s.single.toArray⟩) ∧ w'.cell? ⟨w4.heap.size, 2, none⟩ = some (.string ⟨s.top.toArray⟩) ∧ w'.cell? ⟨w4.heap.size, 3, none⟩ = some (.string ⟨s.first.toArray⟩) ∧ w'.cell? ⟨w4.heap.size, 4, none⟩ = some (.string ⟨s.middle.toArray⟩) ∧ w'.cell? ⟨w4.heap.size, 5, none⟩ = some (.string ⟨s.vert.toArray⟩) ∧ w'.cell? ⟨w4.heap.size, 6, none⟩ = some (.string ⟨s.bottom.toArray⟩) ∧ w'.cell? ⟨w4.heap.size, 7, none⟩ = some (.string ⟨s.newline.toArray⟩) ∧ w'.cell? ⟨w4.heap.size, 8, none⟩ = some (.string ⟨s.pre.toArray⟩)) ∧ Below w5.heap.size w5 w' from ⟨⟨blk_cell (heap_keep HS5.out hb) 0, blk_cell (heap_keep HS5.out hb) 1, blk_cell (heap_keep HS5.out hb) 2, blk_cell (heap_keep HS5.out hb) 3, blk_cell (heap_keep HS5.out hb) 4, blk_cell (heap_keep HS5.out hb) 5, blk_cell (heap_keep HS5.out hb) 6, blk_cell (heap_keep HS5.out hb) 7, blk_cell (heap_keep HS5.out hb) 8, blk_cell (heap_keep HX5.out hb) 0, blk_cell (heap_keep HX5.out hb) 1, blk_cell (heap_keep HX5.out hb) 2, blk_cell (heap_keep HX5.out hb) 3, blk_cell (heap_keep HX5.out hb) 4, blk_cell (heap_keep HX5.out hb) 5, blk_cell (heap_keep HX5.out hb) 6, blk_cell (heap_keep HX5.out hb) 7, blk_cell (heap_keep HX5.out hb) 8⟩, hb⟩))
  have HB5 := hid B5.out
  clear t1 t2 t3 t4 TT R5 HK5 HS5 HX5 BA B1 B2 B3 B4 B5 D1 D2 D3 D4 DZ HZ HZB HXC KM
  go_region_held3 (fun w' => (w'.cell? ⟨w.heap.size, 0, none⟩ = some (.int .i64 s.fmt) ∧ w'.cell? ⟨w.heap.size, 1, none⟩ = some (.string ⟨s.single.toArray⟩) ∧ w'.cell? ⟨w.heap.size, 2, none⟩ = some (.string ⟨s.top.toArray⟩) ∧ w'.cell? ⟨w.heap.size, 3, none⟩ = some (.string ⟨s.first.toArray⟩) ∧ w'.cell? ⟨w.heap.size, 4, none⟩ = some (.string ⟨s.middle.toArray⟩) ∧ w'.cell? ⟨w.heap.size, 5, none⟩ = some (.string ⟨s.vert.toArray⟩) ∧ w'.cell? ⟨w.heap.size, 6, none⟩ = some (.string ⟨s.bottom.toArray⟩) ∧ w'.cell? ⟨w.heap.size, 7, none⟩ = some (.string ⟨s.newline.toArray⟩) ∧ w'.cell? ⟨w.heap.size, 8, none⟩ = some (.string ⟨s.pre.toArray⟩) ∧ w'.cell? ⟨w4.heap.size, 0, none⟩ = some (.int .i64 2) ∧ w'.cell? ⟨w4.heap.size, 1, none⟩ = some (.string ⟨s.single.toArray⟩) ∧ w'.cell? ⟨w4.heap.size, 2, none⟩ = some (.string ⟨s.top.toArray⟩) ∧ w'.cell? ⟨w4.heap.size, 3, none⟩ = some (.string ⟨s.first.toArray⟩) ∧ w'.cell? ⟨w4.heap.size, 4, none⟩ = some (.string ⟨s.middle.toArray⟩) ∧ w'.cell? ⟨w4.heap.size, 5, none⟩ = some (.string ⟨s.vert.toArray⟩) ∧ w'.cell? ⟨w4.heap.size, 6, none⟩ = some (.string ⟨s.bottom.toArray⟩) ∧ w'.cell? ⟨w4.heap.size, 7, none⟩ = some (.string ⟨s.newline.toArray⟩) ∧ w'.cell? ⟨w4.heap.size, 8, none⟩ = some (.string ⟨s.pre.toArray⟩)) ∧ Below w5.heap.size w5 w') (first
    | exact GRS.out _ (below_drewQ _)
    | exact GRS.out _ (by assumption))
    (first
    | (go_at_call 11; (with_reducible refine (T1.out _ (And.right ‹_ ∧ Below w5.heap.size w5 _›)).mono ?_); rintro e u0 ⟨rfl, hv0⟩; have hu0 := below_next (And.right ‹_ ∧ Below w5.heap.size w5 _›) hv0)
    | (go_at_call 11; (with_reducible refine (T2.out _ (And.right ‹_ ∧ Below w5.heap.size w5 _›)).mono ?_); rintro e u1 ⟨rfl, hv1⟩; have hu1 := below_next (And.right ‹_ ∧ Below w5.heap.size w5 _›) hv1)
    | (go_at_call 12; (with_reducible refine (T3.out _ (And.right ‹_ ∧ Below w5.heap.size w5 _›)).mono ?_); rintro e u2 ⟨rfl, hv2⟩; have hu2 := below_next (And.right ‹_ ∧ Below w5.heap.size w5 _›) hv2)
    | (go_at_call 12; (with_reducible refine (T4.out _ (And.right ‹_ ∧ Below w5.heap.size w5 _›)).mono ?_); rintro e u3 ⟨rfl, hv3⟩; have hu3 := below_next (And.right ‹_ ∧ Below w5.heap.size w5 _›) hv3)
    | (go_at_call 13; (with_reducible refine (ltAlive_calls _).mono ?_); rintro e u6 ⟨rfl, hv6⟩; have hu6 := below_next (And.right ‹_ ∧ Below w5.heap.size w5 _›) hv6))
  all_goals go_wp2_with fail
  all_goals go_ret
  all_goals exact ⟨rfl, HB5.out.trans (hu6.mono HB5.out.size)⟩

theorem format_m3 (hx : Int.tmod f 4 = 3) (l0 : List Stp) (K1 : Tells w 4 v0 true) (hf : fits14B s = true) (K3 : Tells w 6 v0 true) (hst : lsStyledB s = true) (hs : ShortSt s) (hname : s.name = []) (hfmt : s.fmt = 0) (hnl : s.newline = [10]) (n0 : l0.length ≤ 80) (s0 : ∀ p ∈ l0, StSh p) (r0 : RdSt w v0 l0) (hT : CTab w) : FormatSaid v0 s f w := by
  have K1 := hid K1
  have BA := hid ((Below.refl _ w).alloc (Nat.le_refl _) (.cells #[.int .i64 s.fmt, .string ⟨s.single.toArray⟩, .string ⟨s.top.toArray⟩, .string ⟨s.first.toArray⟩, .string ⟨s.middle.toArray⟩, .string ⟨s.vert.toArray⟩, .string ⟨s.bottom.toArray⟩, .string ⟨s.newline.toArray⟩, .string ⟨s.pre.toArray⟩] 24))
  have HZ := hid (fun (W' : World) (h : Below (w.heap.size + 1) (w.alloc (.cells #[.int .i64 s.fmt, .string ⟨s.single.toArray⟩, .string ⟨s.top.toArray⟩, .string ⟨s.first.toArray⟩, .string ⟨s.middle.toArray⟩, .string ⟨s.vert.toArray⟩, .string ⟨s.bottom.toArray⟩, .string ⟨s.newline.toArray⟩, .string ⟨s.pre.toArray⟩] 24)) W') => show W'.cell? ⟨w.heap.size, 0, none⟩ = some (.int .i64 s.fmt) ∧ W'.cell? ⟨w.heap.size, 1, none⟩ = some (.string ⟨s.single.toArray⟩) ∧ W'.cell? ⟨w.heap.size, 2, none⟩ = some (.string ⟨s.top.toArray⟩) ∧ W'.cell? ⟨w.heap.size, 3, none⟩ = some (.string ⟨s.first.toArray⟩) ∧ W'.cell? ⟨w.heap.size, 4, none⟩ = some (.string ⟨s.middle.toArray⟩) ∧ W'.cell? ⟨w.heap.size, 5, none⟩ = some (.string ⟨s.vert.toArray⟩) ∧ W'.cell? ⟨w.heap.size, 6, none⟩ = some (.string ⟨s.bottom.toArray⟩) ∧ W'.cell? ⟨w.heap.size, 7, none⟩ = some (.string ⟨s.newline.toArray⟩) ∧ W'.cell? ⟨w.heap.size, 8, none⟩ = some (.string ⟨s.pre.toArray⟩) from by
    have hg := (h.block w.heap.size (by omega)).trans (alloc_heap_new w (.cells #[.int .i64 s.fmt, .string ⟨s.single.toArray⟩, .string ⟨s.top.toArray⟩, .string ⟨s.first.toArray⟩, .string ⟨s.middle.toArray⟩, .string ⟨s.vert.toArray⟩, .string ⟨s.bottom.toArray⟩, .string ⟨s.newline.toArray⟩, .string ⟨s.pre.toArray⟩] 24))
    exact ⟨blk_cell hg 0, blk_cell hg 1, blk_cell hg 2, blk_cell hg 3, blk_cell hg 4, blk_cell hg 5, blk_cell hg 6, blk_cell hg 7, blk_cell hg 8⟩)
  have HZB := hid (fun (W' : World) (h : Below (w.heap.size + 1) (w.alloc (.cells #[.int .i64 s.fmt, .string ⟨s.single.toArray⟩, .string ⟨s.top.toArray⟩, .string ⟨s.first.toArray⟩, .string ⟨s.middle.toArray⟩, .string ⟨s.vert.toArray⟩, .string ⟨s.bottom.toArray⟩, .string ⟨s.newline.toArray⟩, .string ⟨s.pre.toArray⟩] 24)) W') => (h.block w.heap.size (by omega)).trans (alloc_heap_new w (.cells #[.int .i64 s.fmt, .string ⟨s.single.toArray⟩, .string ⟨s.top.toArray⟩, .string ⟨s.first.toArray⟩, .string ⟨s.middle.toArray⟩, .string ⟨s.vert.toArray⟩, .string ⟨s.bottom.toArray⟩, .string ⟨s.newline.toArray⟩, .string ⟨s.pre.toArray⟩] 24)))
  have DZ : (w.alloc (.cells #[.int .i64 s.fmt, .string ⟨s.single.toArray⟩, .string ⟨s.top.toArray⟩, .string ⟨s.first.toArray⟩, .string ⟨s.middle.toArray⟩, .string ⟨s.vert.toArray⟩, .string ⟨s.bottom.toArray⟩, .string ⟨s.newline.toArray⟩, .string ⟨s.pre.toArray⟩] 24)).heap.size = w.heap.size + 1 := by simp
  have K14 := hid (zzFits14_calls s)
  rw [hf] at K14
  have K3 := hid K3
  have KS := hid (LsStyled_calls s)
  rw [hst] at KS
  have HXC := hid (fun (W : World) => alloc_heap_new W (.cells #[.int .i64 3, .string ⟨s.single.toArray⟩, .string ⟨s.top.toArray⟩, .string ⟨s.first.toArray⟩, .string ⟨s.middle.toArray⟩, .string ⟨s.vert.toArray⟩, .string ⟨s.bottom.toArray⟩, .string ⟨s.newline.toArray⟩, .string ⟨s.pre.toArray⟩] 24))
  have KM := hid (fun (W4 : World) (hb : Below w.heap.size w W4) => LtMapped_calls (fmtG 3) W4.heap.size l0 v0 (W4.alloc (.cells #[.int .i64 3, .string ⟨s.single.toArray⟩, .string ⟨s.top.toArray⟩, .string ⟨s.first.toArray⟩, .string ⟨s.middle.toArray⟩, .string ⟨s.vert.toArray⟩, .string ⟨s.bottom.toArray⟩, .string ⟨s.newline.toArray⟩, .string ⟨s.pre.toArray⟩] 24)) n0 (fun p hp => ⟨(s0 p hp).2.2.1, (s0 p hp).1, fun t ht => ((s0 p hp).2.2.2 t ht).1⟩)
    (fun t W ht hbW => Clos_calls W4.heap.size 3 t (by omega) W (blk_cell (heap_keep (alloc_heap_new W4 _) hbW) 0) (hT.below ((hb.alloc hb.size _).trans (hbW.mono (hb.alloc hb.size _).size)))) (r0.below (hb.alloc hb.size _)))
  have TT := hid (fun (v5 : Value) (l' : List Stp) (W : World) (hb : Below w.heap.size w W) (r5 : RdSt W v5 l') (hk : l'.map keyP = l0.map (keyM (fmtG 3))) => format_tells 3 l0 l' v0 v5 s W hs hname hfmt hnl n0 s0 (r0.below hb) r5 hk (hT.below hb))
  clear hs hname hfmt hnl s0 r0 hf hst n0 hT
  go_enter Tryd.func3, Tryd.ntmps3
  go_wp2_with (first
    | (go_at_call 4; (with_reducible refine (K1.out _ BA.out).mono ?_); rintro e w1 ⟨rfl, hb1⟩; have B1 := hid (below_next BA.out hb1); have D1 := hid (show Below (w.heap.size + 1) (w.alloc (.cells #[.int .i64 s.fmt, .string ⟨s.single.toArray⟩, .string ⟨s.top.toArray⟩, .string ⟨s.first.toArray⟩, .string ⟨s.middle.toArray⟩, .string ⟨s.vert.toArray⟩, .string ⟨s.bottom.toArray⟩, .string ⟨s.newline.toArray⟩, .string ⟨s.pre.toArray⟩] 24)) w1 from hb1.mono (by first | exact Nat.le_refl _ | simp));  obtain ⟨z0, z1, z2, z3, z4, z5, z6, z7, z8⟩ := HZ.out w1 D1.out)
    | (go_at_call 5; (with_reducible refine (K14.out _).mono ?_); rintro e w2 ⟨rfl, hb2⟩; have B2 := hid (below_next B1.out hb2); have D2 := hid (show Below (w.heap.size + 1) (w.alloc (.cells #[.int .i64 s.fmt, .string ⟨s.single.toArray⟩, .string ⟨s.top.toArray⟩, .string ⟨s.first.toArray⟩, .string ⟨s.middle.toArray⟩, .string ⟨s.vert.toArray⟩, .string ⟨s.bottom.toArray⟩, .string ⟨s.newline.toArray⟩, .string ⟨s.pre.toArray⟩] 24)) w2 from D1.out.trans (hb2.mono (by have := D1.out.size; have := DZ; omega))); clear z0 z1 z2 z3 z4 z5 z6 z7 z8; obtain ⟨z0, z1, z2, z3, z4, z5, z6, z7, z8⟩ := HZ.out w2 D2.out)
    | (go_at_call 6; (with_reducible refine (K3.out _ B2.out).mono ?_); rintro e w3 ⟨rfl, hb3⟩; have B3 := hid (below_next B2.out hb3); have D3 := hid (show Below (w.heap.size + 1) (w.alloc (.cells #[.int .i64 s.fmt, .string ⟨s.single.toArray⟩, .string ⟨s.top.toArray⟩, .string ⟨s.first.toArray⟩, .string ⟨s.middle.toArray⟩, .string ⟨s.vert.toArray⟩, .string ⟨s.bottom.toArray⟩, .string ⟨s.newline.toArray⟩, .string ⟨s.pre.toArray⟩] 24)) w3 from D2.out.trans (hb3.mono (by have := D2.out.size; have := DZ; omega))); clear z0 z1 z2 z3 z4 z5 z6 z7 z8; obtain ⟨z0, z1, z2, z3, z4, z5, z6, z7, z8⟩ := HZ.out w3 D3.out)
    | (go_at_call 7; (with_reducible refine (KS.out _).mono ?_); rintro e w4 ⟨rfl, hb4⟩; have B4 := hid (below_next B3.out hb4); have D4 := hid (show Below (w.heap.size + 1) (w.alloc (.cells #[.int .i64 s.fmt, .string ⟨s.single.toArray⟩, .string ⟨s.top.toArray⟩, .string ⟨s.first.toArray⟩, .string ⟨s.middle.toArray⟩, .string ⟨s.vert.toArray⟩, .string ⟨s.bottom.toArray⟩, .string ⟨s.newline.toArray⟩, .string ⟨s.pre.toArray⟩] 24)) w4 from D3.out.trans (hb4.mono (by have := D3.out.size; have := DZ; omega))); clear z0 z1 z2 z3 z4 z5 z6 z7 z8; obtain ⟨z0, z1, z2, z3, z4, z5, z6, z7, z8⟩ := HZ.out w4 D4.out)
    | (go_at_call 8; (with_reducible refine (KM.out _ B4.out).mono ?_); rintro e w5 ⟨v5, rfl, hb5, l5, R5, hk5⟩; clear z0 z1 z2 z3 z4 z5 z6 z7 z8; have B5 := hid ((B4.out.alloc B4.out.size (.cells #[.int .i64 3, .string ⟨s.single.toArray⟩, .string ⟨s.top.toArray⟩, .string ⟨s.first.toArray⟩, .string ⟨s.middle.toArray⟩, .string ⟨s.vert.toArray⟩, .string ⟨s.bottom.toArray⟩, .string ⟨s.newline.toArray⟩, .string ⟨s.pre.toArray⟩] 24)).trans (hb5.mono (B4.out.alloc B4.out.size _).size)); have HS5 := hid ((heap_keep (heap_keep (HZB.out w4 D4.out) ((Below.refl _ w4).alloc (Nat.le_refl _) _)) hb5)); have HX5 := hid (heap_keep (HXC.out w4) hb5); have R5 := hid R5; have HK5 := hid hk5; clear hb5 hk5))
  obtain ⟨p, h, t1, t2, t3, t4⟩ := TT.out v5 l5 w5 B5.out R5.out HK5.out
  have T1 := hid t1
  have T2 := hid t2
  have T3 := hid t3
  have T4 := hid t4
  have GRS := hid (fun (w' : World) (hb : Below w5.heap.size w5 w') => (show (w'.cell? ⟨w.heap.size, 0, none⟩ = some (.int .i64 s.fmt) ∧ w'.cell? ⟨w.heap.size, 1, none⟩ = some (.string ⟨s.single.toArray⟩) ∧ w'.cell? ⟨w.heap.size, 2, none⟩ = some (.string ⟨s.top.toArray⟩) ∧ w'.cell? ⟨w.heap.size, 3, none⟩ = some (.string ⟨s.first.toArray⟩) ∧ w'.cell? ⟨w.heap.size, 4, none⟩ = some (.string ⟨s.middle.toArray⟩) ∧ w'.cell? ⟨w.heap.size, 5, none⟩ = some (.string ⟨s.vert.toArray⟩) ∧ w'.cell? ⟨w.heap.size, 6, none⟩ = some (.string ⟨s.bottom.toArray⟩) ∧ w'.cell? ⟨w.heap.size, 7, none⟩ = some (.string ⟨s.newline.toArray⟩) ∧ w'.cell? ⟨w.heap.size, 8, none⟩ = some (.string ⟨s.pre.toArray⟩) ∧ w'.cell? ⟨w4.heap.size, 0, none⟩ = some (.int .i64 3) ∧ w'.cell? ⟨w4.heap.size, 1, none⟩ = some (.string ⟨s.single.toArray⟩) ∧ w'.cell? ⟨w4.heap.size, 2, none⟩ = some (.string ⟨s.top.toArray⟩) ∧ w'.cell? ⟨w4.heap.size, 3, none⟩ = some (.string ⟨s.first.toArray⟩) ∧ w'.cell? ⟨w4.heap.size, 4, none⟩ = some (.string ⟨s.middle.toArray⟩) ∧ w'.cell? ⟨w4.heap.size, 5, none⟩ = some (.string ⟨s.vert.toArray⟩) ∧ w'.cell? ⟨w4.heap.size, 6, none⟩ = some (.string ⟨s.bottom.toArray⟩) ∧ w'.cell? ⟨w4.heap.size, 7, none⟩ = some (.string ⟨s.newline.toArray⟩) ∧ w'.cell? ⟨w4.heap.size, 8, none⟩ = some (.string ⟨s.pre.toArray⟩)) ∧ Below w5.heap.size w5 w' from ⟨⟨blk_cell (heap_keep HS5.out hb) 0, blk_cell (heap_keep HS5.out hb) 1, blk_cell (heap_keep HS5.out hb) 2, blk_cell (heap_keep HS5.out hb) 3, blk_cell (heap_keep HS5.out hb) 4, blk_cell (heap_keep HS5.out hb) 5, blk_cell (heap_keep HS5.out hb) 6, blk_cell (heap_keep HS5.out hb) 7, blk_cell (heap_keep HS5.out hb) 8, blk_cell (heap_keep HX5.out hb) 0, blk_cell (heap_keep HX5.out hb) 1, blk_cell (heap_keep HX5.out hb) 2, blk_cell (heap_keep HX5.out hb) 3, blk_cell (heap_keep HX5.out hb) 4, blk_cell (heap_keep HX5.out hb) 5, blk_cell (heap_keep HX5.out hb) 6, blk_cell (heap_keep HX5.out hb) 7, blk_cell (heap_keep HX5.out hb) 8⟩, hb⟩))
  have HB5 := hid B5.out
  clear t1 t2 t3 t4 TT R5 HK5 HS5 HX5 BA B1 B2 B3 B4 B5 D1 D2 D3 D4 DZ HZ HZB HXC KM
  go_region_held3 (fun w' => (w'.cell? ⟨w.heap.size, 0, none⟩ = some (.int .i64 s.fmt) ∧ w'.cell? ⟨w.heap.size, 1, none⟩ = some (.string ⟨s.single.toArray⟩) ∧ w'.cell? ⟨w.heap.size, 2, none⟩ = some (.string ⟨s.top.toArray⟩) ∧ w'.cell? ⟨w.heap.size, 3, none⟩ = some (.string ⟨s.first.toArray⟩) ∧ w'.cell? ⟨w.heap.size, 4, none⟩ = some (.string ⟨s.middle.toArray⟩) ∧ w'.cell? ⟨w.heap.size, 5, none⟩ = some (.string ⟨s.vert.toArray⟩) ∧ w'.cell? ⟨w.heap.size, 6, none⟩ = some (.string ⟨s.bottom.toArray⟩) ∧ w'.cell? ⟨w.heap.size, 7, none⟩ = some (.string ⟨s.newline.toArray⟩) ∧ w'.cell? ⟨w.heap.size, 8, none⟩ = some (.string ⟨s.pre.toArray⟩) ∧ w'.cell? ⟨w4.heap.size, 0, none⟩ = some (.int .i64 3) ∧ w'.cell? ⟨w4.heap.size, 1, none⟩ = some (.string ⟨s.single.toArray⟩) ∧ w'.cell? ⟨w4.heap.size, 2, none⟩ = some (.string ⟨s.top.toArray⟩) ∧ w'.cell? ⟨w4.heap.size, 3, none⟩ = some (.string ⟨s.first.toArray⟩) ∧ w'.cell? ⟨w4.heap.size, 4, none⟩ = some (.string ⟨s.middle.toArray⟩) ∧ w'.cell? ⟨w4.heap.size, 5, none⟩ = some (.string ⟨s.vert.toArray⟩) ∧ w'.cell? ⟨w4.heap.size, 6, none⟩ = some (.string ⟨s.bottom.toArray⟩) ∧ w'.cell? ⟨w4.heap.size, 7, none⟩ = some (.string ⟨s.newline.toArray⟩) ∧ w'.cell? ⟨w4.heap.size, 8, none⟩ = some (.string ⟨s.pre.toArray⟩)) ∧ Below w5.heap.size w5 w') (first
    | exact GRS.out _ (below_drewQ _)
    | exact GRS.out _ (by assumption))
    (first
    | (go_at_call 11; (with_reducible refine (T1.out _ (And.right ‹_ ∧ Below w5.heap.size w5 _›)).mono ?_); rintro e u0 ⟨rfl, hv0⟩; have hu0 := below_next (And.right ‹_ ∧ Below w5.heap.size w5 _›) hv0)
    | (go_at_call 11; (with_reducible refine (T2.out _ (And.right ‹_ ∧ Below w5.heap.size w5 _›)).mono ?_); rintro e u1 ⟨rfl, hv1⟩; have hu1 := below_next (And.right ‹_ ∧ Below w5.heap.size w5 _›) hv1)
    | (go_at_call 12; (with_reducible refine (T3.out _ (And.right ‹_ ∧ Below w5.heap.size w5 _›)).mono ?_); rintro e u2 ⟨rfl, hv2⟩; have hu2 := below_next (And.right ‹_ ∧ Below w5.heap.size w5 _›) hv2)
    | (go_at_call 12; (with_reducible refine (T4.out _ (And.right ‹_ ∧ Below w5.heap.size w5 _›)).mono ?_); rintro e u3 ⟨rfl, hv3⟩; have hu3 := below_next (And.right ‹_ ∧ Below w5.heap.size w5 _›) hv3)
    | (go_at_call 13; (with_reducible refine (ltAlive_calls _).mono ?_); rintro e u6 ⟨rfl, hv6⟩; have hu6 := below_next (And.right ‹_ ∧ Below w5.heap.size w5 _›) hv6))
  all_goals go_wp2_with fail
  all_goals go_ret
  all_goals exact ⟨rfl, HB5.out.trans (hu6.mono HB5.out.size)⟩

end

theorem lsStyled_facts {s : Sty} (h : lsStyledB s = true) : ShortSt s ∧ s.fmt = 0 ∧ s.newline = [10] := by
  unfold lsStyledB at h
  simp only [Bool.and_eq_true, List.all_eq_true, decide_eq_true_eq, beq_iff_eq] at h
  obtain ⟨h1, h2, h3, h4⟩ := h
  have g : ∀ t ∈ sty7 s, t.length ≤ 20 := fun t ht => by
    have := h1 t ht
    unfold okT at this
    simp only [Bool.and_eq_true, decide_eq_true_eq] at this
    exact this.1
  exact ⟨⟨g s.single (by simp [sty7]), g s.top (by simp [sty7]), g s.first (by simp [sty7]), g s.middle (by simp [sty7]), g s.vert (by simp [sty7]), g s.bottom (by simp [sty7]), by rw [h4]; decide, g s.pre (by simp [sty7])⟩, h3, h4⟩
theorem right_facts {l : List Stp} (h : rightL l = true) : l.length ≤ 80 ∧ ∀ p ∈ l, StSh p := by
  unfold rightL at h
  simp only [Bool.and_eq_true, List.all_eq_true, decide_eq_true_eq] at h
  refine ⟨h.2, fun p hp => ?_⟩
  have := h.1 p hp
  unfold stR txOk at this
  simp only [Bool.and_eq_true, List.all_eq_true, decide_eq_true_eq] at this
  obtain ⟨⟨a1, a2⟩, a3, a4⟩ := this
  exact ⟨a1, simple_calm _ _ a2, a3, fun t ht => ⟨(a4 t ht).1, simple_calm _ _ (a4 t ht).2⟩⟩
theorem Format_calls (f : Int) (hf : 0 ≤ f ∧ f ≤ 255) (l : List Stp) (A : Option Addr) (c : Nat) (s : Sty) (hname : s.name = []) (w : World) (h : RdSt w (.slice A l.length c) l) (hT : CTab w) :
    FormatSaid (.slice A l.length c) s f w := by
  have K1 : Tells w 4 (.slice A l.length c) (fits11L l) := fun w1 hb => zzFits11L_calls l _ w1 (h.below hb)
  cases h1 : fits11L l with
  | false => rw [h1] at K1; exact format_e1 _ s f w K1
  | true =>
    rw [h1] at K1
    have hm : ∀ p ∈ l, p.text.length ≤ 2147483647 ∧ ∀ t ∈ p.texts, t.length ≤ 2147483647 := fun p hp => by
      unfold fits11L at h1
      simp only [Bool.and_eq_true, List.all_eq_true, decide_eq_true_eq] at h1
      have := h1.2 p hp
      unfold fitSt fits13L at this
      simp only [Bool.and_eq_true, List.all_eq_true, decide_eq_true_eq] at this
      exact ⟨this.1, this.2.2⟩
    cases h14 : fits14B s with
    | false => exact format_e2 _ s f w K1 h14
    | true =>
      have K3 : Tells w 6 (.slice A l.length c) (rightL l) := fun w1 hb => LtRightL_calls l _ w1 (h.below hb) hm
      cases h3 : rightL l with
      | false => rw [h3] at K3; exact format_e3 _ s f w K1 h14 K3
      | true =>
        rw [h3] at K3
        cases hst : lsStyledB s with
        | false => exact format_e4 _ s f w K1 h14 K3 hst
        | true =>
          obtain ⟨hs, hfmt, hnl⟩ := lsStyled_facts hst
          obtain ⟨n0, s0⟩ := right_facts h3
          have hx : Int.tmod f 4 = 0 ∨ Int.tmod f 4 = 1 ∨ Int.tmod f 4 = 2 ∨ Int.tmod f 4 = 3 := by rw [Int.tmod_eq_emod_of_nonneg hf.1]; omega
          rcases hx with hx | hx | hx | hx
          · exact format_m0 _ s f w hx l K1 h14 K3 hst hs hname hfmt hnl n0 s0 h hT
          · exact format_m1 _ s f w hx l K1 h14 K3 hst hs hname hfmt hnl n0 s0 h hT
          · exact format_m2 _ s f w hx l K1 h14 K3 hst hs hname hfmt hnl n0 s0 h hT
          · exact format_m3 _ s f w hx l K1 h14 K3 hst hs hname hfmt hnl n0 s0 h hT

end Go.Proofs.YthjpchabeemfmaaDoor
