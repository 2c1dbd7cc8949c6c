import Derived.Test.YthjpchabeemfmaaGreatDoorGc
import Derived.Deep.Cut
import Derived.Deep.CutRange
import Derived.Deep.DeepCutAuto
namespace Go.Proofs.YthjpchabeemfmaaGreatDoor
open Go.RowKit
set_option linter.unusedVariables false
set_option linter.unusedSimpArgs false
set_option maxHeartbeats 4000000
set_option maxRecDepth 100000
attribute [local go_sem] S_extract S_append run_cut_S run_head_S run_tail_S Nat.add_sub_cancel_left

/-- the style that a list's pointer stands for -/
def StOf (w : World) (base : Nat) (st : Value) (s : Sty) : Prop := (st = .pointer none ∧ s = dfl) ∨ ∃ sb, st = .pointer (some ⟨sb, 0, none⟩) ∧ base ≤ sb ∧ w.heap[sb]? = some (.cells (styCells s) 56 (0, 0))
theorem Style_calls (base b : Nat) (items : List It) (lev : Nat) (cls : List UInt8) (st : Value) (s : Sty) (ap : Int) (sp : ByteArray) (iv : Value) (ps : List Value) (w : World) (hbw : base ≤ w.heap.size) (H : LAt w base b items lev cls st ap sp iv ps) (hs : StOf w base st s) :
    Calls Tryz.prog 53 #[.pointer (some ⟨b, 0, none⟩)] w fun e w' => ∃ sb, e = .returned (.pointer (some ⟨sb, 0, none⟩)) ∧ Below base w w' ∧ Kept w w' ∧ base ≤ sb ∧ w'.heap[sb]? = some (.cells (styCells s) 56 (0, 0)) ∧ LAt w' base b items lev cls (.pointer (some ⟨sb, 0, none⟩)) ap sp iv ps := by
  rcases hs with ⟨rfl, rfl⟩ | ⟨sb, rfl, hsb, hrow⟩
  · exact Style_nil base b items lev cls ap sp iv ps w hbw H
  · have hc5 : w.cell? ⟨b, 5, none⟩ = some (.pointer (some ⟨sb, 0, none⟩)) := blk_cell H.row 5
    go_enter Tryz.func53, Tryz.ntmps53
    go_wp2_with fail
    go_ret
    exact ⟨sb, rfl, Below.refl _ w, Kept.refl w, hsb, hrow, H⟩

def dflClass : List UInt8 := [103, 111, 45, 112, 114, 101, 116, 116, 121, 45, 116, 97, 98, 108, 101]
def clsOf (c : List UInt8) : List UInt8 := if c = [] then dflClass else c

theorem RC_calls (l : List UInt8) (w : World) (h : l.length ≤ 1000000000) : Calls Tryz.prog 55 #[.string ⟨l.toArray⟩] w fun e w' => e = .returned (.int .i64 (Lib.runeCount ⟨l.toArray⟩)) ∧ Below w.heap.size w w' := by
  refine (Tryz.utf8_RuneCountInString ⟨l.toArray⟩ w (by rw [S_size]; omega)).mono ?_
  rintro e w' ⟨rfl, pos, rfl⟩
  exact ⟨rfl, (Below.refl _ w).alloc (Nat.le_refl _) _⟩
theorem rep1 (x : UInt8) (n : Nat) : Lib.repeatL [x] n = List.replicate n x := by
  induction n with
  | zero => rfl
  | succ n ih => simp [Lib.repeatL, List.replicate_succ] at ih ⊢; try exact ih
theorem Spaces_calls (n : Nat) (w : World) (h : n ≤ 1000000000) : Calls Tryz.prog 54 #[.string ⟨#[32]⟩, .int .i64 n] w fun e w' => e = .returned (.string ⟨Array.replicate n 32⟩) ∧ Below w.heap.size w w' := by
  have := Tryz.strings_Repeat ⟨#[32]⟩ n w (by omega) (by simp [ByteArray.size]; omega)
  rw [show (⟨#[32]⟩ : ByteArray).data.toList = [32] from rfl, rep1, List.toArray_replicate] at this
  exact this

theorem LAt.item {w : World} {base b : Nat} {items : List It} {lev : Nat} {cls : List UInt8} {st : Value} {ap : Int} {sp : ByteArray} {iv : Value} {ps : List Value} (H : LAt w base b items lev cls st ap sp iv ps) {k gi : Nat} {it : It} (hk : items[k]? = some it) (hp : ps[k]? = some (.pointer (some ⟨gi, 0, none⟩))) : w.heap[gi]? = some (.cells (itemCells it) 76 (0, 0)) := by
  obtain ⟨g, h1, _, h2⟩ := H.items.2 k it hk
  rw [hp] at h1
  injection h1 with h3
  injection h3 with h4
  injection h4 with h5
  injection h5 with h6
  subst h6
  exact h2
/-- what holds all along while a list is got ready -/
def Init (w wr : World) (base b : Nat) (items : List It) (lev : Nat) (cls : List UInt8) (s : Sty) (sb : Nat) (sp : ByteArray) (iv : Value) (ps : List Value) (M : Int) : Prop :=
  Below base w wr ∧ Kept w wr ∧ wr.heap[sb]? = some (.cells (styCells s) 56 (0, 0)) ∧ ∃ ap, 0 ≤ ap ∧ ap ≤ M ∧ LAt wr base b items lev cls (.pointer (some ⟨sb, 0, none⟩)) ap sp iv ps
/-- a store of the size alone -/
theorem Init.store {w wr w2 : World} {base b : Nat} {items : List It} {lev : Nat} {cls : List UInt8} {s : Sty} {sb : Nat} {sp : ByteArray} {iv : Value} {ps : List Value} {M : Int} (h : Init w wr base b items lev cls s sb sp iv ps M) (hbw : base ≤ wr.heap.size) (hb : Below wr.heap.size wr w2) (n N : Int) (h0 : 0 ≤ n) (hN : n ≤ N) :
    Init w (w2.setCell ⟨b, 0, none⟩ (.int .i64 n)) base b items lev cls s sb sp iv ps N := by
  obtain ⟨h1, h2, h3, ap, _, _, H⟩ := h
  have H2 := H.below hb
  have HP := H2.put (ap' := n) (sp' := sp) (cls' := cls) (lev' := lev) (st' := .pointer (some ⟨sb, 0, none⟩)) 0 (.int .i64 n) rfl
  have h32 := heap_keep h3 hb
  exact ⟨(h1.trans (hb.mono hbw)).trans HP.2.1, (h2.trans (Kept.of_below hb)).trans HP.2.2, heap_set_ne h32 (ty_ne h32 H2.row (by decide)) _, n, h0, hN, HP.1⟩

theorem init_calls (base b : Nat) (items : List It) (lev : Nat) (cls : List UInt8) (st : Value) (s : Sty) (ap : Int) (sp : ByteArray) (iv : Value) (ps : List Value) (w : World) (hbw : base ≤ w.heap.size) (H : LAt w base b items lev cls st ap sp iv ps) (hs : StOf w base st s)
    (hv : s.vert.length ≤ 1000) (hp : s.pre.length ≤ 1000) (hnl : s.newline.length ≤ 1000) (hn : items.length ≤ 5000) (hi : ∀ it ∈ items, it.1 ≤ 1000 ∧ it.2.length ≤ 1000) :
    Calls Tryz.prog 43 #[.pointer (some ⟨b, 0, none⟩)] w fun e w' => e = .returned (.tuple #[]) ∧ Below base w w' ∧ Kept w w' ∧ ∃ sb ap', 0 ≤ ap' ∧ ap' ≤ 10000000000 ∧ base ≤ sb ∧ w'.heap[sb]? = some (.cells (styCells s) 56 (0, 0)) ∧
      LAt w' base b items lev (clsOf cls) (.pointer (some ⟨sb, 0, none⟩)) ap' ⟨Array.replicate (Lib.runeCount ⟨s.vert.toArray⟩) 32⟩ iv ps := by
  have KS := hid (Style_calls base b items lev cls st s ap sp iv ps w hbw H hs)
  obtain ⟨A0, c0, rfl, _⟩ := own_slice H.own
  go_enter Tryz.func43, Tryz.ntmps43
  have hrv : Lib.runeCount ⟨s.vert.toArray⟩ ≤ 1000 := by have := Lib.runeCount_le ⟨s.vert.toArray⟩; rw [S_size] at this; omega
  have KV := hid (fun w => RC_calls s.vert w (by omega))
  have KR := hid (fun w => Spaces_calls (Lib.runeCount ⟨s.vert.toArray⟩) w (by omega))
  go_wp2_with (first
    | (go_at_call 53; (with_reducible refine KS.out.mono ?_); rintro e w1 ⟨sb, rfl, hb1, hk1, hsb, hst, H1⟩; have hs5 : w1.cell? ⟨b, 5, none⟩ = some (.pointer (some ⟨sb, 0, none⟩)) := blk_cell H1.row 5; have hs55 : w1.cell? ⟨sb, 5, none⟩ = some (.string ⟨s.vert.toArray⟩) := blk_cell hst 5)
    | (go_at_call 55; (with_reducible refine (KV.out _).mono ?_); rintro e w2 ⟨rfl, hb2⟩)
    | (go_at_call 54; (with_reducible refine (KR.out _).mono ?_); rintro e w3 ⟨rfl, hb3⟩; replace hb3 := hb2.trans (hb3.mono hb2.size); have H3 := H1.below hb3; have hc31 : w3.cell? ⟨b, 1, none⟩ = some (.string sp) := blk_cell H3.row 1; have hf31 : w3.frozen? ⟨b, 1, none⟩ = false := blk_free H3.row 1; have HP := H3.put (ap' := ap) (sp' := ⟨Array.replicate (Lib.runeCount ⟨s.vert.toArray⟩) 32⟩) (cls' := cls) (lev' := lev) (st' := .pointer (some ⟨sb, 0, none⟩)) 1 (.string ⟨Array.replicate (Lib.runeCount ⟨s.vert.toArray⟩) 32⟩) rfl; have hc40 : (w3.setCell ⟨b, 1, none⟩ (.string ⟨Array.replicate (Lib.runeCount ⟨s.vert.toArray⟩) 32⟩)).cell? ⟨b, 0, none⟩ = some (.int .i64 ap) := blk_cell HP.1.row 0; have hf40 : (w3.setCell ⟨b, 1, none⟩ (.string ⟨Array.replicate (Lib.runeCount ⟨s.vert.toArray⟩) 32⟩)).frozen? ⟨b, 0, none⟩ = false := blk_free HP.1.row 0; have HP2 := HP.1.put (ap' := 0) (sp' := ⟨Array.replicate (Lib.runeCount ⟨s.vert.toArray⟩) 32⟩) (cls' := cls) (lev' := lev) (st' := .pointer (some ⟨sb, 0, none⟩)) 0 (.int .i64 0) rfl; have hc53 : ((w3.setCell ⟨b, 1, none⟩ (.string ⟨Array.replicate (Lib.runeCount ⟨s.vert.toArray⟩) 32⟩)).setCell ⟨b, 0, none⟩ (.int .i64 0)).cell? ⟨b, 3, none⟩ = some (.slice A0 items.length c0) := blk_cell HP2.1.row 3))
  have hI0 : Init w ((w3.setCell ⟨b, 1, none⟩ (.string ⟨Array.replicate (Lib.runeCount ⟨s.vert.toArray⟩) 32⟩)).setCell ⟨b, 0, none⟩ (.int .i64 0)) base b items lev cls s sb ⟨Array.replicate (Lib.runeCount ⟨s.vert.toArray⟩) 32⟩ (.slice A0 items.length c0) ps 0 := by
    have k1 := heap_keep hst hb3
    have k2 := heap_set_ne (i := 1) k1 (ty_ne k1 H3.row (by decide)) (.string ⟨Array.replicate (Lib.runeCount ⟨s.vert.toArray⟩) 32⟩)
    have k3 := heap_set_ne (i := 0) k2 (ty_ne k2 HP.1.row (by decide)) (.int .i64 0)
    exact ⟨(((hb1.trans (hb3.mono (Nat.le_trans hbw hb1.size))).trans HP.2.1).trans HP2.2.1), ((hk1.trans (Kept.of_below hb3)).trans HP.2.2).trans HP2.2.2, k3, 0, by omega, by omega, HP2.1⟩
  clear HP HP2 H3 H1 hb3 hb2 hc31 hf31 hc40 hf40 hst hs5 hs55 KS KV KR hc53 H
  generalize ((w3.setCell ⟨b, 1, none⟩ (.string ⟨Array.replicate (Lib.runeCount ⟨s.vert.toArray⟩) 32⟩)).setCell ⟨b, 0, none⟩ (.int .i64 0)) = W0 at *
  go_loopw [26] (fun u wr => ∃ k : Nat, k ≤ items.length ∧ u = .int .i64 k ∧ Hid (Init w wr base b items lev cls s sb ⟨Array.replicate (Lib.runeCount ⟨s.vert.toArray⟩) 32⟩ (.slice A0 items.length c0) ps (1100000 * k))) (fun u _ => items.length - (intOf u).toNat)
  case atStart => exact ⟨0, by omega, rfl, hid (by simpa using hI0)⟩
  case round =>
    obtain ⟨k, hk, rfl, hI⟩ := hrel
    by_cases hlt : k < items.length
    · obtain ⟨it, hit⟩ : ∃ it, items[k]? = some it := ⟨_, List.getElem?_eq_getElem hlt⟩
      obtain ⟨it1, it2⟩ := hi it (List.mem_of_getElem? hit)
      obtain ⟨hb, hkp, hst, ap1, ha0, haM, HL⟩ := hI.out
      obtain ⟨gr, cr, hv, _, _, _, hcell⟩ := own_cells HL.own (by omega)
      injection hv with hv1 hv2 hv3
      subst hv1 hv3
      obtain ⟨gi, hpi, _, hgi⟩ := HL.items.2 k it hit
      have hck := hcell k _ hpi
      have hlt' : (k : Int) < (items.length : Int) := by omega
      have HIT := hid hit
      have HPI := hid hpi
      clear hcell hit hpi hgi HL hst hb hkp
      go_upto_region 6 with fail
      go_cut [] from 30 to 44 (fun wx => Hid (Init w wx base b items lev cls s sb ⟨Array.replicate (Lib.runeCount ⟨s.vert.toArray⟩) 32⟩ (.slice (some ⟨gr, 0, none⟩) items.length c0) ps (1100000 * k + 1000)))
      case first =>
        have HI := hI.out
        obtain ⟨hb, hkp, hst, ap1, ha0, haM, HL⟩ := hI.out
        have hbs := Nat.le_trans hbw hb.size
        have hc0 : World.cell? _ ⟨b, 0, none⟩ = some (.int .i64 ap1) := blk_cell HL.row 0
        have hc5 : World.cell? _ ⟨b, 5, none⟩ = some (.pointer (some ⟨sb, 0, none⟩)) := blk_cell HL.row 5
        have hs8 : World.cell? _ ⟨sb, 8, none⟩ = some (.string ⟨s.pre.toArray⟩) := blk_cell hst 8
        have hrc : Lib.runeCount ⟨s.pre.toArray⟩ ≤ 1000 := by have := Lib.runeCount_le ⟨s.pre.toArray⟩; rw [S_size] at this; omega
        have KP := hid (fun w => RC_calls s.pre w (by omega))
        go_region_law
          (first
            | (go_simp; go_at_call 55; (with_reducible refine (KP.out _).mono ?_); rintro e w2 ⟨rfl, hb2⟩; replace hb2 := (Below.refl _ _).drew.trans hb2; have hc02 := cell_keep hb2 hc0; have hf02 : World.frozen? w2 ⟨b, 0, none⟩ = false := blk_free (heap_keep HL.row hb2) 0))
        all_goals (try simp (disch := omega) only [IntWalk.i64_in])
        all_goals (go_wp2_with fail; go_meet; exact hid (HI.store hbs hb2 _ _ (by omega) (by omega)))
      case rest =>
        have hI6 := hcut
        clear hcut hI
        obtain ⟨_, _, _, _, _, _, HLx⟩ := hI6.out
        have hg0x : World.cell? _ ⟨gi, 0, none⟩ = some (.int .i64 it.1) := blk_cell (HLx.item HIT.out HPI.out) 0
        clear HLx
        by_cases hlv : 0 < it.1
        · have hlv' : (0 : Int) < (it.1 : Int) := by omega
          go_upto_region 8 with fail
          go_cut [] from 50 to 69 (fun wx => Hid (Init w wx base b items lev cls s sb ⟨Array.replicate (Lib.runeCount ⟨s.vert.toArray⟩) 32⟩ (.slice (some ⟨gr, 0, none⟩) items.length c0) ps (1100000 * k + 1001000)))
          case first =>
            have HI := hI6.out
            obtain ⟨hb, hkp, hst, ap1, ha0, haM, HL⟩ := hI6.out
            have hbs := Nat.le_trans hbw hb.size
            have hc0 : World.cell? _ ⟨b, 0, none⟩ = some (.int .i64 ap1) := blk_cell HL.row 0
            have hc5 : World.cell? _ ⟨b, 5, none⟩ = some (.pointer (some ⟨sb, 0, none⟩)) := blk_cell HL.row 5
            have hgi := HL.item HIT.out HPI.out
            have hs8 : World.cell? _ ⟨sb, 5, none⟩ = some (.string ⟨s.vert.toArray⟩) := blk_cell hst 5
            have hg0 : World.cell? _ ⟨gi, 0, none⟩ = some (.int .i64 it.1) := blk_cell hgi 0
            have hrc : Lib.runeCount ⟨s.vert.toArray⟩ ≤ 1000 := by have := Lib.runeCount_le ⟨s.vert.toArray⟩; rw [S_size] at this; omega
            have hm0 : (0 : Int) ≤ (Lib.runeCount ⟨s.vert.toArray⟩ : Int) * (it.1 : Int) := Int.mul_nonneg (by omega) (by omega)
            have hm1 : (Lib.runeCount ⟨s.vert.toArray⟩ : Int) * (it.1 : Int) ≤ 1000000 := by
              have h2 := Int.ofNat_le.2 (Nat.mul_le_mul hrc it1)
              rw [Int.natCast_mul] at h2
              exact Int.le_trans h2 (by decide)
            have KP := hid (fun w => RC_calls s.vert w (by omega))
            go_region_law
              (first
                | (go_simp; go_at_call 55; (with_reducible refine (KP.out _).mono ?_); rintro e w2 ⟨rfl, hb2⟩; replace hb2 := (Below.refl _ _).drew.trans hb2; have hc02 := cell_keep hb2 hc0; have hf02 : World.frozen? w2 ⟨b, 0, none⟩ = false := blk_free (heap_keep HL.row hb2) 0; have hg02 := cell_keep hb2 hg0))
            all_goals (try simp (disch := omega) only [IntWalk.i64_in])
            all_goals (go_wp2_with fail; go_meet; exact hid (HI.store hbs hb2 _ _ (by omega) (by omega)))
          case rest =>
            have hI8 := hcut
            clear hcut hI6
            go_upto_region 9 with fail
            go_cut [] from 70 to 84 (fun wx => Hid (Init w wx base b items lev cls s sb ⟨Array.replicate (Lib.runeCount ⟨s.vert.toArray⟩) 32⟩ (.slice (some ⟨gr, 0, none⟩) items.length c0) ps (1100000 * k + 1002000)))
            case first =>
              have HI := hI8.out
              obtain ⟨hb, hkp, hst, ap1, ha0, haM, HL⟩ := hI8.out
              have hbs := Nat.le_trans hbw hb.size
              have hc0 : World.cell? _ ⟨b, 0, none⟩ = some (.int .i64 ap1) := blk_cell HL.row 0
              have hc5 : World.cell? _ ⟨b, 5, none⟩ = some (.pointer (some ⟨sb, 0, none⟩)) := blk_cell HL.row 5
              have hs8 : World.cell? _ ⟨sb, 5, none⟩ = some (.string ⟨s.vert.toArray⟩) := blk_cell hst 5
              have hrc : Lib.runeCount ⟨s.vert.toArray⟩ ≤ 1000 := by have := Lib.runeCount_le ⟨s.vert.toArray⟩; rw [S_size] at this; omega
              have KP := hid (fun w => RC_calls s.vert w (by omega))
              go_region_law
                (first
                  | (go_simp; go_at_call 55; (with_reducible refine (KP.out _).mono ?_); rintro e w2 ⟨rfl, hb2⟩; replace hb2 := (Below.refl _ _).drew.trans hb2; have hc02 := cell_keep hb2 hc0; have hf02 : World.frozen? w2 ⟨b, 0, none⟩ = false := blk_free (heap_keep HL.row hb2) 0))
              all_goals (try simp (disch := omega) only [IntWalk.i64_in])
              all_goals (go_wp2_with fail; go_meet; exact hid (HI.store hbs hb2 _ _ (by omega) (by omega)))
            case rest =>
              have hI9 := hcut
              clear hcut hI8
              go_upto_region 10 with fail
              go_cut [] from 85 to 96 (fun wx => Hid (Init w wx base b items lev cls s sb ⟨Array.replicate (Lib.runeCount ⟨s.vert.toArray⟩) 32⟩ (.slice (some ⟨gr, 0, none⟩) items.length c0) ps (1100000 * k + 1003000)))
              case first =>
                have HI := hI9.out
                obtain ⟨hb, hkp, hst, ap1, ha0, haM, HL⟩ := hI9.out
                have hbs := Nat.le_trans hbw hb.size
                have hc0 : World.cell? _ ⟨b, 0, none⟩ = some (.int .i64 ap1) := blk_cell HL.row 0
                have hc5 : World.cell? _ ⟨b, 5, none⟩ = some (.pointer (some ⟨sb, 0, none⟩)) := blk_cell HL.row 5
                have hgi := HL.item HIT.out HPI.out
                have hs8 : World.cell? _ ⟨gi, 1, none⟩ = some (.string ⟨it.2.toArray⟩) := blk_cell hgi 1
                have hrc : Lib.runeCount ⟨it.2.toArray⟩ ≤ 1000 := by have := Lib.runeCount_le ⟨it.2.toArray⟩; rw [S_size] at this; omega
                have KP := hid (fun w => RC_calls it.2 w (by omega))
                go_region_law
                  (first
                    | (go_simp; go_at_call 55; (with_reducible refine (KP.out _).mono ?_); rintro e w2 ⟨rfl, hb2⟩; replace hb2 := (Below.refl _ _).drew.trans hb2; have hc02 := cell_keep hb2 hc0; have hf02 : World.frozen? w2 ⟨b, 0, none⟩ = false := blk_free (heap_keep HL.row hb2) 0))
                all_goals (try simp (disch := omega) only [IntWalk.i64_in])
                all_goals (go_wp2_with fail; go_meet; exact hid (HI.store hbs hb2 _ _ (by omega) (by omega)))
              case rest =>
                have hI10 := hcut
                clear hcut hI9
                go_upto_region 11 with fail
                have HI := hI10.out
                obtain ⟨hb, hkp, hst, ap1, ha0, haM, HL⟩ := hI10.out
                have hbs := Nat.le_trans hbw hb.size
                have hc0 : World.cell? _ ⟨b, 0, none⟩ = some (.int .i64 ap1) := blk_cell HL.row 0
                have hc5 : World.cell? _ ⟨b, 5, none⟩ = some (.pointer (some ⟨sb, 0, none⟩)) := blk_cell HL.row 5
                have hs8 : World.cell? _ ⟨sb, 7, none⟩ = some (.string ⟨s.newline.toArray⟩) := blk_cell hst 7
                have hrc : Lib.runeCount ⟨s.newline.toArray⟩ ≤ 1000 := by have := Lib.runeCount_le ⟨s.newline.toArray⟩; rw [S_size] at this; omega
                have KP := hid (fun w => RC_calls s.newline w (by omega))
                go_region_law
                  (first
                    | (go_simp; go_at_call 55; (with_reducible refine (KP.out _).mono ?_); rintro e w2 ⟨rfl, hb2⟩; replace hb2 := (Below.refl _ _).drew.trans hb2; have hc02 := cell_keep hb2 hc0; have hf02 : World.frozen? w2 ⟨b, 0, none⟩ = false := blk_free (heap_keep HL.row hb2) 0))
                all_goals (try simp (disch := omega) only [IntWalk.i64_in])
                all_goals
                  go_wp2_with fail
                  go_roundw
                  case rel => exact ⟨k + 1, by omega, by go_num, hid (HI.store hbs hb2 _ _ (by omega) (by omega))⟩
                  case measure => simp [intOf]; omega
        · have hlv' : ¬ (0 : Int) < (it.1 : Int) := by omega
          go_upto_region 9 with fail
          go_cut [] from 70 to 84 (fun wx => Hid (Init w wx base b items lev cls s sb ⟨Array.replicate (Lib.runeCount ⟨s.vert.toArray⟩) 32⟩ (.slice (some ⟨gr, 0, none⟩) items.length c0) ps (1100000 * k + 1002000)))
          case first =>
            have HI := hI6.out
            obtain ⟨hb, hkp, hst, ap1, ha0, haM, HL⟩ := hI6.out
            have hbs := Nat.le_trans hbw hb.size
            have hc0 : World.cell? _ ⟨b, 0, none⟩ = some (.int .i64 ap1) := blk_cell HL.row 0
            have hc5 : World.cell? _ ⟨b, 5, none⟩ = some (.pointer (some ⟨sb, 0, none⟩)) := blk_cell HL.row 5
            have hs8 : World.cell? _ ⟨sb, 5, none⟩ = some (.string ⟨s.vert.toArray⟩) := blk_cell hst 5
            have hrc : Lib.runeCount ⟨s.vert.toArray⟩ ≤ 1000 := by have := Lib.runeCount_le ⟨s.vert.toArray⟩; rw [S_size] at this; omega
            have KP := hid (fun w => RC_calls s.vert w (by omega))
            go_region_law
              (first
                | (go_simp; go_at_call 55; (with_reducible refine (KP.out _).mono ?_); rintro e w2 ⟨rfl, hb2⟩; replace hb2 := (Below.refl _ _).drew.trans hb2; have hc02 := cell_keep hb2 hc0; have hf02 : World.frozen? w2 ⟨b, 0, none⟩ = false := blk_free (heap_keep HL.row hb2) 0))
            all_goals (try simp (disch := omega) only [IntWalk.i64_in])
            all_goals (go_wp2_with fail; go_meet; exact hid (HI.store hbs hb2 _ _ (by omega) (by omega)))
          case rest =>
            have hI9 := hcut
            clear hcut hI6
            go_upto_region 10 with fail
            go_cut [] from 85 to 96 (fun wx => Hid (Init w wx base b items lev cls s sb ⟨Array.replicate (Lib.runeCount ⟨s.vert.toArray⟩) 32⟩ (.slice (some ⟨gr, 0, none⟩) items.length c0) ps (1100000 * k + 1003000)))
            case first =>
              have HI := hI9.out
              obtain ⟨hb, hkp, hst, ap1, ha0, haM, HL⟩ := hI9.out
              have hbs := Nat.le_trans hbw hb.size
              have hc0 : World.cell? _ ⟨b, 0, none⟩ = some (.int .i64 ap1) := blk_cell HL.row 0
              have hc5 : World.cell? _ ⟨b, 5, none⟩ = some (.pointer (some ⟨sb, 0, none⟩)) := blk_cell HL.row 5
              have hgi := HL.item HIT.out HPI.out
              have hs8 : World.cell? _ ⟨gi, 1, none⟩ = some (.string ⟨it.2.toArray⟩) := blk_cell hgi 1
              have hrc : Lib.runeCount ⟨it.2.toArray⟩ ≤ 1000 := by have := Lib.runeCount_le ⟨it.2.toArray⟩; rw [S_size] at this; omega
              have KP := hid (fun w => RC_calls it.2 w (by omega))
              go_region_law
                (first
                  | (go_simp; go_at_call 55; (with_reducible refine (KP.out _).mono ?_); rintro e w2 ⟨rfl, hb2⟩; replace hb2 := (Below.refl _ _).drew.trans hb2; have hc02 := cell_keep hb2 hc0; have hf02 : World.frozen? w2 ⟨b, 0, none⟩ = false := blk_free (heap_keep HL.row hb2) 0))
              all_goals (try simp (disch := omega) only [IntWalk.i64_in])
              all_goals (go_wp2_with fail; go_meet; exact hid (HI.store hbs hb2 _ _ (by omega) (by omega)))
            case rest =>
              have hI10 := hcut
              clear hcut hI9
              go_upto_region 11 with fail
              have HI := hI10.out
              obtain ⟨hb, hkp, hst, ap1, ha0, haM, HL⟩ := hI10.out
              have hbs := Nat.le_trans hbw hb.size
              have hc0 : World.cell? _ ⟨b, 0, none⟩ = some (.int .i64 ap1) := blk_cell HL.row 0
              have hc5 : World.cell? _ ⟨b, 5, none⟩ = some (.pointer (some ⟨sb, 0, none⟩)) := blk_cell HL.row 5
              have hs8 : World.cell? _ ⟨sb, 7, none⟩ = some (.string ⟨s.newline.toArray⟩) := blk_cell hst 7
              have hrc : Lib.runeCount ⟨s.newline.toArray⟩ ≤ 1000 := by have := Lib.runeCount_le ⟨s.newline.toArray⟩; rw [S_size] at this; omega
              have KP := hid (fun w => RC_calls s.newline w (by omega))
              go_region_law
                (first
                  | (go_simp; go_at_call 55; (with_reducible refine (KP.out _).mono ?_); rintro e w2 ⟨rfl, hb2⟩; replace hb2 := (Below.refl _ _).drew.trans hb2; have hc02 := cell_keep hb2 hc0; have hf02 : World.frozen? w2 ⟨b, 0, none⟩ = false := blk_free (heap_keep HL.row hb2) 0))
              all_goals (try simp (disch := omega) only [IntWalk.i64_in])
              all_goals
                go_wp2_with fail
                go_roundw
                case rel => exact ⟨k + 1, by omega, by go_num, hid (HI.store hbs hb2 _ _ (by omega) (by omega))⟩
                case measure => simp [intOf]; omega
    · have hk2 : k = items.length := by omega
      have hlt' : ¬ (k : Int) < (items.length : Int) := by omega
      obtain ⟨hb, hkp, hst, ap1, ha0, haM, HL⟩ := hI.out
      have hc2 : wr.cell? ⟨b, 2, none⟩ = some (.string ⟨cls.toArray⟩) := blk_cell HL.row 2
      have hf2 : wr.frozen? ⟨b, 2, none⟩ = false := blk_free HL.row 2
      have HLh := hid HL
      have hsth := hid hst
      clear HL hst hI
      by_cases hcl : cls = []
      · subst hcl
        go_wp2_with fail
        go_end0
        have HP := HLh.out.put (ap' := ap1) (sp' := ⟨Array.replicate (Lib.runeCount ⟨s.vert.toArray⟩) 32⟩) (cls' := dflClass) (lev' := lev) (st' := .pointer (some ⟨sb, 0, none⟩)) 2 (.string ⟨dflClass.toArray⟩) rfl
        exact ⟨rfl, hb.trans HP.2.1, hkp.trans HP.2.2, sb, ap1, ha0, by omega, hsb, heap_set_ne hsth.out (ty_ne hsth.out HLh.out.row (by decide)) _, HP.1⟩
      · have hce : cls.isEmpty = false := by simpa using hcl
        have hcb : (cls == []) = false := by simpa using hcl
        have HC := hid (show clsOf cls = cls by unfold clsOf; rw [if_neg hcl])
        clear hcl
        go_wp2_with fail
        go_end0
        exact ⟨rfl, hb, hkp, sb, ap1, ha0, by omega, hsb, hsth.out, by rw [HC.out]; exact HLh.out⟩
end Go.Proofs.YthjpchabeemfmaaGreatDoor
