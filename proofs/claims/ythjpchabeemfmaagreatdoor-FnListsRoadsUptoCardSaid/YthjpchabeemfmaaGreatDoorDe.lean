import Derived.Test.YthjpchabeemfmaaGreatDoorDd
import Derived.Test.YthjpchabeemfmaaGreatDoorGk
import Derived.Deep.RegionHeld3
namespace Go.Proofs.YthjpchabeemfmaaGreatDoor
open Go.RowKit
set_option linter.unusedVariables false
set_option linter.unusedSimpArgs false
set_option maxHeartbeats 4000000
set_option maxRecDepth 100000
attribute [local go_sem] S_extract S_append run_cut_S run_head_S run_tail_S Nat.add_sub_cancel_left

def prevAt (items : List It) : Nat → Option Nat
  | 0 => none
  | j + 1 => (items[j]?).map (·.1)
theorem bot_eq (items : List It) (k : Nat) (hk : k < items.length) (hn : items.length ≤ 5000) : (((k : Nat) : Int) == IntKind.i64.wrap ((items.length : Int) - 1)) = (items.drop (k + 1)).isEmpty := by
  have e : IntKind.i64.wrap ((items.length : Int) - 1) = (items.length : Int) - 1 := by rw [IntKind.wrap_i64]; omega
  rw [e, Bool.eq_iff_iff]
  simp only [beq_iff_eq, List.isEmpty_iff, List.drop_eq_nil_iff]
  omega
theorem hint_zero {items : List It} {x : It} (hx : items[0]? = some x) (hn : items.length ≤ 5000) : hintF (prevAt items 0) x (items.drop (0 + 1)) = ⟨true, true, true && !moreF x.1 items.tail, !moreF x.1 items.tail, (0 : Int) == IntKind.i64.wrap ((items.length : Int) - 1)⟩ := by
  have h0 := (List.getElem?_eq_some_iff.1 hx).1
  have := bot_eq items 0 h0 hn
  unfold hintF prevAt
  simp only [Option.isNone_none]
  rw [show (0 : Int) = ((0 : Nat) : Int) from rfl, this]
  simp [List.drop_one]
theorem hint_succ {items : List It} {x y : It} {j : Nat} (hx : items[j + 1]? = some x) (hy : items[j]? = some y) (hn : items.length ≤ 5000) : hintF (prevAt items (j + 1)) x (items.drop (j + 1 + 1)) = ⟨false, decide (y.1 < x.1), decide (y.1 < x.1) && !moreF x.1 (items.drop (j + 1 + 1)), !moreF x.1 (items.drop (j + 1 + 1)), ((j : Int) + 1) == IntKind.i64.wrap ((items.length : Int) - 1)⟩ := by
  have h0 := (List.getElem?_eq_some_iff.1 hx).1
  have := bot_eq items (j + 1) h0 hn
  have e : prevAt items (j + 1) = some y.1 := by simp [prevAt, hy]
  unfold hintF
  rw [e]
  simp only [Option.isNone_some]
  rw [show ((j : Int) + 1) = ((j + 1 : Nat) : Int) from rfl, this]
/-- a store into a hint -/
theorem RB.hintSet {w0 w : World} {base b bb sb : Nat} {items : List It} {lev : Nat} {cls : List UInt8} {s : Sty} {ap : Int} {sp : List UInt8} {iv : Value} {ps : List Value} {acc : List UInt8} (h : RB w0 w base b bb sb items lev cls s ap sp iv ps acc) {g : Nat} {cs : Array Value} {fz : Nat × Nat} (hg : w.heap[g]? = some (.cells cs 79 fz)) (hb : base ≤ g) (h0 : w0.heap.size ≤ g) (i : Nat) (u : Value) :
    RB w0 (w.setCell ⟨g, i, none⟩ u) base b bb sb items lev cls s ap sp iv ps acc := by
  have go : ∀ (k : Nat) (cs' : Array Value) (t : Nat) (fz' : Nat × Nat), w.heap[k]? = some (.cells cs' t fz') → t ≠ 79 → (w.setCell ⟨g, i, none⟩ u).heap[k]? = some (.cells cs' t fz') := fun k cs' t fz' hk ht => heap_set_ne hk (ty_ne hk hg ht) _
  have H := h.lb.list
  refine ⟨⟨⟨go _ _ _ _ H.row (by decide), H.le, own_step H.own fun k hk => ?_, H.items.1, fun j x hx => ?_⟩, h.lb.bld.keep fun k o hk hko => ?_, h.lb.below.trans ((Below.refl _ w).setCell hb _), by simpa using h.lb.size⟩, go _ _ _ _ h.sty (by decide), fun k cs' t fz' hk a1 a2 => ?_⟩
  · obtain ⟨C, fz', hC⟩ := own_typed H.own k hk
    exact (go _ _ _ _ hC (by decide)).trans hC.symm
  · obtain ⟨gi, h1, h2, h3⟩ := H.items.2 j x hx
    exact ⟨gi, h1, h2, go _ _ _ _ h3 (by decide)⟩
  · rcases hko with rfl | ⟨c, fz', rfl⟩
    · obtain ⟨cs', fz', hbb⟩ := h.lb.bld.block
      rw [hbb] at hk
      injection hk with hk
      subst hk
      exact go _ _ _ _ hbb (by decide)
    · exact go _ _ _ _ hk (by decide)
  · refine heap_set_ne (h.kept _ _ _ _ hk a1 a2) (fun e => ?_) _
    have := heap_lt hk
    omega

/-- what a list's Render keeps: blocks of all other types, and the list's own -/
def KeepM (w w' : World) : Prop := ∀ (g : Nat) (cs : Array Value) (t : Nat) (fz : Nat × Nat), w.heap[g]? = some (.cells cs t fz) → t ≠ 66 → t ≠ 74 → t ≠ 72 → t ≠ 5 → w'.heap[g]? = some (.cells cs t fz)
def ListRow (w : World) (b : Nat) : Prop := ∃ ap sp cls iv lev st, w.heap[b]? = some (.cells (LRow ap sp cls iv lev st) 66 (0, 0))
theorem Render_more (base b : Nat) (items : List It) (lev : Nat) (cls : List UInt8) (st : Value) (s : Sty) (ap : Int) (sp : ByteArray) (iv : Value) (ps : List Value) (w : World) (hbw : base ≤ w.heap.size) (H : LAt w base b items lev cls st ap sp iv ps) (hs : StOf w base st s)
    (hv : s.vert.length ≤ 1000) (hp : s.pre.length ≤ 1000) (hnl : s.newline.length ≤ 1000) (hn : items.length ≤ 5000) (hi : ∀ it ∈ items, it.1 ≤ 1000 ∧ it.2.length ≤ 1000) (hfmt : s.fmt = 0) (htl : ∀ it ∈ items, (textF s it.2).length ≤ 1000000000) (hlen : (renderF s items).length ≤ 100000000000) :
    Calls Tryz.prog 29 #[.pointer (some ⟨b, 0, none⟩)] w fun e w' => e = .returned (.string ⟨(renderF s items).toArray⟩) ∧ Below base w w' ∧ KeepM w w' ∧ ListRow w' b := by
  have KI := hid (init_calls base b items lev cls st s ap sp iv ps w hbw H hs hv hp hnl hn hi)
  obtain ⟨A0, c0, rfl, _⟩ := own_slice H.own
  have HI := hid hi
  have HTL := hid htl
  have HSP := hid (show (⟨Array.replicate (Lib.runeCount ⟨s.vert.toArray⟩) 32⟩ : ByteArray) = ⟨(spacesF s).toArray⟩ by simp [spacesF])
  obtain ⟨U, hU⟩ : ∃ U, U = renderF s items := ⟨_, rfl⟩
  have HU := hid hU
  rw [← hU] at hlen ⊢
  have HLEN := hid hlen
  have HFM := hid hfmt
  clear H hs hi htl hU hfmt
  go_enter Tryz.func29, Tryz.ntmps29
  go_wp2_with (first
    | (go_at_call 43; (with_reducible refine KI.out.mono ?_); rintro e w1 ⟨rfl, hb1, hk1, sb, ap1, ha0, ha1, hsb, hst, H1⟩; have hap : w1.cell? ⟨b, 0, none⟩ = some (.int .i64 ap1) := blk_cell H1.row 0; have hapa := cell_keep ((Below.refl _ w1).alloc (Nat.le_refl _) (.cells #[.pointer none, .slice none 0 0] 72)) hap; have KG := hid (Grow_calls w1 ap1 ha0 (by omega)); have HH1 := hid H1; have HST := hid hst; have HK1 := hid hk1; clear H1 hst hk1)
    | (go_at_call 44; (with_reducible refine KG.out.mono ?_); rintro e w2 ⟨rfl, hB, hb2, hz2⟩; have H2 := HH1.out.below hb2; rw [HSP.out] at H2; have HR : RB w2 w2 base b w1.heap.size sb items lev (clsOf cls) s ap1 (spacesF s) (.slice A0 items.length c0) ps [] := ⟨⟨H2, hB.lower (Nat.le_trans hbw hb1.size), Below.refl _ _, Nat.le_trans hbw (Nat.le_trans hb1.size hb2.size)⟩, heap_keep HST.out hb2, KeepB.refl _⟩; have h32 : w2.cell? ⟨b, 3, none⟩ = some (.slice A0 items.length c0) := blk_cell H2.row 3; have hbT := hid (hb1.trans (hb2.mono (Nat.le_trans hbw hb1.size))); have HK2 := hid (fun (g : Nat) (cs : Array Value) (t : Nat) (fz : Nat × Nat) (h0 : w.heap[g]? = some (.cells cs t fz)) (a1 : t ≠ 66) (a2 : t ≠ 74) => heap_keep (HK1.out g cs t fz h0 a1 a2) hb2); clear H2 hB hb2 HK1))
  clear KI KG HH1 HST h32 hap hapa
  go_loopw [19] (fun v wr => ∃ (k : Nat) (acc2 : List UInt8), v = .int .i64 k ∧ k ≤ items.length ∧ RB w2 wr base b w1.heap.size sb items lev (clsOf cls) s ap1 (spacesF s) (.slice A0 items.length c0) ps acc2 ∧ Hid (acc2 ++ outF s (spacesF s) (prevAt items k) (items.drop k) = U)) (fun v _ => items.length - (intOf v).toNat)
  case atStart => exact ⟨0, [], rfl, Nat.zero_le _, HR, hid (by rw [HU.out]; rfl)⟩
  case round =>
    obtain ⟨k, acc2, rfl, hk, HBr, hT⟩ := hrel
    clear HR
    by_cases hlt : k < items.length
    · have hlt' : (k : Int) < (items.length : Int) := by omega
      obtain ⟨x, hx⟩ : ∃ x, items[k]? = some x := ⟨_, List.getElem?_eq_getElem hlt⟩
      obtain ⟨gx, hpx, _, _⟩ := HBr.lb.list.items.2 k x hx
      obtain ⟨gr, cr, hv2, _, _, _, _⟩ := own_cells HBr.lb.list.own (by omega)
      injection hv2 with hv21 hv22 hv23
      subst hv21 hv23
      have q3 : wr.cell? ⟨b, 3, none⟩ = some (.slice (some ⟨gr, 0, none⟩) items.length c0) := blk_cell HBr.lb.list.row 3
      have qp : wr.cell? ⟨gr, k, none⟩ = some (.pointer (some ⟨gx, 0, none⟩)) := HBr.lb.list.cellAt hpx
      have qx0 : wr.cell? ⟨gx, 0, none⟩ = some (.int .i64 x.1) := blk_cell (HBr.lb.list.itemAt hx hpx) 0
      obtain ⟨hx1, hx2⟩ := HI.out x (List.mem_of_getElem? hx)
      have KM := hid (fun w' (H : LAt w' base b items lev (clsOf cls) (.pointer (some ⟨sb, 0, none⟩)) ap1 ⟨(spacesF s).toArray⟩ (.slice (some ⟨gr, 0, none⟩) items.length c0) ps) => more_calls base b items lev _ _ ap1 _ _ ps w' H (by omega) (fun it hit => by have := (HI.out it hit).1; omega) x.1 k (by omega) (by omega))
      have HLat := hid HBr.lb.list
      have HBR := hid HBr
      have HBB := hid (Nat.le_trans HBr.lb.size (Nat.le_refl wr.heap.size))
      have HW2 := hid HBr.lb.below.size
      have HX := hid hx
      have HPX := hid hpx
      have htx := HTL.out x (List.mem_of_getElem? hx)
      go_upto_region 7 with (fail)
      go_cut [6] from 24 to 62 (fun c6 wx => ∃ (top first last bot : Bool), c6 = .pointer (some ⟨wr.heap.size, 0, none⟩) ∧ Hid (hintF (prevAt items k) x (items.drop (k + 1)) = ⟨top, first, first && last, last, bot⟩) ∧ Hid (RB w2 wx base b w1.heap.size sb items lev (clsOf cls) s ap1 (spacesF s) (.slice (some ⟨gr, 0, none⟩) items.length c0) ps acc2 ∧ wx.heap[wr.heap.size]? = some (.cells #[.bool top, .bool first, .bool false, .bool last, .bool bot] 79 (0, 0))))
      case first =>
        clear hT HTL HSP HU HBr hlen HLEN hlt' hp hnl hv hpx HFM hbT
        cases k with
        | zero =>
          have ez : ((0 : Nat) : Int) = 0 := rfl
          have KM2 := hid (fun w' H => show Calls Tryz.prog 45 #[.pointer (some ⟨b, 0, none⟩), .int .i64 x.1, .int .i64 0] w' (fun e w'' => e = .returned (.bool (moreF x.1 (items.drop (0 + 1)))) ∧ w' = w'') from KM.out w' H)
          have HZ := hid (hint_zero hx hn)
          clear KM hx hx1 hx2 hk htx
          try simp only [ez]
          refine wp_region_held_drew (S := fun w' => w'.cell? ⟨b, 3, none⟩ = some (.slice (some ⟨gr, 0, none⟩) items.length c0) ∧ w'.cell? ⟨gx, 0, none⟩ = some (.int .i64 x.1)) (by kernel_rfl) (by first | go_keep) (fun hHeld => ?_)
          refine wpAnyH_take (i := 0) (oi := _) (v := ?_) rfl (by kernel_rfl) (by kernel_rfl) (by kernel_rfl) (fun _ _ _ h => h) (Or.inl ⟨by rfl, by intro w hSw; (try dsimp only at hSw); first | (go_simp; done) | (go_simp; with_reducible rfl)⟩) (by assumption) ?_
          simp only [Act.put, List.getElem_toArray, List.getElem_cons_zero, List.getElem_cons_succ, List.setIfInBounds_toArray, List.set_cons_zero, List.set_cons_succ]
          refine wpAnyH_take (i := 1) (oi := _) (v := ?_) rfl (by kernel_rfl) (by kernel_rfl) (by kernel_rfl) (fun _ _ _ h => h) (Or.inl ⟨by rfl, by intro w hSw; (try dsimp only at hSw); first | (go_simp; done) | (go_simp; with_reducible rfl)⟩) (by assumption) ?_
          simp only [Act.put, List.getElem_toArray, List.getElem_cons_zero, List.getElem_cons_succ, List.setIfInBounds_toArray, List.set_cons_zero, List.set_cons_succ]
          refine wpAnyH_take (i := 2) (oi := _) (v := ?_) rfl (by kernel_rfl) (by kernel_rfl) (by kernel_rfl) (fun _ _ _ h => h) (Or.inl ⟨by rfl, by intro w hSw; (try dsimp only at hSw); first | (go_simp; done) | (go_simp; with_reducible rfl)⟩) (by assumption) ?_
          simp only [Act.put, List.getElem_toArray, List.getElem_cons_zero, List.getElem_cons_succ, List.setIfInBounds_toArray, List.set_cons_zero, List.set_cons_succ]
          refine wpAnyH_take (i := 3) (oi := _) (v := ?_) rfl (by kernel_rfl) (by kernel_rfl) (by kernel_rfl) (fun _ _ _ h => h) (Or.inl ⟨by rfl, by intro w hSw; (try dsimp only at hSw); first | (go_simp; done) | (go_simp; with_reducible rfl)⟩) (by assumption) ?_
          simp only [Act.put, List.getElem_toArray, List.getElem_cons_zero, List.getElem_cons_succ, List.setIfInBounds_toArray, List.set_cons_zero, List.set_cons_succ]
          refine wpAnyH_take (i := 4) (oi := _) (v := ?_) rfl (by kernel_rfl) (by kernel_rfl) (by kernel_rfl) (fun _ _ _ h => h) (Or.inl ⟨by rfl, by intro w hSw; (try dsimp only at hSw); first | (go_simp; done) | (go_simp; with_reducible rfl)⟩) (by assumption) ?_
          simp only [Act.put, List.getElem_toArray, List.getElem_cons_zero, List.getElem_cons_succ, List.setIfInBounds_toArray, List.set_cons_zero, List.set_cons_succ]
          refine wpAnyH_take (i := 5) (oi := _) (v := undef) rfl (by kernel_rfl) (by kernel_rfl) (by kernel_rfl) (fun _ _ _ h => h) (Or.inr ⟨by rfl, rfl⟩) (by assumption) ?_
          simp only [Act.put, List.getElem_toArray, List.getElem_cons_zero, List.getElem_cons_succ, List.setIfInBounds_toArray, List.set_cons_zero, List.set_cons_succ]
          refine wpAnyH_take (i := 6) (oi := _) (v := undef) rfl (by kernel_rfl) (by kernel_rfl) (by kernel_rfl) (fun _ _ _ h => h) (Or.inr ⟨by rfl, rfl⟩) (by assumption) ?_
          simp only [Act.put, List.getElem_toArray, List.getElem_cons_zero, List.getElem_cons_succ, List.setIfInBounds_toArray, List.set_cons_zero, List.set_cons_succ]
          refine wpAnyH_take (i := 7) (oi := _) (v := undef) rfl (by kernel_rfl) (by kernel_rfl) (by kernel_rfl) (fun _ _ _ h => h) (Or.inr ⟨by rfl, rfl⟩) (by assumption) ?_
          simp only [Act.put, List.getElem_toArray, List.getElem_cons_zero, List.getElem_cons_succ, List.setIfInBounds_toArray, List.set_cons_zero, List.set_cons_succ]
          refine wpAnyH_take (i := 8) (oi := _) (v := undef) rfl (by kernel_rfl) (by kernel_rfl) (by kernel_rfl) (fun _ _ _ h => h) (Or.inr ⟨by rfl, rfl⟩) (by assumption) ?_
          simp only [Act.put, List.getElem_toArray, List.getElem_cons_zero, List.getElem_cons_succ, List.setIfInBounds_toArray, List.set_cons_zero, List.set_cons_succ]
          refine wpAnyH_take (i := 9) (oi := _) (v := undef) rfl (by kernel_rfl) (by kernel_rfl) (by kernel_rfl) (fun _ _ _ h => h) (Or.inr ⟨by rfl, rfl⟩) (by assumption) ?_
          simp only [Act.put, List.getElem_toArray, List.getElem_cons_zero, List.getElem_cons_succ, List.setIfInBounds_toArray, List.set_cons_zero, List.set_cons_succ]
          refine wpAnyH_take (i := 10) (oi := _) (v := undef) rfl (by kernel_rfl) (by kernel_rfl) (by kernel_rfl) (fun _ _ _ h => h) (Or.inr ⟨by rfl, rfl⟩) (by assumption) ?_
          simp only [Act.put, List.getElem_toArray, List.getElem_cons_zero, List.getElem_cons_succ, List.setIfInBounds_toArray, List.set_cons_zero, List.set_cons_succ]
          refine wpAnyH_take (i := 11) (oi := _) (v := undef) rfl (by kernel_rfl) (by kernel_rfl) (by kernel_rfl) (fun _ _ _ h => h) (Or.inr ⟨by rfl, rfl⟩) (by assumption) ?_
          simp only [Act.put, List.getElem_toArray, List.getElem_cons_zero, List.getElem_cons_succ, List.setIfInBounds_toArray, List.set_cons_zero, List.set_cons_succ]
          refine wpAnyH_take (i := 12) (oi := _) (v := undef) rfl (by kernel_rfl) (by kernel_rfl) (by kernel_rfl) (fun _ _ _ h => h) (Or.inr ⟨by rfl, rfl⟩) (by assumption) ?_
          simp only [Act.put, List.getElem_toArray, List.getElem_cons_zero, List.getElem_cons_succ, List.setIfInBounds_toArray, List.set_cons_zero, List.set_cons_succ]
          refine wpAnyH_take (i := 13) (oi := _) (v := undef) rfl (by kernel_rfl) (by kernel_rfl) (by kernel_rfl) (fun _ _ _ h => h) (Or.inr ⟨by rfl, rfl⟩) (by assumption) ?_
          simp only [Act.put, List.getElem_toArray, List.getElem_cons_zero, List.getElem_cons_succ, List.setIfInBounds_toArray, List.set_cons_zero, List.set_cons_succ]
          refine wpAnyH_take (i := 14) (oi := _) (v := undef) rfl (by kernel_rfl) (by kernel_rfl) (by kernel_rfl) (fun _ _ _ h => h) (Or.inr ⟨by rfl, rfl⟩) (by assumption) ?_
          simp only [Act.put, List.getElem_toArray, List.getElem_cons_zero, List.getElem_cons_succ, List.setIfInBounds_toArray, List.set_cons_zero, List.set_cons_succ]
          refine wpAnyH_take (i := 15) (oi := _) (v := undef) rfl (by kernel_rfl) (by kernel_rfl) (by kernel_rfl) (fun _ _ _ h => h) (Or.inr ⟨by rfl, rfl⟩) (by assumption) ?_
          simp only [Act.put, List.getElem_toArray, List.getElem_cons_zero, List.getElem_cons_succ, List.setIfInBounds_toArray, List.set_cons_zero, List.set_cons_succ]
          refine wpAnyH_take (i := 16) (oi := _) (v := undef) rfl (by kernel_rfl) (by kernel_rfl) (by kernel_rfl) (fun _ _ _ h => h) (Or.inr ⟨by rfl, rfl⟩) (by assumption) ?_
          simp only [Act.put, List.getElem_toArray, List.getElem_cons_zero, List.getElem_cons_succ, List.setIfInBounds_toArray, List.set_cons_zero, List.set_cons_succ]
          refine wpAnyH_take (i := 17) (oi := _) (v := undef) rfl (by kernel_rfl) (by kernel_rfl) (by kernel_rfl) (fun _ _ _ h => h) (Or.inr ⟨by rfl, rfl⟩) (by assumption) ?_
          simp only [Act.put, List.getElem_toArray, List.getElem_cons_zero, List.getElem_cons_succ, List.setIfInBounds_toArray, List.set_cons_zero, List.set_cons_succ]
          refine wpAnyH_take (i := 18) (oi := _) (v := undef) rfl (by kernel_rfl) (by kernel_rfl) (by kernel_rfl) (fun _ _ _ h => h) (Or.inr ⟨by rfl, rfl⟩) (by assumption) ?_
          simp only [Act.put, List.getElem_toArray, List.getElem_cons_zero, List.getElem_cons_succ, List.setIfInBounds_toArray, List.set_cons_zero, List.set_cons_succ]
          refine wpAnyH_take (i := 19) (oi := _) (v := undef) rfl (by kernel_rfl) (by kernel_rfl) (by kernel_rfl) (fun _ _ _ h => h) (Or.inr ⟨by rfl, rfl⟩) (by assumption) ?_
          simp only [Act.put, List.getElem_toArray, List.getElem_cons_zero, List.getElem_cons_succ, List.setIfInBounds_toArray, List.set_cons_zero, List.set_cons_succ]
          refine wpAnyH_take (i := 20) (oi := _) (v := undef) rfl (by kernel_rfl) (by kernel_rfl) (by kernel_rfl) (fun _ _ _ h => h) (Or.inr ⟨by rfl, rfl⟩) (by assumption) ?_
          simp only [Act.put, List.getElem_toArray, List.getElem_cons_zero, List.getElem_cons_succ, List.setIfInBounds_toArray, List.set_cons_zero, List.set_cons_succ]
          refine wpAnyH_take (i := 21) (oi := _) (v := ?_) rfl (by kernel_rfl) (by kernel_rfl) (by kernel_rfl) (fun _ _ _ h => h) (Or.inl ⟨by rfl, by intro w hSw; (try dsimp only at hSw); first | (go_simp; done) | (go_simp; with_reducible rfl)⟩) (by assumption) ?_
          simp only [Act.put, List.getElem_toArray, List.getElem_cons_zero, List.getElem_cons_succ, List.setIfInBounds_toArray, List.set_cons_zero, List.set_cons_succ]
          refine wpAnyH_take (i := 22) (oi := _) (v := ?_) rfl (by kernel_rfl) (by kernel_rfl) (by kernel_rfl) (fun _ _ _ h => h) (Or.inl ⟨by rfl, by intro w hSw; (try dsimp only at hSw); first | (go_simp; done) | (go_simp; with_reducible rfl)⟩) (by assumption) ?_
          simp only [Act.put, List.getElem_toArray, List.getElem_cons_zero, List.getElem_cons_succ, List.setIfInBounds_toArray, List.set_cons_zero, List.set_cons_succ]
          refine wpAnyH_take (i := 23) (oi := _) (v := ?_) rfl (by kernel_rfl) (by kernel_rfl) (by kernel_rfl) (fun _ _ _ h => h) (Or.inl ⟨by rfl, by intro w hSw; (try dsimp only at hSw); first | (go_simp; done) | (go_simp; with_reducible rfl)⟩) (by assumption) ?_
          simp only [Act.put, List.getElem_toArray, List.getElem_cons_zero, List.getElem_cons_succ, List.setIfInBounds_toArray, List.set_cons_zero, List.set_cons_succ]
          refine wpAnyH_take (i := 24) (oi := _) (v := ?_) rfl (by kernel_rfl) (by kernel_rfl) (by kernel_rfl) (fun _ _ _ h => h) (Or.inl ⟨by rfl, by intro w hSw; (try dsimp only at hSw); first | (go_simp; done) | (go_simp; with_reducible rfl)⟩) (by assumption) ?_
          simp only [Act.put, List.getElem_toArray, List.getElem_cons_zero, List.getElem_cons_succ, List.setIfInBounds_toArray, List.set_cons_zero, List.set_cons_succ]
          refine wpAnyH_take (i := 25) (oi := _) (v := ?_) rfl (by kernel_rfl) (by kernel_rfl) (by kernel_rfl) (fun _ _ _ h => h) (Or.inl ⟨by rfl, by intro w hSw; (try dsimp only at hSw); first | (go_simp; done) | (go_simp; with_reducible rfl)⟩) (by assumption) ?_
          simp only [Act.put, List.getElem_toArray, List.getElem_cons_zero, List.getElem_cons_succ, List.setIfInBounds_toArray, List.set_cons_zero, List.set_cons_succ]
          refine wpAnyH_take (i := 26) (oi := _) (v := ?_) rfl (by kernel_rfl) (by kernel_rfl) (by kernel_rfl) (fun _ _ _ h => h) (Or.inl ⟨by rfl, by intro w hSw; (try dsimp only at hSw); first | (go_simp; done) | (go_simp; with_reducible rfl)⟩) (by assumption) ?_
          simp only [Act.put, List.getElem_toArray, List.getElem_cons_zero, List.getElem_cons_succ, List.setIfInBounds_toArray, List.set_cons_zero, List.set_cons_succ]
          refine wpAnyH_take (i := 27) (oi := _) (v := ?_) rfl (by kernel_rfl) (by kernel_rfl) (by kernel_rfl) (fun _ _ _ h => h) (Or.inl ⟨by rfl, by intro w hSw; (try dsimp only at hSw); first | (go_simp; done) | (go_simp; with_reducible rfl)⟩) (by assumption) ?_
          simp only [Act.put, List.getElem_toArray, List.getElem_cons_zero, List.getElem_cons_succ, List.setIfInBounds_toArray, List.set_cons_zero, List.set_cons_succ]
          refine wpAnyH_take (i := 30) (oi := _) (v := ?_) rfl (by kernel_rfl) (by kernel_rfl) (by kernel_rfl) (fun _ _ _ h => h) (Or.inl ⟨by rfl, by intro w hSw; (try dsimp only at hSw); first | (go_simp; done) | (go_simp; with_reducible rfl)⟩) (by assumption) ?_
          simp only [Act.put, List.getElem_toArray, List.getElem_cons_zero, List.getElem_cons_succ, List.setIfInBounds_toArray, List.set_cons_zero, List.set_cons_succ]
          refine wpAnyH_take (i := 31) (oi := _) (v := ?_) rfl (by kernel_rfl) (by kernel_rfl) (by kernel_rfl) (fun _ _ _ h => h) (Or.inl ⟨by rfl, by intro w hSw; (try dsimp only at hSw); first | (go_simp; done) | (go_simp; with_reducible rfl)⟩) (by assumption) ?_
          simp only [Act.put, List.getElem_toArray, List.getElem_cons_zero, List.getElem_cons_succ, List.setIfInBounds_toArray, List.set_cons_zero, List.set_cons_succ]
          refine wpAnyH_take (i := 32) (oi := _) (v := ?_) rfl (by kernel_rfl) (by kernel_rfl) (by kernel_rfl) (fun _ _ _ h => h) (Or.inl ⟨by rfl, by intro w hSw; (try dsimp only at hSw); first | (go_simp; done) | (go_simp; with_reducible rfl)⟩) (by assumption) ?_
          simp only [Act.put, List.getElem_toArray, List.getElem_cons_zero, List.getElem_cons_succ, List.setIfInBounds_toArray, List.set_cons_zero, List.set_cons_succ]
          refine wpAnyH_take (i := 33) (oi := _) (v := ?_) rfl (by kernel_rfl) (by kernel_rfl) (by kernel_rfl) (fun _ _ _ h => h) (Or.inl ⟨by rfl, by intro w hSw; (try dsimp only at hSw); first | (go_simp; done) | (go_simp; with_reducible rfl)⟩) (by assumption) ?_
          simp only [Act.put, List.getElem_toArray, List.getElem_cons_zero, List.getElem_cons_succ, List.setIfInBounds_toArray, List.set_cons_zero, List.set_cons_succ]
          refine wpAnyH_take (i := 34) (oi := _) (v := ?_) rfl (by kernel_rfl) (by kernel_rfl) (by kernel_rfl) (fun _ _ _ h => h) (Or.inl ⟨by rfl, by intro w hSw; (try dsimp only at hSw); first | (go_simp; done) | (go_simp; with_reducible rfl)⟩) (by assumption) ?_
          simp only [Act.put, List.getElem_toArray, List.getElem_cons_zero, List.getElem_cons_succ, List.setIfInBounds_toArray, List.set_cons_zero, List.set_cons_succ]
          refine wpAnyH_take (i := 35) (oi := _) (v := ?_) rfl (by kernel_rfl) (by kernel_rfl) (by kernel_rfl) (fun _ _ _ h => h) (Or.inl ⟨by rfl, by intro w hSw; (try dsimp only at hSw); first | (go_simp; done) | (go_simp; with_reducible rfl)⟩) (by assumption) ?_
          simp only [Act.put, List.getElem_toArray, List.getElem_cons_zero, List.getElem_cons_succ, List.setIfInBounds_toArray, List.set_cons_zero, List.set_cons_succ]
          refine wpAnyH_take (i := 36) (oi := _) (v := ?_) rfl (by kernel_rfl) (by kernel_rfl) (by kernel_rfl) (fun _ _ _ h => h) (Or.inl ⟨by rfl, by intro w hSw; (try dsimp only at hSw); first | (go_simp; done) | (go_simp; with_reducible rfl)⟩) (by assumption) ?_
          simp only [Act.put, List.getElem_toArray, List.getElem_cons_zero, List.getElem_cons_succ, List.setIfInBounds_toArray, List.set_cons_zero, List.set_cons_succ]
          refine wpAnyH_take (i := 37) (oi := _) (v := ?_) rfl (by kernel_rfl) (by kernel_rfl) (by kernel_rfl) (fun _ _ _ h => h) (Or.inl ⟨by rfl, by intro w hSw; (try dsimp only at hSw); first | (go_simp; done) | (go_simp; with_reducible rfl)⟩) (by assumption) ?_
          simp only [Act.put, List.getElem_toArray, List.getElem_cons_zero, List.getElem_cons_succ, List.setIfInBounds_toArray, List.set_cons_zero, List.set_cons_succ]
          refine wpAnyH_ready (rs := [28, 39]) (by kernel_rfl) (by simp) ?_
          refine AllReadyH.cons (o := _) rfl (fun K hK => ?_) (AllReadyH.cons (o := _) rfl (fun K hK => ?_) AllReadyH.nil)
          · try simp only [List.getElem_toArray, List.getElem_cons_zero, List.getElem_cons_succ]
            go_simp
            (go_at_call 45; (with_reducible refine (KM2.out _ (HLat.out.below (by first | exact (Below.refl _ _).drew | exact ((Below.refl _ _).alloc (Nat.le_refl _) _).drew))).mono ?_); rintro e wn ⟨rfl, rfl⟩)
            try (go_wp2_with fail)
            refine hK.out _ _ ?_ (fun hHeld => ?_)
            · go_keep
            clear hK K
            try simp only [Act.put, List.getElem_toArray, List.getElem_cons_zero, List.getElem_cons_succ, List.setIfInBounds_toArray, List.set_cons_zero, List.set_cons_succ]
            refine wpAnyH_take (i := 29) (oi := _) (v := ?_) rfl (by kernel_rfl) (by kernel_rfl) (by kernel_rfl) (fun _ _ _ h => h) (Or.inl ⟨by rfl, by intro w hSw; (try dsimp only at hSw); first | (go_simp; done) | (go_simp; with_reducible rfl)⟩) (by assumption) ?_
            simp only [Act.put, List.getElem_toArray, List.getElem_cons_zero, List.getElem_cons_succ, List.setIfInBounds_toArray, List.set_cons_zero, List.set_cons_succ]
            refine wpAnyH_take (i := 38) (oi := _) (v := ?_) rfl (by kernel_rfl) (by kernel_rfl) (by kernel_rfl) (fun _ _ _ h => h) (Or.inl ⟨by rfl, by intro w hSw; (try dsimp only at hSw); first | (go_simp; done) | (go_simp; with_reducible rfl)⟩) (by assumption) ?_
            simp only [Act.put, List.getElem_toArray, List.getElem_cons_zero, List.getElem_cons_succ, List.setIfInBounds_toArray, List.set_cons_zero, List.set_cons_succ]
            refine wpAnyH_ready (rs := [39]) (by kernel_rfl) (by simp) ?_
            refine AllReadyH.cons (o := _) rfl (fun K hK => ?_) AllReadyH.nil
            try simp only [List.getElem_toArray, List.getElem_cons_zero, List.getElem_cons_succ]
            go_simp
            refine hK.out _ _ ?_ (fun hHeld => ?_)
            · go_keep
            clear hK K
            try simp only [Act.put, List.getElem_toArray, List.getElem_cons_zero, List.getElem_cons_succ, List.setIfInBounds_toArray, List.set_cons_zero, List.set_cons_succ]
            refine wpAnyH_ready (rs := [40]) (by kernel_rfl) (by simp) ?_
            refine AllReadyH.cons (o := _) rfl (fun K hK => ?_) AllReadyH.nil
            try simp only [List.getElem_toArray, List.getElem_cons_zero, List.getElem_cons_succ]
            go_simp
            refine hK.out _ _ ?_ (fun hHeld => ?_)
            · go_keep
            clear hK K
            try simp only [Act.put, List.getElem_toArray, List.getElem_cons_zero, List.getElem_cons_succ, List.setIfInBounds_toArray, List.set_cons_zero, List.set_cons_succ]
            refine wpAnyH_done (by kernel_rfl) ?_ _
            go_wp2_with fail
            go_meet
            exact ⟨true, true, !moreF x.1 items.tail, _, rfl, HZ, hid ⟨(HBR.out.call (((Below.refl _ wr).alloc (Nat.le_refl _) _).drew)), heap_keep (alloc_heap_new wr _) (Below.refl _ _).drew⟩⟩
          · try simp only [List.getElem_toArray, List.getElem_cons_zero, List.getElem_cons_succ]
            go_simp
            refine hK.out _ _ ?_ (fun hHeld => ?_)
            · go_keep
            clear hK K
            try simp only [Act.put, List.getElem_toArray, List.getElem_cons_zero, List.getElem_cons_succ, List.setIfInBounds_toArray, List.set_cons_zero, List.set_cons_succ]
            refine wpAnyH_ready (rs := [28]) (by kernel_rfl) (by simp) ?_
            refine AllReadyH.cons (o := _) rfl (fun K hK => ?_) AllReadyH.nil
            try simp only [List.getElem_toArray, List.getElem_cons_zero, List.getElem_cons_succ]
            go_simp
            (go_at_call 45; (with_reducible refine (KM2.out _ (HLat.out.below (by first | exact (Below.refl _ _).drew | exact ((Below.refl _ _).alloc (Nat.le_refl _) _).drew))).mono ?_); rintro e wn ⟨rfl, rfl⟩)
            try (go_wp2_with fail)
            refine hK.out _ _ ?_ (fun hHeld => ?_)
            · go_keep
            clear hK K
            try simp only [Act.put, List.getElem_toArray, List.getElem_cons_zero, List.getElem_cons_succ, List.setIfInBounds_toArray, List.set_cons_zero, List.set_cons_succ]
            refine wpAnyH_take (i := 29) (oi := _) (v := ?_) rfl (by kernel_rfl) (by kernel_rfl) (by kernel_rfl) (fun _ _ _ h => h) (Or.inl ⟨by rfl, by intro w hSw; (try dsimp only at hSw); first | (go_simp; done) | (go_simp; with_reducible rfl)⟩) (by assumption) ?_
            simp only [Act.put, List.getElem_toArray, List.getElem_cons_zero, List.getElem_cons_succ, List.setIfInBounds_toArray, List.set_cons_zero, List.set_cons_succ]
            refine wpAnyH_take (i := 38) (oi := _) (v := ?_) rfl (by kernel_rfl) (by kernel_rfl) (by kernel_rfl) (fun _ _ _ h => h) (Or.inl ⟨by rfl, by intro w hSw; (try dsimp only at hSw); first | (go_simp; done) | (go_simp; with_reducible rfl)⟩) (by assumption) ?_
            simp only [Act.put, List.getElem_toArray, List.getElem_cons_zero, List.getElem_cons_succ, List.setIfInBounds_toArray, List.set_cons_zero, List.set_cons_succ]
            refine wpAnyH_ready (rs := [40]) (by kernel_rfl) (by simp) ?_
            refine AllReadyH.cons (o := _) rfl (fun K hK => ?_) AllReadyH.nil
            try simp only [List.getElem_toArray, List.getElem_cons_zero, List.getElem_cons_succ]
            go_simp
            refine hK.out _ _ ?_ (fun hHeld => ?_)
            · go_keep
            clear hK K
            try simp only [Act.put, List.getElem_toArray, List.getElem_cons_zero, List.getElem_cons_succ, List.setIfInBounds_toArray, List.set_cons_zero, List.set_cons_succ]
            refine wpAnyH_done (by kernel_rfl) ?_ _
            go_wp2_with fail
            go_meet
            exact ⟨true, true, !moreF x.1 items.tail, _, rfl, HZ, hid ⟨(HBR.out.call (((Below.refl _ wr).alloc (Nat.le_refl _) _).drew)), heap_keep (alloc_heap_new wr _) (Below.refl _ _).drew⟩⟩
        | succ j =>
          obtain ⟨y, hy⟩ : ∃ y, items[j]? = some y := ⟨_, List.getElem?_eq_getElem (by omega)⟩
          obtain ⟨gy, hpy, _, _⟩ := HLat.out.items.2 j y hy
          have qpy : wr.cell? ⟨gr, j, none⟩ = some (.pointer (some ⟨gy, 0, none⟩)) := HLat.out.cellAt hpy
          have qy0 : wr.cell? ⟨gy, 0, none⟩ = some (.int .i64 y.1) := blk_cell (HLat.out.itemAt hy hpy) 0
          have e0 : (((j + 1 : Nat) : Int) == 0) = false := by rw [beq_eq_false_iff_ne]; omega
          have e1 : IntKind.i64.wrap (((j + 1 : Nat) : Int) - 1) = (j : Int) := by rw [IntKind.wrap_i64]; omega
          have e1b : IntKind.i64.wrap ((j : Int) + 1 - 1) = (j : Int) := by rw [IntKind.wrap_i64]; omega
          have e1c : IntKind.i64.wrap (j : Int) = (j : Int) := by rw [IntKind.wrap_i64]; omega
          have e0b : (((j : Int) + 1) == 0) = false := by rw [beq_eq_false_iff_ne]; omega
          have e2 : (j : Int) < (items.length : Int) := by omega
          have e3 : (0 : Int) ≤ (j : Int) := by omega
          have e4 : ((j : Int)).toNat = j := rfl
          have e5 : ((j + 1 : Nat) : Int) = (j : Int) + 1 := rfl
          have KM2 := hid (fun w' H => show Calls Tryz.prog 45 #[.pointer (some ⟨b, 0, none⟩), .int .i64 x.1, .int .i64 ((j : Int) + 1)] w' (fun e w'' => e = .returned (.bool (moreF x.1 (items.drop (j + 1 + 1)))) ∧ w' = w'') from KM.out w' H)
          have HZ := hid (hint_succ hx hy hn)
          clear KM hx hx1 hx2 hk hy hpy htx
          simp only [e5]
          go_region_held3 (fun w' => w'.cell? ⟨b, 3, none⟩ = some (.slice (some ⟨gr, 0, none⟩) items.length c0) ∧ w'.cell? ⟨gx, 0, none⟩ = some (.int .i64 x.1) ∧ w'.cell? ⟨gr, j, none⟩ = some (.pointer (some ⟨gy, 0, none⟩)) ∧ w'.cell? ⟨gy, 0, none⟩ = some (.int .i64 y.1))
            (first | go_keep)
            ((go_at_call 45; (with_reducible refine (KM2.out _ (HLat.out.below (by first | exact (Below.refl _ _).drew | exact ((Below.refl _ _).alloc (Nat.le_refl _) _).drew))).mono ?_); rintro e wn ⟨rfl, rfl⟩))
          all_goals
            go_wp2_with fail
            go_meet
            exact ⟨false, decide (y.1 < x.1), !moreF x.1 (items.drop (j + 1 + 1)), _, rfl, HZ, hid ⟨(HBR.out.call (((Below.refl _ wr).alloc (Nat.le_refl _) _).drew)), heap_keep (alloc_heap_new wr _) (Below.refl _ _).drew⟩⟩
      case rest =>
        obtain ⟨top, first, last, bot, rfl, HH, HQ⟩ := hcut
        obtain ⟨HBx, HHx⟩ := HQ.out
        clear HQ HBr q3 qp qx0 KM HLat HBR
        have HP := hid (show (prevAt items k).isSome = decide (0 < k) by
          cases k with
          | zero => rfl
          | succ j =>
            obtain ⟨y, hy⟩ : ∃ y, items[j]? = some y := ⟨_, List.getElem?_eq_getElem (by omega)⟩
            simp [prevAt, hy])
        have HIt := hid (show itemF s (spacesF s) (prevAt items k) x (items.drop (k + 1)) = (if 0 < k then [10] else []) ++ linesF s (spacesF s) ⟨top, first, first && last, last, bot⟩ (aheadF s (spacesF s) x (items.drop (k + 1))) 0 (splitN (textF s x.2)) by
          unfold itemF
          rw [HH.out, HP.out]
          simp)
        have HT2 := hid (show (acc2 ++ ((if 0 < k then [10] else []) ++ linesF s (spacesF s) ⟨top, first, first && last, last, bot⟩ (aheadF s (spacesF s) x (items.drop (k + 1))) 0 (splitN (textF s x.2)))) ++ outF s (spacesF s) (prevAt items (k + 1)) (items.drop (k + 1)) = U by
          have hd : items.drop k = x :: items.drop (k + 1) := by rw [List.drop_eq_getElem_cons hlt, (List.getElem?_eq_some_iff.1 HX.out).2]
          have hq : prevAt items (k + 1) = some x.1 := by simp [prevAt, HX.out]
          rw [← hT.out, hd, outF, HIt.out, hq]
          simp)
        have hle : (acc2 ++ ((if 0 < k then [10] else []) ++ linesF s (spacesF s) ⟨top, first, first && last, last, bot⟩ (aheadF s (spacesF s) x (items.drop (k + 1))) 0 (splitN (textF s x.2)))).length ≤ 100000000000 := by
          have h1 := congrArg List.length HT2.out
          have h2 := HLEN.out
          rw [List.length_append] at h1
          omega
        have KIt := hid (fun w' (hl' : (acc2 ++ ((if 0 < k then [10] else []) ++ linesF s (spacesF s) ⟨top, first, first && last, last, bot⟩ (aheadF s (spacesF s) x (items.drop (k + 1))) 0 (splitN (textF s x.2)))).length ≤ 100000000000) (H : RB w2 w' base b w1.heap.size sb items lev (clsOf cls) s ap1 (spacesF s) (.slice (some ⟨gr, 0, none⟩) items.length c0) ps acc2) => by
          have := item_calls w2 base b w1.heap.size sb items lev (clsOf cls) s ap1 (spacesF s) _ ps acc2 w' hn HI.out HFM.out hnl ⟨top, first, first && last, last, bot⟩ k x gx HX.out HPX.out htx hl' H
          unfold Hint.val at this
          exact this)
        have HL2 := hid hle
        clear hT HH HIt hle HTL htx
        generalize acc2 ++ ((if 0 < k then [10] else []) ++ linesF s (spacesF s) ⟨top, first, first && last, last, bot⟩ (aheadF s (spacesF s) x (items.drop (k + 1))) 0 (splitN (textF s x.2))) = acc3 at *
        have m1 : wc.cell? ⟨wr.heap.size, 1, none⟩ = some (.bool first) := blk_cell HHx 1
        have m3 : wc.cell? ⟨wr.heap.size, 3, none⟩ = some (.bool last) := blk_cell HHx 3
        by_cases hfl : first = true ∧ last = true
        · obtain ⟨rfl, rfl⟩ := hfl
          have f2 : wc.frozen? ⟨wr.heap.size, 2, none⟩ = false := blk_free HHx 2
          have m2 : wc.cell? ⟨wr.heap.size, 2, none⟩ = some (.bool false) := blk_cell HHx 2
          have HBy := HBx.hintSet HHx HBB.out HW2.out 2 (.bool true)
          have HHy := blk_set HHx 2 (.bool true)
          have y0 : (wc.setCell ⟨wr.heap.size, 2, none⟩ (.bool true)).cell? ⟨wr.heap.size, 0, none⟩ = some (.bool top) := blk_cell HHy 0
          have y1 : (wc.setCell ⟨wr.heap.size, 2, none⟩ (.bool true)).cell? ⟨wr.heap.size, 1, none⟩ = some (.bool true) := blk_cell HHy 1
          have y2 : (wc.setCell ⟨wr.heap.size, 2, none⟩ (.bool true)).cell? ⟨wr.heap.size, 2, none⟩ = some (.bool true) := blk_cell HHy 2
          have y3 : (wc.setCell ⟨wr.heap.size, 2, none⟩ (.bool true)).cell? ⟨wr.heap.size, 3, none⟩ = some (.bool true) := blk_cell HHy 3
          have y4 : (wc.setCell ⟨wr.heap.size, 2, none⟩ (.bool true)).cell? ⟨wr.heap.size, 4, none⟩ = some (.bool bot) := blk_cell HHy 4
          simp only [Bool.and_true] at KIt
          clear HHx HHy
          go_wp2_with (first
            | (go_at_call 46; (with_reducible refine (KIt.out _ HL2.out HBy).mono ?_); rintro e wn ⟨rfl, HBn⟩))
          go_roundw
          case rel => exact ⟨k + 1, _, by go_num, by omega, HBn, HT2⟩
          case measure => simp [intOf]; omega
        · have n0 : wc.cell? ⟨wr.heap.size, 0, none⟩ = some (.bool top) := blk_cell HHx 0
          have n2 : wc.cell? ⟨wr.heap.size, 2, none⟩ = some (.bool false) := blk_cell HHx 2
          have n4 : wc.cell? ⟨wr.heap.size, 4, none⟩ = some (.bool bot) := blk_cell HHx 4
          clear HHx
          cases first with
          | true =>
            cases last with
            | true => exact absurd ⟨rfl, rfl⟩ hfl
            | false =>
              simp only [Bool.and_false] at KIt
              clear hfl
              go_wp2_with (first
                | (go_at_call 46; (with_reducible refine (KIt.out _ HL2.out HBx).mono ?_); rintro e wn ⟨rfl, HBn⟩))
              go_roundw
              case rel => exact ⟨k + 1, _, by go_num, by omega, HBn, HT2⟩
              case measure => simp [intOf]; omega
          | false =>
            simp only [Bool.false_and] at KIt
            clear hfl
            cases last
            all_goals
              go_wp2_with (first
                | (go_at_call 46; (with_reducible refine (KIt.out _ HL2.out HBx).mono ?_); rintro e wn ⟨rfl, HBn⟩))
              go_roundw
              case rel => exact ⟨k + 1, _, by go_num, by omega, HBn, HT2⟩
              case measure => simp [intOf]; omega
    · have hlt' : ¬ (k : Int) < (items.length : Int) := by omega
      have HF := hid (show acc2 = U by
        have := hT.out
        rw [List.drop_eq_nil_of_le (show items.length ≤ k by omega), outF, List.append_nil] at this
        exact this)
      have KR := hid (render_more base b w1.heap.size acc2 wr HBr.lb.bld HBr.lb.size)
      have hbU := hid HBr.lb.below
      have HEND := hid (fun (w4 : World) (ho : Lib.OthersKept 5 (some w1.heap.size) wr w4) => (by
        obtain ⟨cs0, fz0, hbb⟩ := HBr.lb.bld.block
        have hk : KeepB wr w4 := fun g cs' t fz' h0 a1 a2 => ho g _ h0 (fun e => by injection e with e; exact ty_ne h0 hbb a1 e) (fun c fz'' e => by injection e with _ e2 _; exact a2 e2)
        exact ⟨fun g cs t fz h0 a1 a2 a3 a4 => hk g cs t fz (HBr.kept g cs t fz (HK2.out g cs t fz h0 a1 a2) a3 a4) a3 a4, _, _, _, _, _, _, hk b _ _ _ HBr.lb.list.row (by decide) (by decide)⟩ : KeepM w w4 ∧ ListRow w4 b))
      clear hT
      go_wp2_with (go_at_call 47; (with_reducible refine KR.out.mono ?_); rintro e w4 ⟨rfl, hb4, ho4⟩; have HE4 := hid (HEND.out _ ho4); clear ho4)
      go_ret
      rw [← HF.out]
      exact ⟨rfl, (hbT.out.trans hbU.out).trans hb4, HE4.out⟩
theorem Render_calls (base b : Nat) (items : List It) (lev : Nat) (cls : List UInt8) (st : Value) (s : Sty) (ap : Int) (sp : ByteArray) (iv : Value) (ps : List Value) (w : World) (hbw : base ≤ w.heap.size) (H : LAt w base b items lev cls st ap sp iv ps) (hs : StOf w base st s)
    (hv : s.vert.length ≤ 1000) (hp : s.pre.length ≤ 1000) (hnl : s.newline.length ≤ 1000) (hn : items.length ≤ 5000) (hi : ∀ it ∈ items, it.1 ≤ 1000 ∧ it.2.length ≤ 1000) (hfmt : s.fmt = 0) (htl : ∀ it ∈ items, (textF s it.2).length ≤ 1000000000) (hlen : (renderF s items).length ≤ 100000000000) :
    Calls Tryz.prog 29 #[.pointer (some ⟨b, 0, none⟩)] w fun e w' => e = .returned (.string ⟨(renderF s items).toArray⟩) ∧ Below base w w' :=
  (Render_more base b items lev cls st s ap sp iv ps w hbw H hs hv hp hnl hn hi hfmt htl hlen).mono fun e w' ⟨h1, h2, _⟩ => ⟨h1, h2⟩
end Go.Proofs.YthjpchabeemfmaaGreatDoor
