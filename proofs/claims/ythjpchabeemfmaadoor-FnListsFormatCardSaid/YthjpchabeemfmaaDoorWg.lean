import Derived.Test.YthjpchabeemfmaaDoorWf
import Derived.Test.YthjpchabeemfmaaDoorWb
import Derived.Deep.RegionHeld3
namespace Go.Proofs.YthjpchabeemfmaaDoor
open Go.RowKit
set_option linter.unusedVariables false
set_option linter.unusedSimpArgs false
set_option maxHeartbeats 4000000
set_option maxRecDepth 100000
attribute [local go_sem] S_extract S_append run_cut_S run_head_S run_tail_S Nat.add_sub_cancel_left

/-- the law's function value: the format that the box holds -/
theorem Clos_calls (sb : Nat) (k : Int) (t : List UInt8) (ht : t.length ≤ 1000000) (W : World) (hb : W.cell? ⟨sb, 0, none⟩ = some (.int .i64 k)) (hT : CTab W) :
    Calls Tryd.prog 9 #[.string ⟨t.toArray⟩, .pointer (some ⟨sb, 0, none⟩)] W fun e w' => e = .returned (.string ⟨(fmtG k t).toArray⟩) ∧ Below W.heap.size W w' := by
  have K := hid (textFormatG_calls k t (by omega) W hT)
  clear hT
  go_enter Tryd.func9, Tryd.ntmps9
  go_wp2_with (go_at_call 10; (with_reducible refine K.out.mono ?_); rintro e w1 ⟨rfl, hb1⟩)
  go_ret
  exact ⟨rfl, hb1⟩
theorem infoStepG : (Tryd.prog.info? 35).map (fun i => (i.zero, i.size, i.bytes)) = some (some (.agg #[.int .i64 0, .string ⟨#[]⟩, .slice none 0 0]), 3, 48) := by kernel_rfl
theorem own_grown {w w' : World} {b e sz n b2 e2 sz2 m : Nat} {v u : Value} {xs ys : List Value} (hi : w.ownsRow b e sz v n xs) (ho : w.ownsRow b2 e2 sz2 u m ys) (hne : e ≠ e2) (hg : w.grownBy w' u.ownBlock) : w'.ownsRow b e sz v n xs :=
  own_step hi fun k hk => by
    obtain ⟨C, fz, hC⟩ := own_typed hi k hk
    exact (heap_grown hC ho hne hg).trans hC.symm
/-- each step's texts lie in a row of their own -/
def TxRows (w : World) (l : List Stp) : Prop := ∀ p ∈ l, ∃ b, w.ownsRow b 9 1 p.val p.texts.length (strs p.texts)
theorem TxRows.below {w w' : World} {l : List Stp} (h : TxRows w l) (hb : Below w.heap.size w w') : TxRows w' l := fun p hp => let ⟨b, h1⟩ := h p hp; ⟨b, own_below h1 hb⟩
theorem TxRows.grown {w w' : World} {l : List Stp} (h : TxRows w l) {b2 e2 sz2 m : Nat} {u : Value} {ys : List Value} (ho : w.ownsRow b2 e2 sz2 u m ys) (hne : 9 ≠ e2) (hg : w.grownBy w' u.ownBlock) : TxRows w' l := fun p hp => let ⟨b, h1⟩ := h p hp; ⟨b, own_grown h1 ho hne hg⟩
theorem TxRows.snoc {w : World} {l : List Stp} (h : TxRows w l) {p : Stp} {b : Nat} (hp : w.ownsRow b 9 1 p.val p.texts.length (strs p.texts)) : TxRows w (l ++ [p]) := by
  intro q hq
  rcases List.mem_append.1 hq with hq | hq
  · exact h q hq
  · simp only [List.mem_singleton] at hq; subst hq; exact ⟨b, hp⟩
theorem TxRows.rd {w : World} {l : List Stp} (h : TxRows w l) (hl : ∀ p ∈ l, p.texts.length ≤ 1000) : ∀ p ∈ l, RdS w p.val p.texts := fun p hp => by
  obtain ⟨b, h1⟩ := h p hp
  exact RdF.of_own h1 (by have := hl p hp; omega)
theorem stpCells_snoc (l : List Stp) (p : Stp) : stpCells (l ++ [p]) = stpCells l ++ [.int .i64 p.kind, .string ⟨p.text.toArray⟩, p.val] := by simp [stpCells]
theorem strs_snoc (l : List (List UInt8)) (t : List UInt8) : strs (l ++ [t]) = strs l ++ [.string ⟨t.toArray⟩] := by simp [strs]
theorem below_drewG (w : World) : Below w.heap.size w w.drew := ⟨rfl, rfl, rfl, Nat.le_refl _, fun _ _ => rfl⟩
theorem below_nextG {B : Nat} {w w1 w2 : World} (h : Below B w w1) (k : Below w1.heap.size w1 w2) (hB : B ≤ w1.heap.size) : Below B w w2 := h.trans (k.mono hB)
theorem LtMapped_calls (fx : List UInt8 → List UInt8) (sb : Nat) (l : List Stp) (v : Value) (w : World) (hl : l.length ≤ 80) (hok : ∀ p ∈ l, p.texts.length ≤ 10 ∧ p.text.length ≤ 200 ∧ ∀ t ∈ p.texts, t.length ≤ 200)
    (hf : ∀ (t : List UInt8) (W : World), t.length ≤ 200 → Below w.heap.size w W → Calls Tryd.prog 9 #[.string ⟨t.toArray⟩, .pointer (some ⟨sb, 0, none⟩)] W fun e w' => e = .returned (.string ⟨(fx t).toArray⟩) ∧ Below W.heap.size W w') (h : RdSt w v l) :
    Calls Tryd.prog 8 #[v, .func (.func 9) #[] #[.pointer (some ⟨sb, 0, none⟩)]] w fun e w' => ∃ v', e = .returned v' ∧ Below w.heap.size w w' ∧ ∃ l', RdSt w' v' l' ∧ l'.map keyP = l.map (keyM fx) := by
  obtain ⟨A0, c0, rfl, _, _⟩ := h.1.form
  have HR := hid h
  have HF := hid hf
  clear h hf
  go_enter Tryd.func8, Tryd.ntmps8
  go_wp2_with fail
  go_loopw [5, 13] (fun v5 u wr => ∃ (k : Nat) (l' : List Stp), k ≤ l.length ∧ u = .int .i64 k ∧ Below w.heap.size w wr ∧ l'.length = k ∧ Hid (l'.map keyP = (l.take k).map (keyM fx)) ∧ TxRows wr l' ∧ wr.ownsRow w.heap.size 35 3 v5 k (stpCells l')) (fun _ u _ => l.length - (intOf u).toNat)
  case atStart => exact ⟨0, [], by omega, rfl, Below.refl _ w, rfl, hid (by simp), (fun p hp => by cases hp), by simpa [stpCells] using own_nil w w.heap.size 35 3⟩
  case round =>
    obtain ⟨k, l', hk, rfl, hbw, hlen, hkey, htx, hown⟩ := hrel
    obtain ⟨wo, rfl⟩ : ∃ W, W = wr := ⟨_, rfl⟩
    by_cases hlt : k < l.length
    · obtain ⟨p, hp⟩ : ∃ p, l[k]? = some p := ⟨_, List.getElem?_eq_getElem hlt⟩
      obtain ⟨hp10, hpt, hptt⟩ := hok p (List.mem_of_getElem? hp)
      obtain ⟨g, o, rfl, hcell⟩ := HR.out.1.at (by omega)
      have hcs := stp_get hp
      have hc0 : wo.cell? ⟨g, o + k * 3, none⟩ = some (.int .i64 p.kind) := cell_keep hbw (hcell _ _ hcs.1)
      have hc1 : wo.cell? ⟨g, o + k * 3 + 1, none⟩ = some (.string ⟨p.text.toArray⟩) := cell_keep hbw (hcell _ _ hcs.2.1)
      have hc2 : wo.cell? ⟨g, o + k * 3 + 2, none⟩ = some p.val := cell_keep hbw (hcell _ _ hcs.2.2)
      have HT := hid ((HR.out.2 p (List.mem_of_getElem? hp)).below hbw)
      obtain ⟨At, ct, hval, _, _⟩ := HT.out.form
      rw [hval] at hc2 HT
      have hlt' : (k : Int) < (l.length : Int) := by omega
      have HTK := hid (show (l.take (k + 1)).map (keyM fx) = (l.take k).map (keyM fx) ++ [keyM fx p] by rw [List.take_add_one, hp, List.map_append]; rfl)
      have HBW := hid hbw
      have HOWN := hid hown
      have HTX := hid htx
      have HPTT := hid hptt
      have hbs := hbw.size
      clear hcell hcs hp hown htx hptt
      obtain ⟨W0, hW0⟩ : ∃ W0, wo.alloc (.cells #[.int .i64 p.kind, .string ⟨p.text.toArray⟩, .slice At p.texts.length ct] 35) = W0 := ⟨_, rfl⟩
      have hb0 : Below wo.heap.size wo W0 := hW0 ▸ (Below.refl _ wo).alloc (Nat.le_refl _) _
      have hn0 : W0.heap[wo.heap.size]? = some (.cells #[.int .i64 p.kind, .string ⟨p.text.toArray⟩, .slice At p.texts.length ct] 35 (0, 0)) := hW0 ▸ alloc_heap_new wo _
      have GRS := hid (fun (w' : World) (hb : Below W0.heap.size W0 w') => show (w'.cell? ⟨wo.heap.size, 0, none⟩ = some (.int .i64 p.kind) ∧ w'.cell? ⟨wo.heap.size, 1, none⟩ = some (.string ⟨p.text.toArray⟩)) ∧ Below W0.heap.size W0 w' from ⟨⟨blk_cell (heap_keep hn0 hb) 0, blk_cell (heap_keep hn0 hb) 1⟩, hb⟩)
      have KF1 := hid (fun (w' : World) (hb : Below W0.heap.size W0 w') => HF.out p.text w' hpt (hbw.trans ((hb0.trans (hb.mono hb0.size)).mono hbs)))
      have HN0 := hid hn0
      have HB0 := hid hb0
      clear hn0 hb0 hbw
      go_upto_region 5 with (fail)
      try rw [hW0]
      clear hW0 hc0 hc1 hc2
      go_cut [8] from 17 to 24 (fun c8 wx => ∃ Y : Nat, c8 = .pointer (some ⟨Y, 0, none⟩) ∧ Hid (wo.heap.size ≤ Y) ∧ Hid (Below W0.heap.size W0 wx) ∧ Hid (wx.heap[Y]? = some (.cells #[.int .i64 p.kind, .string ⟨(fx p.text).toArray⟩, .slice none 0 0] 35 (0, 0))))
      case first =>
        have g0 := GRS.out W0 (Below.refl _ _)
        clear hlt hlt' hk hp10 hpt hlen HTK HBW HOWN HTX HPTT hbs hkey HT hval
        obtain ⟨⟨g1, g2⟩, _⟩ := g0
        have ga := GRS.out _ (((Below.refl _ W0).alloc (Nat.le_refl _) (.cells #[.int .i64 0, .string ⟨#[]⟩, .slice none 0 0] 35)).drew)
        obtain ⟨⟨g3, g4⟩, _⟩ := ga
        go_region_law (first
          | (go_simp; go_at_call 9; (with_reducible refine (KF1.out _ (below_drewG W0)).mono ?_); rintro e u0 ⟨rfl, hv0⟩; have hu0 := below_nextG (below_drewG W0) hv0 (below_drewG W0).size; obtain ⟨⟨g5, g6⟩, _⟩ := GRS.out u0 hu0; obtain ⟨⟨g7, g8⟩, _⟩ := GRS.out _ (hu0.alloc hu0.size (.cells #[.int .i64 0, .string ⟨#[]⟩, .slice none 0 0] 35)))
          | (go_simp; go_at_call 9; (with_reducible refine (KF1.out _ (((Below.refl _ W0).alloc (Nat.le_refl _) (.cells #[.int .i64 0, .string ⟨#[]⟩, .slice none 0 0] 35)).drew)).mono ?_); rintro e u0 ⟨rfl, hv0⟩; have hu0 := below_nextG (((Below.refl _ W0).alloc (Nat.le_refl _) (.cells #[.int .i64 0, .string ⟨#[]⟩, .slice none 0 0] 35)).drew) hv0 (((Below.refl _ W0).alloc (Nat.le_refl _) (.cells #[.int .i64 0, .string ⟨#[]⟩, .slice none 0 0] 35)).drew).size; obtain ⟨⟨g5, g6⟩, _⟩ := GRS.out u0 hu0; have hY := heap_keep (show (W0.alloc (.cells #[.int .i64 0, .string ⟨#[]⟩, .slice none 0 0] 35)).drew.heap[W0.heap.size]? = _ from alloc_heap_new W0 (.cells #[.int .i64 0, .string ⟨#[]⟩, .slice none 0 0] 35)) hv0; have hYc0 := blk_cell hY 0; have hYf0 := blk_free hY 0; have hY1 := blk_set hY 0 (.int .i64 p.kind); have hYc1 := blk_cell hY1 1; have hYf1 := blk_free hY1 1; have hY2 := blk_set hY1 1 (.string ⟨(fx p.text).toArray⟩); have hYc2 := blk_cell hY2 2; have hYf2 := blk_free hY2 2))
        all_goals go_wp2_with fail
        all_goals go_meet
        all_goals first
          | exact ⟨u0.heap.size, rfl, hid (Nat.le_trans HB0.out.size hu0.size), hid (hu0.alloc hu0.size _), hid (alloc_heap_new u0 _)⟩
          | exact ⟨W0.heap.size, rfl, hid HB0.out.size, hid (((hu0.setCell (Nat.le_refl _) _).setCell (Nat.le_refl _) _).setCell (Nat.le_refl _) _), hid (blk_set hY2 2 _)⟩
      case rest =>
        obtain ⟨Y, rfl, HYl, HBx, HYc⟩ := hcut
        have hbx := HB0.out.trans (HBx.out.mono HB0.out.size)
        have hx2 : wc.cell? ⟨wo.heap.size, 2, none⟩ = some (.slice At p.texts.length ct) := blk_cell (heap_keep HN0.out HBx.out) 2
        have HKF := hid (fun (t : List UInt8) (ht : t.length ≤ 200) (W : World) (hb : Below wo.heap.size wo W) => HF.out t W ht (HBW.out.trans (hb.mono hbs)))
        have HBX := hid hbx
        clear GRS KF1 HN0 HB0 HF HBx hbx
        go_wp2_with fail
        clear hx2
        go_loopw [27] (fun u wI => ∃ (j : Nat) (vt : Value), j ≤ p.texts.length ∧ u = .int .i64 j ∧ Below wo.heap.size wo wI ∧ Hid (wI.heap[Y]? = some (.cells #[.int .i64 p.kind, .string ⟨(fx p.text).toArray⟩, vt] 35 (0, 0))) ∧ wI.ownsRow wo.heap.size 9 1 vt j (strs ((p.texts.take j).map fx))) (fun u _ => p.texts.length - (intOf u).toNat)
        case atStart => exact ⟨0, .slice none 0 0, by omega, rfl, HBX.out, HYc, by simpa [strs] using own_nil wc wo.heap.size 9 1⟩
        case round =>
          obtain ⟨j, vt, hj, rfl, hbs2, HY, hownt⟩ := hrel
          clear HYc HBX
          have hss := hbs2.size
          by_cases hjl : j < p.texts.length
          · obtain ⟨t, ht⟩ : ∃ t, p.texts[j]? = some t := ⟨_, List.getElem?_eq_getElem hjl⟩
            obtain ⟨gt, ot, rfl, hct⟩ := RdF.at (RdF.below HT.out hbs2) (by omega)
            have hctj := hct j (.string ⟨t.toArray⟩) (by simp [strs, ht])
            have hjl' : (j : Int) < (p.texts.length : Int) := by omega
            have HTJ := hid (show strs ((p.texts.take (j + 1)).map fx) = strs ((p.texts.take j).map fx) ++ [.string ⟨(fx t).toArray⟩] by rw [List.take_add_one, ht, List.map_append]; exact strs_snoc _ _)
            have KF := hid (HKF.out t (HPTT.out t (List.mem_of_getElem? ht)))
            generalize strs ((p.texts.take j).map fx) = xs at *
            have HYS := hid HY.out
            have y2 : wr.cell? ⟨Y, 2, none⟩ = some vt := blk_cell HY.out 2
            have HOWNT := hid hownt
            have HBS2 := hid hbs2
            clear hct ht hownt HY
            go_wp2_with fail
            go_region_law (first
              | (go_simp; go_at_call 9; (with_reducible refine (KF.out _ (HBS2.out.trans ((below_drewG _).mono HBS2.out.size))).mono ?_); rintro e u0 ⟨rfl, hv0⟩; have hu0 := below_nextG (below_drewG wr) hv0 (below_drewG wr).size; have y3 := blk_cell (heap_keep HYS.out hu0) 2; have y4 := blk_cell (heap_keep HYS.out (hu0.alloc hu0.size (.cells #[.string ⟨(fx t).toArray⟩] 9))) 2)
              | ((refine step_box (by rfl) _ _ 33 (by rfl) 9 (.string ⟨#[]⟩) 1 16 Tryd.underlying33 infoStr rfl (by decide) wo.heap.size vt j xs (by rfl) (own_below HOWNT.out hu0) 1 9 [.string ⟨(fx t).toArray⟩] (by rfl) rfl (by simp; rfl) (by omega) (by decide) (Nat.le_trans hss hu0.size) ?_; intro g2 cap2 w2 hown2 hg2; have hr2 := heap_grown (heap_keep HYS.out hu0) (own_below HOWNT.out hu0) (by decide) hg2; have hc2 := blk_cell hr2 2; have hf2 := blk_free hr2 2)))
            all_goals go_wp2_with fail
            all_goals go_roundw
            all_goals first
              | exact ⟨j + 1, _, by omega, by go_num, (below_grown (HBS2.out.trans (hu0.mono hss)) (Nat.le_trans hss hu0.size) (Nat.le_refl _) (own_below HOWNT.out hu0) hg2).setCell HYl.out _, hid (blk_set hr2 2 _), by
                rw [HTJ.out]
                exact own_step hown2 fun q hq => by
                  obtain ⟨C, fz, hC⟩ := own_typed hown2 q hq
                  exact (heap_set_ne hC (ty_ne hC hr2 (by decide)) _).trans hC.symm⟩
              | (simp [intOf]; omega)
          · have hj2 : j = p.texts.length := by omega
            have hjl' : ¬ (j : Int) < (p.texts.length : Int) := by omega
            rw [hj2, List.take_length] at hownt
            obtain ⟨Av, cv, rfl, _⟩ := own_slice hownt
            have y0 := blk_cell HY.out 0
            have y1 := blk_cell HY.out 1
            have y2 := blk_cell HY.out 2
            have HOWNR := hid (own_below HOWN.out hbs2)
            have HBWR := hid (HBW.out.trans (hbs2.mono hbs))
            have HTXR := hid ((HTX.out.below hbs2).snoc (p := ⟨p.kind, fx p.text, p.texts.map fx, .slice Av p.texts.length cv⟩) (b := wo.heap.size) (by rw [List.length_map]; exact hownt))
            have HKY := hid (show (l' ++ [(⟨p.kind, fx p.text, p.texts.map fx, .slice Av p.texts.length cv⟩ : Stp)]).map keyP = (l.take (k + 1)).map (keyM fx) by rw [List.map_append, hkey.out, HTK.out]; rfl)
            clear hownt HY HOWN HTX hkey HTK hj2
            go_wp2_with (at_builtin; refine append_box rfl _ _ 22 35 (.agg #[.int .i64 0, .string ⟨#[]⟩, .slice none 0 0]) 3 48 rfl Tryd.underlying22 infoStepG rfl (by decide) w.heap.size u5 k (stpCells l') rfl HOWNR.out 1 35 [.int .i64 p.kind, .string ⟨(fx p.text).toArray⟩, .slice Av p.texts.length cv] rfl rfl (by simp; exact ⟨rfl, rfl, rfl⟩) (by omega) (by decide) HBWR.out.size ?_; intro v7 w7 hown7 hg7)
            go_roundw
            case rel => exact ⟨k + 1, l' ++ [⟨p.kind, fx p.text, p.texts.map fx, .slice Av p.texts.length cv⟩], by omega, by go_num, below_grown HBWR.out HBWR.out.size (Nat.le_refl _) HOWNR.out hg7, by rw [List.length_append, hlen]; rfl, HKY, HTXR.out.grown HOWNR.out (by decide) hg7, by rw [stpCells_snoc]; exact hown7⟩
            case measure => simp [intOf]; omega
    · have hk2 : k = l.length := by omega
      have hlt' : ¬ (k : Int) < (l.length : Int) := by omega
      have HK := hid (show l'.map keyP = l.map (keyM fx) by rw [hkey.out, hk2, List.take_length])
      have hl10 : ∀ q ∈ l', q.texts.length ≤ 1000 := fun q hq => by
        have h1 : keyP q ∈ l.map (keyM fx) := by rw [← HK.out]; exact List.mem_map_of_mem hq
        obtain ⟨p, hp, e⟩ := List.mem_map.1 h1
        unfold keyP keyM at e
        injection e with _ e2
        injection e2 with _ e3
        rw [← e3, List.length_map]
        have := (hok p hp).1
        omega
      have RD := hid (show RdSt wo _ l' from ⟨by have := RdF.of_own hown (by omega); rw [← hlen] at this; exact this, htx.rd hl10⟩)
      clear hown htx hkey
      go_wp2_with fail
      go_ret
      exact ⟨_, rfl, hbw, l', RD.out, HK.out⟩
end Go.Proofs.YthjpchabeemfmaaDoor
