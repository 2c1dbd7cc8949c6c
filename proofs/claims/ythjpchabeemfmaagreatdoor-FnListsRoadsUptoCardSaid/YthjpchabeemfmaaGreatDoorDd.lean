import Derived.Test.YthjpchabeemfmaaGreatDoorDc
namespace Go.Proofs.YthjpchabeemfmaaGreatDoor
open Go.RowKit
set_option linter.unusedVariables false
set_option linter.unusedSimpArgs false
set_option maxHeartbeats 4000000
set_option maxRecDepth 100000
attribute [local go_sem] S_extract S_append run_cut_S run_head_S run_tail_S Nat.add_sub_cancel_left

theorem splitN_len : ∀ l : List UInt8, (splitN l).length ≤ l.length + 1
  | [] => by simp [splitN]
  | b :: t => by
    have ih := splitN_len t
    unfold splitN
    split
    · simp only [List.length_cons]; omega
    · split
      · simp
      · rename_i l r e
        rw [e] at ih
        simp only [List.length_cons] at ih ⊢
        omega
theorem item_calls (w0 : World) (base b bb sb : Nat) (items : List It) (lev : Nat) (cls : List UInt8) (s : Sty) (ap : Int) (sp : List UInt8) (iv : Value) (ps : List Value) (acc : List UInt8) (w : World)
    (hn : items.length ≤ 5000) (hi : ∀ it ∈ items, it.1 ≤ 1000 ∧ it.2.length ≤ 1000) (hfmt : s.fmt = 0) (hnl : s.newline.length ≤ 1000) (h : Hint) (idx : Nat) (it : It) (gi : Nat) (hit : items[idx]? = some it) (hpi : ps[idx]? = some (.pointer (some ⟨gi, 0, none⟩)))
    (htl : (textF s it.2).length ≤ 1000000000) (hlen : (acc ++ ((if 0 < idx then [10] else []) ++ linesF s sp h (aheadF s sp it (items.drop (idx + 1))) 0 (splitN (textF s it.2)))).length ≤ 100000000000) (HB : RB w0 w base b bb sb items lev cls s ap sp iv ps acc) :
    Calls Tryz.prog 46 #[.pointer (some ⟨b, 0, none⟩), .pointer (some ⟨bb, 0, none⟩), .int .i64 idx, .pointer (some ⟨gi, 0, none⟩), h.val] w fun e w' => e = .returned (.tuple #[]) ∧ RB w0 w' base b bb sb items lev cls s ap sp iv ps (acc ++ ((if 0 < idx then [10] else []) ++ linesF s sp h (aheadF s sp it (items.drop (idx + 1))) 0 (splitN (textF s it.2)))) := by
  have hidx : idx < items.length := (List.getElem?_eq_some_iff.1 hit).1
  obtain ⟨hl1, hl2⟩ := hi it (List.mem_of_getElem? hit)
  have HIT := hid hit
  have HPI := hid hpi
  have hi2 := hid (fun (x : It) (hx : x ∈ items) => show x.1 ≤ 1000000 by have := (hi x hx).1; omega)
  have HB1 := HB.call ((Below.refl _ w).alloc (Nat.le_refl _) (.cells #[.bool h.top, .bool h.first, .bool h.only, .bool h.last, .bool h.bottom] 79))
  have HR := HB1.restart
  have HH := hid (alloc_heap_new w (.cells #[.bool h.top, .bool h.first, .bool h.only, .bool h.last, .bool h.bottom] 79))
  have hA : acc.length ≤ 100000000000 := by rw [List.length_append] at hlen; omega
  have HFM := hid hfmt
  rw [← List.append_assoc acc] at hlen ⊢
  obtain ⟨acc1, hac⟩ : ∃ l, l = acc ++ (if 0 < idx then [10] else []) := ⟨_, rfl⟩
  rw [← hac] at hlen ⊢
  have HL2 := hid hlen
  have HAC := hid hac
  clear hit hpi hi hlen HB hfmt hac
  unfold Hint.val
  go_enter Tryz.func46, Tryz.ntmps46
  go_upto_if 14 with (fail)
  go_cut [14] from 15 to 16 (fun c14 wx => Hid (RB w0 wx base b bb sb items lev cls s ap sp iv ps acc1 ∧ wx.heap[w.heap.size]? = some (.cells #[.bool h.top, .bool h.first, .bool h.only, .bool h.last, .bool h.bottom] 79 (0, 0))))
  case first =>
    by_cases h0 : 0 < idx
    · have h0' : (0 : Int) < (idx : Int) := by omega
      go_wp2_with (go_at_call 58; (with_reducible refine (WR_RB HR 10 (by omega) (by omega) (by omega)).mono ?_); rintro e wn ⟨⟨nb, rfl⟩, HB2⟩)
      go_meet
      rw [HAC.out, if_pos h0]
      exact hid ⟨HB1.join HB2, HB2.kept _ _ _ _ HH.out (by decide) (by decide)⟩
    · have h0' : ¬ (0 : Int) < (idx : Int) := by omega
      go_wp2_with fail
      go_meet
      rw [HAC.out, if_neg h0, List.append_nil]
      exact hid ⟨HB1, HH.out⟩
  case rest =>
    rename World => wx
    obtain ⟨HB3, HH3⟩ := hcut.out
    clear hcut HB1 HR HH
    clear hA HAC
    have HHH := hid HH3
    have HR3 := HB3.restart
    have c5 : wx.cell? ⟨b, 5, none⟩ = some (.pointer (some ⟨sb, 0, none⟩)) := blk_cell HB3.lb.list.row 5
    have cf : wx.cell? ⟨sb, 0, none⟩ = some (.int .i64 0) := by have := blk_cell HB3.sty 0; rw [← HFM.out]; exact this
    have cn : wx.cell? ⟨sb, 7, none⟩ = some (.string ⟨s.newline.toArray⟩) := blk_cell HB3.sty 7
    have ct : wx.cell? ⟨gi, 1, none⟩ = some (.string ⟨it.2.toArray⟩) := blk_cell (HB3.lb.list.itemAt HIT.out HPI.out) 1
    clear HH3
    go_wp2_with fail
    go_quiet ((go_at_call 59; exact Calls.quiet_of_same ((Apply0_calls _ _).mono fun _ _ hq => ⟨hq.1, hq.2.symm⟩)))
    have HB4 := HR3.call (bdrew (Below.refl _ _) nq)
    go_step
    go_step
    go_step
    go_cut [10] from 29 to 49 (fun c10 wy => c10 = .string ⟨(textF s it.2).toArray⟩ ∧ Hid (RB wx wy base b bb sb items lev cls s ap sp iv ps acc1))
    case first =>
      have KC := hid (fun w' => lzzContains_calls it.2 [10] w' (by omega) (by simp))
      cases hs : hasSub it.2 [10] with
      | false =>
        have HT := hid (show textF s it.2 = it.2 by unfold textF; split; rfl; exact repAll_none_of hs)
        go_wp2_with (go_at_call 60; (with_reducible refine (KC.out _).mono ?_); rintro e wn ⟨rfl, rfl⟩; rw [hs])
        go_meet
        exact ⟨by rw [HT.out], hid HB4⟩
      | true =>
        by_cases h10 : s.newline = [10]
        · have e1 : (s.newline == [10]) = true := by simpa using h10
          have e2 : (s.newline != [10]) = false := by simpa using h10
          have HT := hid (show textF s it.2 = it.2 by unfold textF; rw [if_pos h10])
          clear h10
          go_wp2_with (go_at_call 60; (with_reducible refine (KC.out _).mono ?_); rintro e wn ⟨rfl, rfl⟩; rw [hs])
          go_meet
          exact ⟨by rw [HT.out], hid HB4⟩
        · have e1 : (s.newline == [10]) = false := by simpa using h10
          have e2 : (s.newline != [10]) = true := by simpa using h10
          have HT := hid (show textF s it.2 = repAll [10] s.newline it.2 by unfold textF; rw [if_neg h10])
          have hrl : (repAll [10] s.newline it.2).length ≤ 1000000000 := by rw [← HT.out]; exact htl
          have KR := hid (fun w' => lzzReplaceAll_calls it.2 [10] s.newline w' (by simp) (by omega) (by simp) (by omega))
          clear h10 htl
          go_wp2_with (first
            | (go_at_call 60; (with_reducible refine (KC.out _).mono ?_); rintro e wn ⟨rfl, rfl⟩; rw [hs])
            | (go_at_call 61; (with_reducible refine (KR.out _).mono ?_); rintro e wn ⟨rfl, hbn⟩))
          go_meet
          exact ⟨by rw [HT.out], hid (HB4.call hbn)⟩
    case rest =>
      obtain ⟨rfl, HB5⟩ := hcut
      have HB5 := HB5.out
      have KSp := hid (fun w' => lzzSplit_calls (textF s it.2) w' htl)
      have hls : (splitN (textF s it.2)).length ≤ 1000000001 := by have := splitN_len (textF s it.2); omega
      generalize hG : splitN (textF s it.2) = ls at *
      have HG := hid hG
      clear hG
      clear c5 cf cn ct HB4 HR3
      go_wp2_with (go_at_call 62; (with_reducible refine (KSp.out _).mono ?_); rintro e wz ⟨v, rfl, hown, hbz⟩; obtain ⟨A, c, rfl, hAc, _⟩ := own_slice hown; have HB6 := HB5.call hbz)
      have HOW := hid hown
      have HHz := hid (HB6.kept _ _ _ _ HHH.out (by decide) (by decide))
      clear hown hbz HHH
      go_loopw [53] (fun v wr => ∃ (k : Nat) (acc2 : List UInt8), v = .int .i64 k ∧ k ≤ ls.length ∧ RB wz wr base b bb sb items lev cls s ap sp iv ps acc2 ∧ Hid (acc2 ++ linesF s sp h (aheadF s sp it (items.drop (idx + 1))) k (ls.drop k) = acc1 ++ linesF s sp h (aheadF s sp it (items.drop (idx + 1))) 0 ls)) (fun v _ => ls.length - (intOf v).toNat)
      case atStart => exact ⟨0, acc1, rfl, Nat.zero_le _, HB6.restart, hid rfl⟩
      case round =>
        obtain ⟨k, acc2, rfl, hk, HBr, hT⟩ := hrel
        by_cases hlt : k < ls.length
        · have hlt' : (k : Int) < (ls.length : Int) := by omega
          obtain ⟨l, hlk⟩ : ∃ l, ls[k]? = some l := ⟨_, List.getElem?_eq_getElem hlt⟩
          have hownr := HBr.kept.own HOW.out (by decide) (by decide)
          obtain ⟨g, c', hv, _, _, _, hcell⟩ := own_cells hownr (by omega)
          injection hv with hv1 hv2 hv3
          subst hv1 hv3
          have lc : wr.cell? ⟨g, k, none⟩ = some (.string ⟨l.toArray⟩) := hcell k _ (by simp [strs, hlk])
          have HHr := HBr.kept _ _ _ _ HHz.out (by decide) (by decide)
          obtain ⟨n0, n1, n2, n3, n4⟩ := cells_hint HHr
          have p0 : wr.cell? ⟨gi, 0, none⟩ = some (.int .i64 it.1) := blk_cell (HBr.lb.list.itemAt HIT.out HPI.out) 0
          have HDR := hid (show ls.drop k = l :: ls.drop (k + 1) by rw [List.drop_eq_getElem_cons hlt, (List.getElem?_eq_some_iff.1 hlk).2])
          have HT2 := hid (show acc2 ++ (if 0 < k then [10] else []) ++ (s.pre ++ linksF s.vert sp (items.drop (idx + 1)) 0 it.1) ++ markF s sp h k ++ l ++ linesF s sp h (aheadF s sp it (items.drop (idx + 1))) (k + 1) (ls.drop (k + 1)) = acc1 ++ linesF s sp h (aheadF s sp it (items.drop (idx + 1))) 0 ls by
            rw [← hT.out, HDR.out, linesF]
            simp [aheadF])
          have HLn : acc2.length + (if 0 < k then [10] else [] : List UInt8).length + (s.pre ++ linksF s.vert sp (items.drop (idx + 1)) 0 it.1).length + (markF s sp h k).length + l.length ≤ 100000000000 := by
            have h1 := congrArg List.length HT2.out
            have h2 := HL2.out
            rw [← h1] at h2
            simp only [List.length_append] at h2 ⊢
            omega
          have KP := hid (fun acc' w' hl' (H : RB wz w' base b bb sb items lev cls s ap sp iv ps acc') => prefix_calls wz base b bb sb items lev cls s ap sp iv ps acc' w' (by omega) hi2.out idx it.1 (by omega) (by omega) hl' H)
          have KB := hid (fun acc' w' hl' (H : RB wz w' base b bb sb items lev cls s ap sp iv ps acc') => by have := bullet_calls wz base b bb sb items lev cls s ap sp iv ps acc' w' h k hl' H; unfold Hint.val at this; exact this)
          clear hT HDR hcell hlk hownr HHr HL2
          by_cases h0 : k = 0
          · subst h0
            have KB := hid (fun acc' w' hl' (H : RB wz w' base b bb sb items lev cls s ap sp iv ps acc') => show Calls Tryz.prog 64 #[.pointer (some ⟨b, 0, none⟩), .pointer (some ⟨bb, 0, none⟩), .int .i64 0, .agg #[.bool h.top, .bool h.first, .bool h.only, .bool h.last, .bool h.bottom]] w' (fun e w'' => e = .returned (.tuple #[]) ∧ RB wz w'' base b bb sb items lev cls s ap sp iv ps (acc' ++ markF s sp h 0)) from KB.out acc' w' hl' H)
            have hp1 : (acc2 ++ (s.pre ++ linksF s.vert sp (items.drop (idx + 1)) 0 it.1)).length ≤ 100000000000 := by
              rw [List.length_append]
              omega
            have hp2 : (acc2 ++ (s.pre ++ linksF s.vert sp (items.drop (idx + 1)) 0 it.1)).length + (markF s sp h 0).length ≤ 100000000000 := by
              rw [List.length_append]
              omega
            have hp3 : (acc2 ++ (s.pre ++ linksF s.vert sp (items.drop (idx + 1)) 0 it.1) ++ markF s sp h 0).length + l.length ≤ 140737488355328 := by
              rw [List.length_append, List.length_append]
              omega
            have HT3 := hid (show acc2 ++ (s.pre ++ linksF s.vert sp (items.drop (idx + 1)) 0 it.1) ++ markF s sp h 0 ++ l ++ linesF s sp h (aheadF s sp it (items.drop (idx + 1))) (0 + 1) (ls.drop (0 + 1)) = acc1 ++ linesF s sp h (aheadF s sp it (items.drop (idx + 1))) 0 ls by
              rw [← HT2.out]
              simp)
            clear HT2 HLn
            generalize hP : s.pre ++ linksF s.vert sp (items.drop (idx + 1)) 0 it.1 = P at *
            generalize hM : markF s sp h 0 = M at *
            go_wp2_with (first
              | (go_at_call 63; (with_reducible refine (KP.out _ _ hp1 HBr).mono ?_); rintro e wn ⟨rfl, HBa⟩; have HHn := HBa.kept _ _ _ _ HHz.out (by decide) (by decide); obtain ⟨m0, m1, m2, m3, m4⟩ := cells_hint HHn)
              | (go_at_call 64; (with_reducible refine (KB.out _ _ hp2 HBa).mono ?_); rintro e wn ⟨rfl, HBb⟩)
              | (go_at_call 65; (with_reducible refine (WS_RB HBb _ hp3).mono ?_); rintro e wn ⟨rfl, HBc⟩))
            go_roundw
            case rel => exact ⟨0 + 1, _, by go_num, by omega, HBc, HT3⟩
            case measure => simp [intOf]; omega
          · have h0' : (0 : Int) < (k : Int) := by omega
            rw [if_pos (show 0 < k by omega)] at HT2 HLn
            simp only [List.length_cons, List.length_nil] at HLn
            have hp0 : acc2.length + 4 ≤ 140737488355328 := by omega
            have hp1 : (acc2 ++ [10] ++ (s.pre ++ linksF s.vert sp (items.drop (idx + 1)) 0 it.1)).length ≤ 100000000000 := by
              rw [List.length_append, List.length_append]
              simp only [List.length_cons, List.length_nil]
              omega
            have hp2 : (acc2 ++ [10] ++ (s.pre ++ linksF s.vert sp (items.drop (idx + 1)) 0 it.1)).length + (markF s sp h k).length ≤ 100000000000 := by
              rw [List.length_append, List.length_append]
              simp only [List.length_cons, List.length_nil]
              omega
            have hp3 : (acc2 ++ [10] ++ (s.pre ++ linksF s.vert sp (items.drop (idx + 1)) 0 it.1) ++ markF s sp h k).length + l.length ≤ 140737488355328 := by
              rw [List.length_append, List.length_append, List.length_append]
              simp only [List.length_cons, List.length_nil]
              omega
            clear HLn
            generalize hP : s.pre ++ linksF s.vert sp (items.drop (idx + 1)) 0 it.1 = P at *
            generalize hM : markF s sp h k = M at *
            go_wp2_with (first
              | (go_at_call 58; (with_reducible refine (WR_RB HBr 10 (by omega) (by omega) hp0).mono ?_); rintro e wn ⟨⟨nb, rfl⟩, HBn⟩; have p0n : wn.cell? ⟨gi, 0, none⟩ = some (.int .i64 it.1) := blk_cell (HBn.lb.list.itemAt HIT.out HPI.out) 0)
              | (go_at_call 63; (with_reducible refine (KP.out _ _ hp1 HBn).mono ?_); rintro e wn ⟨rfl, HBa⟩; have HHn := HBa.kept _ _ _ _ HHz.out (by decide) (by decide); obtain ⟨m0, m1, m2, m3, m4⟩ := cells_hint HHn)
              | (go_at_call 64; (with_reducible refine (KB.out _ _ hp2 HBa).mono ?_); rintro e wn ⟨rfl, HBb⟩)
              | (go_at_call 65; (with_reducible refine (WS_RB HBb _ hp3).mono ?_); rintro e wn ⟨rfl, HBc⟩))
            go_roundw
            case rel => exact ⟨k + 1, _, by go_num, by omega, HBc, HT2⟩
            case measure => simp [intOf]; omega
        · have hlt' : ¬ (k : Int) < (ls.length : Int) := by omega
          have HF := hid (show acc2 = acc1 ++ linesF s sp h (aheadF s sp it (items.drop (idx + 1))) 0 ls by
            have := hT.out
            rw [List.drop_eq_nil_of_le (show ls.length ≤ k by omega), linesF, List.append_nil] at this
            exact this)
          clear hT HL2
          go_wp2_with fail
          go_end0
          rw [HG.out, ← HF.out]
          exact ⟨rfl, HB3.join (HB6.join HBr)⟩
end Go.Proofs.YthjpchabeemfmaaGreatDoor
