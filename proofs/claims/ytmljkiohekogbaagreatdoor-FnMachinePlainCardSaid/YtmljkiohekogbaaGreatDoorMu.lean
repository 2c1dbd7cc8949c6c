import Derived.Test.YtmljkiohekogbaaGreatDoorMt
namespace Go.Proofs.YtmljkiohekogbaaGreatDoor
open Go.RowKit Go.Maps
set_option linter.unusedVariables false
set_option linter.unusedSimpArgs false
set_option maxHeartbeats 8000000
set_option maxRecDepth 100000
attribute [local go_sem] S_extract S_append run_cut_S run_head_S run_tail_S Nat.add_sub_cancel_left

theorem CM.wf {w : World} {b : Nat} {c : List Int} (h : CM w b c) : ∀ x ∈ c, -9223372036854775808 ≤ x ∧ x ≤ 9223372036854775807 := by
  obtain ⟨es, clock, h1, F, h3, h4⟩ := h
  intro x hx
  unfold setD at h4
  injection h4 with h4
  have hm : (Lit.int .i64 x, (.lit (.bool true) : DataW Unit)) ∈ setE c := List.mem_map.2 ⟨x, hx, rfl⟩
  rw [h4] at hm
  have hm := (Go.WideShapes.sorted_perm _).mem_iff.1 hm
  obtain ⟨y, hy, e⟩ := List.mem_map.1 hm
  obtain ⟨z, hz⟩ := F.reads y hy
  rw [Go.WideElems.rg_of hz] at e
  obtain ⟨x', _, e2, hw⟩ := Maps.keyOf_int_inv Tryz.underlying3 (Go.WideElems.rd_key hz)
  subst e
  simp only at e2
  injection e2 with _ e2
  subst e2
  simp [Lit.wf, IntKind.min, IntKind.max, IntKind.bits, IntKind.signed] at hw
  omega
/-- a builder of the call's own, and a row of numbers behind it -/
structure SB (w wr : World) (v : Value) (c : List Int) (l : List UInt8) : Prop where
  st : St w wr l
  row : wr.ownsRow (w.heap.size + 1) 3 1 v c.length (nums c)
  size : w.heap.size + 1 ≤ wr.heap.size
theorem SB.call {w wr w2 : World} {v : Value} {c : List Int} {l : List UInt8} (h : SB w wr v c l) (hb : Below wr.heap.size wr w2) : SB w w2 v c l := ⟨h.st.call hb, own_below h.row hb, Nat.le_trans h.size hb.size⟩
theorem SB.kept {w wr w2 : World} {v : Value} {c : List Int} {l l2 : List UInt8} (h : SB w wr v c l) (hb : Below w.heap.size wr w2) (ho : Lib.OthersKept 5 (some w.heap.size) wr w2) (h2 : Bld w2 w.heap.size w.heap.size l2) : SB w w2 v c l2 :=
  ⟨⟨h2, h.st.below.trans hb⟩, own_step h.row fun k hk => by
    obtain ⟨C, fz, hC⟩ := own_typed h.row k hk
    have hlt := (own_lt h.row k hk).2
    rw [hC]
    refine ho k _ hC (fun e => ?_) (fun c fz e => ?_)
    · injection e with e; omega
    · injection e with _ e2 _
      exact absurd e2 (by decide), Nat.le_trans h.size hb.size⟩
theorem SB.write (w : World) (v : Value) (c : List Int) (l s : List UInt8) (wr : World) (h : SB w wr v c l) (hlen : l.length + s.length ≤ 140737488355328) :
    Calls Tryz.prog 33 #[.pointer (some ⟨w.heap.size, 0, none⟩), .string ⟨s.toArray⟩] wr fun e w' => e = .returned (.tuple #[.int .i64 s.length, .nilIface]) ∧ SB w w' v c (l ++ s) :=
  (WriteString_calls w.heap.size w.heap.size l s wr h.st.bld hlen h.st.size).mono fun e w' ⟨h1, h2, h3, h4, _⟩ => ⟨h1, h.kept h3 h4 h2⟩
theorem e59 : Lib.encodeRune 59 = [59] := by decide
theorem SB.rune (w : World) (v : Value) (c : List Int) (l : List UInt8) (wr : World) (h : SB w wr v c l) (hlen : l.length + 4 ≤ 140737488355328) :
    Calls Tryz.prog 34 #[.pointer (some ⟨w.heap.size, 0, none⟩), .int .i32 59] wr fun e w' => (∃ n : Nat, e = .returned (.tuple #[.int .i64 n, .nilIface])) ∧ SB w w' v c (l ++ [59]) :=
  (WriteRune_calls w.heap.size w.heap.size l 59 (by omega) (by omega) wr h.st.bld hlen h.st.size).mono fun e w' ⟨h1, h2, h3, h4, _⟩ => ⟨h1, h.kept h3 h4 (e59 ▸ h2)⟩
theorem SB.cell {w wr : World} {g cap n : Nat} {c : List Int} {l : List UInt8} (h : SB w wr (.slice (some ⟨g, 0, none⟩) n cap) c l) {j : Nat} {y : Int} (hj : c[j]? = some y) : wr.cell? ⟨g, j, none⟩ = some (.int .i64 y) := by
  have h0 : c.length ≠ 0 := by
    intro e
    rw [List.eq_nil_of_length_eq_zero e] at hj
    simp at hj
  obtain ⟨g', c', hv, _, _, _, hc⟩ := own_cells h.row (Nat.pos_of_ne_zero h0)
  injection hv with h3 _ _
  injection h3 with h3
  injection h3 with h3
  subst h3
  exact hc j _ (by unfold nums; rw [List.getElem?_map, hj]; rfl)
theorem own_base {w : World} {base base' e sz n : Nat} {v : Value} {xs : List Value} (h : w.ownsRow base e sz v n xs) (hb : base' ≤ base) : w.ownsRow base' e sz v n xs :=
  ⟨h.1, h.2.imp id fun ⟨g, cap, cur, a, hg, r⟩ => ⟨g, cap, cur, a, Nat.le_trans hb hg, r⟩⟩
theorem codeSeq_len (y : Int) (h0 : -9223372036854775808 ≤ y) (h1 : y ≤ 9223372036854775807) : (codeSeq itoaF y).length ≤ 26 := by
  unfold codeSeq
  repeat' split
  · have := itoaF_len (y - 1000) (by omega) (by omega)
    simp; omega
  · have := itoaF_len (y - 2000) (by omega) (by omega)
    simp; omega
  · have := itoaF_len y h0 h1
    omega
theorem Sequence_calls (base p : Nat) (cm ev : Value) (st : PSt) (w : World) (H : PA w base p cm ev st) (hr : Rise st.codes) (hl : st.codes.length ≤ 4000000000000) :
    Calls Tryz.prog 22 #[.pointer (some ⟨p, 0, none⟩)] w fun e w' => e = .returned (.string ⟨(seqOf itoaF st.codes).toArray⟩) ∧ Below w.heap.size w w' := by
  have hbB : Below w.heap.size w (w.alloc (.cells #[.pointer none, .slice none 0 0] 69)) := (Below.refl _ w).alloc (Nat.le_refl _) _
  have HP := hid (H.below hbB)
  have HST := hid (St.fresh w)
  have KO := hid (IsOpen_calls base p cm ev st _ HP.out)
  rcases H.codes with ⟨_, hc0⟩ | ⟨b, rfl, hb, hc⟩
  · rw [hc0] at KO
    rw [hc0]
    clear H hr hl
    go_enter Tryz.func22, Tryz.ntmps22
    go_wp2_with (first
      | (go_at_call 20; (with_reducible refine KO.out.mono ?_); rintro e w' ⟨rfl, rfl⟩)
      | (go_at_call 36; (with_reducible refine (String_st w [] _ HST.out).mono ?_); rintro e w2 ⟨rfl, hst2⟩))
    go_ret
    exact ⟨rfl, hst2.below⟩
  · by_cases h0 : st.codes = []
    · rw [h0] at KO
      rw [h0]
      clear H hr hl hc
      go_enter Tryz.func22, Tryz.ntmps22
      go_wp2_with (first
        | (go_at_call 20; (with_reducible refine KO.out.mono ?_); rintro e w' ⟨rfl, rfl⟩)
        | (go_at_call 36; (with_reducible refine (String_st w [] _ HST.out).mono ?_); rintro e w2 ⟨rfl, hst2⟩))
      go_ret
      exact ⟨rfl, hst2.below⟩
    · have hop : (!st.codes.isEmpty) = true := by simpa using h0
      rw [hop] at KO
      have HW := hid hc.wf
      have HT := hid (show seqOf itoaF st.codes = seqOf itoaF st.codes from rfl)
      obtain ⟨T, hTd⟩ : ∃ T, T = seqOf itoaF st.codes := ⟨_, rfl⟩
      have HTd := hid hTd
      rw [← hTd]
      have HPW := hid H
      have HCW := hid hc
      clear HT hTd H
      have HR := hid hr
      have HL := hid hl
      have hl0 : 0 < st.codes.length := List.length_pos_iff.2 h0
      have KC := hid (fun (w2 : World) (h3 : PA w2 base p (.map (some b)) ev st) (h4 : CM w2 b st.codes) => Codes_calls base p b ev st w2 h3 h4 HR.out HL.out)
      have KW := hid (WriteString_calls w.heap.size w.heap.size [] [27, 91] _ HST.out.bld (by simp) HST.out.size)
      have e38 : itoaF 38 = [51, 56] := (dec_dg3 38 (by decide)).trans (by decide)
      have e48 : itoaF 48 = [52, 56] := (dec_dg3 48 (by decide)).trans (by decide)
      have e5 : itoaF 5 = [53] := (dec_dg3 5 (by decide)).trans (by decide)
      have K38 := hid (fun (w' : World) => ItoaZ_calls 38 w' (by omega) (by omega))
      have K48 := hid (fun (w' : World) => ItoaZ_calls 48 w' (by omega) (by omega))
      have K5 := hid (fun (w' : World) => ItoaZ_calls 5 w' (by omega) (by omega))
      rw [e38] at K38
      rw [e48] at K48
      rw [e5] at K5
      have hbsz := hbB.size
      have hasz : w.heap.size + 1 = (w.alloc (.cells #[.pointer none, .slice none 0 0] 69)).heap.size := by show _ = (w.heap.push _).size; rw [Array.size_push]
      have HAS := hid hasz
      have HBB := hid hbB
      clear hc hr hl h0 e38 e48 e5 hasz hbsz hbB
      go_enter Tryz.func22, Tryz.ntmps22
      go_wp2_with (first
        | (go_at_call 20; (with_reducible refine KO.out.mono ?_); rintro e w' ⟨rfl, rfl⟩)
        | (go_at_call 33; (with_reducible refine KW.out.mono ?_); rintro e w2 ⟨rfl, hbd, hb2, hot, hs2⟩; have HP2 := HPW.out.below (HBB.out.trans hb2); have HC2 := HCW.out.heap ((HBB.out.trans hb2).block b HCW.out.lt))
        | (go_at_call 21; (with_reducible refine (KC.out _ HP2 HC2).mono ?_); rintro e w3 ⟨v, rfl, hrow, hb3⟩; obtain ⟨g, cap, rfl, -⟩ := own_cells hrow hl0))
      have HSB := hid (show SB w w3 (.slice (some ⟨g, 0, none⟩) st.codes.length cap) st.codes [27, 91] from ⟨⟨hbd.below hb3, (HBB.out.trans hb2).trans (hb3.mono (by have := HAS.out; omega))⟩, own_base hrow (by have := HAS.out; omega), by have := HAS.out; have := hb3.size; omega⟩)
      clear hrow hb3 hbd hb2 hot hs2 HP2 HC2 KW KC KO HP HST HBB HAS HR HPW HCW
      generalize st.codes = C at *
      have hCl := HL.out
      go_loopw [7, 8, 17] (fun _ _ u wr => ∃ (k : Nat) (x : List UInt8), k ≤ C.length ∧ u = .int .i64 k ∧ SB w wr (.slice (some ⟨g, 0, none⟩) C.length cap) C x ∧ x.length ≤ 2 + 28 * k ∧ Hid ((k = 0 ∧ x = [27, 91]) ∨ (0 < k ∧ T = x ++ (seqTail itoaF (C.drop k) ++ [109])))) (fun _ _ u _ => C.length - (intOf u).toNat)
      case atStart => exact ⟨0, [27, 91], by omega, rfl, HSB.out, by simp, hid (.inl ⟨rfl, rfl⟩)⟩
      case round =>
        obtain ⟨k, x, hk, rfl, hsb, hx, hT⟩ := hrel
        by_cases hlt : k < C.length
        · obtain ⟨y, hy⟩ : ∃ y, C[k]? = some y := ⟨_, List.getElem?_eq_getElem hlt⟩
          have hcell := hsb.cell hy
          obtain ⟨y0, y1⟩ := HW.out y (List.mem_of_getElem? hy)
          have hlt' : (k : Int) < (C.length : Int) := by omega
          have hCL := codeSeq_len y y0 y1
          have hdrop : C.drop k = y :: C.drop (k + 1) := by
            rw [List.drop_eq_getElem_cons hlt]
            congr 1
            exact (List.getElem?_eq_some_iff.1 hy).2
          have HD := hid hdrop
          have HSB := hid hsb
          have HLN := hid (show x.length + 100 ≤ 140737488355328 by have := HL.out; omega)
          clear hdrop hy hsb
          rcases Nat.eq_zero_or_pos k with hk0 | hk0
          · have hx2 : x = [27, 91] := by
              rcases hT.out with ⟨_, h⟩ | ⟨h, _⟩
              · exact h
              · omega
            have HS := hid (show T = x ++ codeSeq itoaF y ++ (seqTail itoaF (C.drop (k + 1)) ++ [109]) by
              have := HD.out
              rw [hk0, List.drop_zero] at this
              rw [HTd.out, this, hx2, hk0]
              simp [seqOf])
            have hk0' : ¬ (0 : Int) < (k : Int) := by omega
            clear hT HD hk0 hx2
            by_cases c1 : (1000 : Int) ≤ y
            · by_cases c2 : y ≤ 1255
              · have KI := hid (fun (w' : World) => ItoaZ_calls (y - 1000) w' (by omega) (by omega))
                have HSQ := hid (show codeSeq itoaF y = [51, 56, 59, 53, 59] ++ itoaF (y - 1000) by unfold codeSeq; rw [if_pos ⟨c1, c2⟩])
                have hLEN : ([51, 56, 59, 53, 59] ++ itoaF (y - 1000)).length ≤ 26 := by rw [← HSQ.out]; omega
                have hov : ¬ 9223372036854775807 < 5 + (itoaF (y - 1000)).length := by simp at hLEN; omega
                go_wp2_with (first
                  | (go_at_call 35; (with_reducible refine (K38.out _).mono ?_); rintro e w' ⟨rfl, hb'⟩; replace HSB := hid (HSB.out.call hb'); clear hb')
                  | (go_at_call 35; (with_reducible refine (K5.out _).mono ?_); rintro e w' ⟨rfl, hb'⟩; replace HSB := hid (HSB.out.call hb'); clear hb')
                  | (go_at_call 35; (with_reducible refine (KI.out _).mono ?_); rintro e w' ⟨rfl, hb'⟩; replace HSB := hid (HSB.out.call hb'); clear hb')
                  | (go_at_call 33; (with_reducible refine (SB.write w _ _ _ _ _ HSB.out (by have := HLN.out; simp at hLEN ⊢; omega)).mono ?_); rintro e w4 ⟨rfl, hs4⟩; replace HSB := hid hs4; clear hs4))
                go_roundw
                case rel => exact ⟨k + 1, _, by omega, by go_num, HSB.out, by simp at hLEN ⊢ <;> omega, hid (.inr ⟨by omega, by rw [HS.out, HSQ.out] <;> simp⟩)⟩
                case measure => simp [intOf]; omega
              · by_cases c3 : (2000 : Int) ≤ y
                · by_cases c4 : y ≤ 2255
                  · have KI := hid (fun (w' : World) => ItoaZ_calls (y - 2000) w' (by omega) (by omega))
                    have HSQ := hid (show codeSeq itoaF y = [52, 56, 59, 53, 59] ++ itoaF (y - 2000) by unfold codeSeq; rw [if_neg (fun h => c2 h.2), if_pos ⟨c3, c4⟩])
                    have hLEN : ([52, 56, 59, 53, 59] ++ itoaF (y - 2000)).length ≤ 26 := by rw [← HSQ.out]; omega
                    have hov : ¬ 9223372036854775807 < 5 + (itoaF (y - 2000)).length := by simp at hLEN; omega
                    go_wp2_with (first
                      | (go_at_call 35; (with_reducible refine (K48.out _).mono ?_); rintro e w' ⟨rfl, hb'⟩; replace HSB := hid (HSB.out.call hb'); clear hb')
                      | (go_at_call 35; (with_reducible refine (K5.out _).mono ?_); rintro e w' ⟨rfl, hb'⟩; replace HSB := hid (HSB.out.call hb'); clear hb')
                      | (go_at_call 35; (with_reducible refine (KI.out _).mono ?_); rintro e w' ⟨rfl, hb'⟩; replace HSB := hid (HSB.out.call hb'); clear hb')
                      | (go_at_call 33; (with_reducible refine (SB.write w _ _ _ _ _ HSB.out (by have := HLN.out; simp at hLEN ⊢; omega)).mono ?_); rintro e w4 ⟨rfl, hs4⟩; replace HSB := hid hs4; clear hs4))
                    go_roundw
                    case rel => exact ⟨k + 1, _, by omega, by go_num, HSB.out, by simp at hLEN ⊢ <;> omega, hid (.inr ⟨by omega, by rw [HS.out, HSQ.out] <;> simp⟩)⟩
                    case measure => simp [intOf]; omega
                  · have KI := hid (fun (w' : World) => ItoaZ_calls y w' y0 y1)
                    have HSQ := hid (show codeSeq itoaF y = itoaF y by unfold codeSeq; rw [if_neg (fun h => c2 h.2), if_neg (fun h => c4 h.2)])
                    have hLEN : (itoaF y).length ≤ 26 := by rw [← HSQ.out]; omega
                    go_wp2_with (first
                      | (go_at_call 35; (with_reducible refine (KI.out _).mono ?_); rintro e w' ⟨rfl, hb'⟩; replace HSB := hid (HSB.out.call hb'); clear hb')
                      | (go_at_call 33; (with_reducible refine (SB.write w _ _ _ _ _ HSB.out (by have := HLN.out; simp at hLEN ⊢; omega)).mono ?_); rintro e w4 ⟨rfl, hs4⟩; replace HSB := hid hs4; clear hs4))
                    go_roundw
                    case rel => exact ⟨k + 1, _, by omega, by go_num, HSB.out, by simp at hLEN ⊢ <;> omega, hid (.inr ⟨by omega, by rw [HS.out, HSQ.out] <;> simp⟩)⟩
                    case measure => simp [intOf]; omega
                · have KI := hid (fun (w' : World) => ItoaZ_calls y w' y0 y1)
                  have HSQ := hid (show codeSeq itoaF y = itoaF y by unfold codeSeq; rw [if_neg (fun h => c2 h.2), if_neg (fun h => c3 h.1)])
                  have hLEN : (itoaF y).length ≤ 26 := by rw [← HSQ.out]; omega
                  go_wp2_with (first
                    | (go_at_call 35; (with_reducible refine (KI.out _).mono ?_); rintro e w' ⟨rfl, hb'⟩; replace HSB := hid (HSB.out.call hb'); clear hb')
                    | (go_at_call 33; (with_reducible refine (SB.write w _ _ _ _ _ HSB.out (by have := HLN.out; simp at hLEN ⊢; omega)).mono ?_); rintro e w4 ⟨rfl, hs4⟩; replace HSB := hid hs4; clear hs4))
                  go_roundw
                  case rel => exact ⟨k + 1, _, by omega, by go_num, HSB.out, by simp at hLEN ⊢ <;> omega, hid (.inr ⟨by omega, by rw [HS.out, HSQ.out] <;> simp⟩)⟩
                  case measure => simp [intOf]; omega
            · have c3 : ¬ (2000 : Int) ≤ y := by omega
              have KI := hid (fun (w' : World) => ItoaZ_calls y w' y0 y1)
              have HSQ := hid (show codeSeq itoaF y = itoaF y by unfold codeSeq; rw [if_neg (fun h => c1 h.1), if_neg (fun h => c3 h.1)])
              have hLEN : (itoaF y).length ≤ 26 := by rw [← HSQ.out]; omega
              go_wp2_with (first
                | (go_at_call 35; (with_reducible refine (KI.out _).mono ?_); rintro e w' ⟨rfl, hb'⟩; replace HSB := hid (HSB.out.call hb'); clear hb')
                | (go_at_call 33; (with_reducible refine (SB.write w _ _ _ _ _ HSB.out (by have := HLN.out; simp at hLEN ⊢; omega)).mono ?_); rintro e w4 ⟨rfl, hs4⟩; replace HSB := hid hs4; clear hs4))
              go_roundw
              case rel => exact ⟨k + 1, _, by omega, by go_num, HSB.out, by simp at hLEN ⊢ <;> omega, hid (.inr ⟨by omega, by rw [HS.out, HSQ.out] <;> simp⟩)⟩
              case measure => simp [intOf]; omega
          · have hT2 : T = x ++ (seqTail itoaF (C.drop k) ++ [109]) := by
              rcases hT.out with ⟨h, _⟩ | ⟨_, h⟩
              · omega
              · exact h
            have HS := hid (show T = x ++ 59 :: codeSeq itoaF y ++ (seqTail itoaF (C.drop (k + 1)) ++ [109]) by rw [hT2, HD.out]; simp [seqTail])
            clear hT hT2 HD
            have hk0' : (0 : Int) < (k : Int) := by omega
            by_cases c1 : (1000 : Int) ≤ y
            · by_cases c2 : y ≤ 1255
              · have KI := hid (fun (w' : World) => ItoaZ_calls (y - 1000) w' (by omega) (by omega))
                have HSQ := hid (show codeSeq itoaF y = [51, 56, 59, 53, 59] ++ itoaF (y - 1000) by unfold codeSeq; rw [if_pos ⟨c1, c2⟩])
                have hLEN : ([51, 56, 59, 53, 59] ++ itoaF (y - 1000)).length ≤ 26 := by rw [← HSQ.out]; omega
                have hov : ¬ 9223372036854775807 < 5 + (itoaF (y - 1000)).length := by simp at hLEN; omega
                go_wp2_with (first
                  | (go_at_call 34; (with_reducible refine (SB.rune w _ _ _ _ HSB.out (by have := HLN.out; omega)).mono ?_); rintro e w9 ⟨⟨n9, rfl⟩, hs9⟩; replace HSB := hid hs9; clear hs9)
                  | (go_at_call 35; (with_reducible refine (K38.out _).mono ?_); rintro e w' ⟨rfl, hb'⟩; replace HSB := hid (HSB.out.call hb'); clear hb')
                  | (go_at_call 35; (with_reducible refine (K5.out _).mono ?_); rintro e w' ⟨rfl, hb'⟩; replace HSB := hid (HSB.out.call hb'); clear hb')
                  | (go_at_call 35; (with_reducible refine (KI.out _).mono ?_); rintro e w' ⟨rfl, hb'⟩; replace HSB := hid (HSB.out.call hb'); clear hb')
                  | (go_at_call 33; (with_reducible refine (SB.write w _ _ _ _ _ HSB.out (by have := HLN.out; simp at hLEN ⊢; omega)).mono ?_); rintro e w4 ⟨rfl, hs4⟩; replace HSB := hid hs4; clear hs4))
                go_roundw
                case rel => exact ⟨k + 1, _, by omega, by go_num, HSB.out, by simp at hLEN ⊢ <;> omega, hid (.inr ⟨by omega, by rw [HS.out, HSQ.out] <;> simp⟩)⟩
                case measure => simp [intOf]; omega
              · by_cases c3 : (2000 : Int) ≤ y
                · by_cases c4 : y ≤ 2255
                  · have KI := hid (fun (w' : World) => ItoaZ_calls (y - 2000) w' (by omega) (by omega))
                    have HSQ := hid (show codeSeq itoaF y = [52, 56, 59, 53, 59] ++ itoaF (y - 2000) by unfold codeSeq; rw [if_neg (fun h => c2 h.2), if_pos ⟨c3, c4⟩])
                    have hLEN : ([52, 56, 59, 53, 59] ++ itoaF (y - 2000)).length ≤ 26 := by rw [← HSQ.out]; omega
                    have hov : ¬ 9223372036854775807 < 5 + (itoaF (y - 2000)).length := by simp at hLEN; omega
                    go_wp2_with (first
                      | (go_at_call 34; (with_reducible refine (SB.rune w _ _ _ _ HSB.out (by have := HLN.out; omega)).mono ?_); rintro e w9 ⟨⟨n9, rfl⟩, hs9⟩; replace HSB := hid hs9; clear hs9)
                      | (go_at_call 35; (with_reducible refine (K48.out _).mono ?_); rintro e w' ⟨rfl, hb'⟩; replace HSB := hid (HSB.out.call hb'); clear hb')
                      | (go_at_call 35; (with_reducible refine (K5.out _).mono ?_); rintro e w' ⟨rfl, hb'⟩; replace HSB := hid (HSB.out.call hb'); clear hb')
                      | (go_at_call 35; (with_reducible refine (KI.out _).mono ?_); rintro e w' ⟨rfl, hb'⟩; replace HSB := hid (HSB.out.call hb'); clear hb')
                      | (go_at_call 33; (with_reducible refine (SB.write w _ _ _ _ _ HSB.out (by have := HLN.out; simp at hLEN ⊢; omega)).mono ?_); rintro e w4 ⟨rfl, hs4⟩; replace HSB := hid hs4; clear hs4))
                    go_roundw
                    case rel => exact ⟨k + 1, _, by omega, by go_num, HSB.out, by simp at hLEN ⊢ <;> omega, hid (.inr ⟨by omega, by rw [HS.out, HSQ.out] <;> simp⟩)⟩
                    case measure => simp [intOf]; omega
                  · have KI := hid (fun (w' : World) => ItoaZ_calls y w' y0 y1)
                    have HSQ := hid (show codeSeq itoaF y = itoaF y by unfold codeSeq; rw [if_neg (fun h => c2 h.2), if_neg (fun h => c4 h.2)])
                    have hLEN : (itoaF y).length ≤ 26 := by rw [← HSQ.out]; omega
                    go_wp2_with (first
                      | (go_at_call 34; (with_reducible refine (SB.rune w _ _ _ _ HSB.out (by have := HLN.out; omega)).mono ?_); rintro e w9 ⟨⟨n9, rfl⟩, hs9⟩; replace HSB := hid hs9; clear hs9)
                      | (go_at_call 35; (with_reducible refine (KI.out _).mono ?_); rintro e w' ⟨rfl, hb'⟩; replace HSB := hid (HSB.out.call hb'); clear hb')
                      | (go_at_call 33; (with_reducible refine (SB.write w _ _ _ _ _ HSB.out (by have := HLN.out; simp at hLEN ⊢; omega)).mono ?_); rintro e w4 ⟨rfl, hs4⟩; replace HSB := hid hs4; clear hs4))
                    go_roundw
                    case rel => exact ⟨k + 1, _, by omega, by go_num, HSB.out, by simp at hLEN ⊢ <;> omega, hid (.inr ⟨by omega, by rw [HS.out, HSQ.out] <;> simp⟩)⟩
                    case measure => simp [intOf]; omega
                · have KI := hid (fun (w' : World) => ItoaZ_calls y w' y0 y1)
                  have HSQ := hid (show codeSeq itoaF y = itoaF y by unfold codeSeq; rw [if_neg (fun h => c2 h.2), if_neg (fun h => c3 h.1)])
                  have hLEN : (itoaF y).length ≤ 26 := by rw [← HSQ.out]; omega
                  go_wp2_with (first
                    | (go_at_call 34; (with_reducible refine (SB.rune w _ _ _ _ HSB.out (by have := HLN.out; omega)).mono ?_); rintro e w9 ⟨⟨n9, rfl⟩, hs9⟩; replace HSB := hid hs9; clear hs9)
                    | (go_at_call 35; (with_reducible refine (KI.out _).mono ?_); rintro e w' ⟨rfl, hb'⟩; replace HSB := hid (HSB.out.call hb'); clear hb')
                    | (go_at_call 33; (with_reducible refine (SB.write w _ _ _ _ _ HSB.out (by have := HLN.out; simp at hLEN ⊢; omega)).mono ?_); rintro e w4 ⟨rfl, hs4⟩; replace HSB := hid hs4; clear hs4))
                  go_roundw
                  case rel => exact ⟨k + 1, _, by omega, by go_num, HSB.out, by simp at hLEN ⊢ <;> omega, hid (.inr ⟨by omega, by rw [HS.out, HSQ.out] <;> simp⟩)⟩
                  case measure => simp [intOf]; omega
            · have c3 : ¬ (2000 : Int) ≤ y := by omega
              have KI := hid (fun (w' : World) => ItoaZ_calls y w' y0 y1)
              have HSQ := hid (show codeSeq itoaF y = itoaF y by unfold codeSeq; rw [if_neg (fun h => c1 h.1), if_neg (fun h => c3 h.1)])
              have hLEN : (itoaF y).length ≤ 26 := by rw [← HSQ.out]; omega
              go_wp2_with (first
                | (go_at_call 34; (with_reducible refine (SB.rune w _ _ _ _ HSB.out (by have := HLN.out; omega)).mono ?_); rintro e w9 ⟨⟨n9, rfl⟩, hs9⟩; replace HSB := hid hs9; clear hs9)
                | (go_at_call 35; (with_reducible refine (KI.out _).mono ?_); rintro e w' ⟨rfl, hb'⟩; replace HSB := hid (HSB.out.call hb'); clear hb')
                | (go_at_call 33; (with_reducible refine (SB.write w _ _ _ _ _ HSB.out (by have := HLN.out; simp at hLEN ⊢; omega)).mono ?_); rintro e w4 ⟨rfl, hs4⟩; replace HSB := hid hs4; clear hs4))
              go_roundw
              case rel => exact ⟨k + 1, _, by omega, by go_num, HSB.out, by simp at hLEN ⊢ <;> omega, hid (.inr ⟨by omega, by rw [HS.out, HSQ.out] <;> simp⟩)⟩
              case measure => simp [intOf]; omega
        · have hk2 : k = C.length := by omega
          have HS := hid (show T = x ++ [109] by
            rcases hT.out with ⟨h, _⟩ | ⟨_, h⟩
            · omega
            · rw [h, hk2, List.drop_length]; rfl)
          have HLN := hid (show x.length + 100 ≤ 140737488355328 by have := HL.out; omega)
          have HSB := hid hsb
          clear hT hsb
          have hlt' : ¬ (k : Int) < (C.length : Int) := by omega
          go_wp2_with (first
            | (go_at_call 33; (with_reducible refine (SB.write w _ _ _ _ _ HSB.out (by have := HLN.out; simp; omega)).mono ?_); rintro e w4 ⟨rfl, hs4⟩)
            | (go_at_call 36; (with_reducible refine (String_st w _ _ hs4.st).mono ?_); rintro e w5 ⟨rfl, hs5⟩))
          go_ret
          exact ⟨ret_str HS.out.symm, hs5.below⟩
end Go.Proofs.YtmljkiohekogbaaGreatDoor
