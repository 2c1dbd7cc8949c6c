import Derived.Test.YtmljkiohekogbaaGreatDoorMq
import Derived.Deep.RegionHeld3
import Derived.StillTailTactics
namespace Go.Proofs.YtmljkiohekogbaaGreatDoor
open Go.RowKit Go.Maps
set_option linter.unusedVariables false
set_option linter.unusedSimpArgs false
set_option maxHeartbeats 8000000
set_option maxRecDepth 100000
attribute [local go_sem] S_extract S_append run_cut_S run_head_S run_tail_S Nat.add_sub_cancel_left

/-- what comes behind the opening -/
def rest (q : PSt) (r : Int) : PSt :=
  let e := q.esc ++ Lib.encodeRune r
  if 2048 < e.length then q.reset
  else if (q.kind = 2 ∧ conceal.isPrefixOf e = true ∧ r = 7) ∨ stopRune e q.kind r = true then ({ q with codes := parseSeq atoiF Lib.trimSpaceD e q.kind q.codes }).reset
  else { q with esc := e }
theorem consume_rest {st q : PSt} {r : Int} (h : st.opened r = q) (hq : q.inn = true) : st.consume atoiF Lib.trimSpaceD r = rest q r := by
  unfold PSt.consume rest
  rw [h]
  simp [hq]
def full (q : PSt) (el : List UInt8) : PSt := { q with esc := el }
def parsed (q : PSt) (el : List UInt8) : PSt := { (full q el) with codes := parseSeq atoiF Lib.trimSpaceD el q.kind q.codes }
theorem rest_long {q : PSt} {r : Int} {el : List UInt8} (h : el = q.esc ++ Lib.encodeRune r) (h1 : 2048 < el.length) : rest q r = (full q el).reset := by
  unfold rest; rw [← h]; simp only [if_pos h1]; rfl
theorem rest_bell {q : PSt} {r : Int} {el : List UInt8} (h : el = q.esc ++ Lib.encodeRune r) (h1 : ¬2048 < el.length) (h2 : (q.kind == 2) = true) (h3 : conceal.isPrefixOf el = true) (h4 : (r == 7) = true) : rest q r = (parsed q el).reset := by
  unfold rest; rw [← h]; simp only [if_neg h1, if_pos (show (q.kind = 2 ∧ conceal.isPrefixOf el = true ∧ r = 7) ∨ stopRune el q.kind r = true from .inl ⟨by simpa using h2, h3, by simpa using h4⟩)]; rfl
theorem rest_stop {q : PSt} {r : Int} {el : List UInt8} (h : el = q.esc ++ Lib.encodeRune r) (h1 : ¬2048 < el.length) (h2 : stopRune el q.kind r = true) : rest q r = (parsed q el).reset := by
  unfold rest; rw [← h]; simp only [if_neg h1, if_pos (show (q.kind = 2 ∧ conceal.isPrefixOf el = true ∧ r = 7) ∨ stopRune el q.kind r = true from .inr h2)]; rfl
theorem rest_go {q : PSt} {r : Int} {el : List UInt8} (h : el = q.esc ++ Lib.encodeRune r) (h1 : ¬2048 < el.length) (h2 : stopRune el q.kind r = false) (h3 : (q.kind == 2) = false ∨ conceal.isPrefixOf el = false ∨ (r == 7) = false) : rest q r = full q el := by
  unfold rest; rw [← h]; simp only [if_neg h1]
  rw [if_neg]
  · rfl
  · rintro (⟨a, b, c⟩ | a)
    · rcases h3 with h | h | h
      · simp [a] at h
      · rw [b] at h; cases h
      · simp [c] at h
    · rw [h2] at a; cases a
theorem own_slice' {w : World} {base p : Nat} {cm ev : Value} {st : PSt} (h : PA w base p cm ev st) : ∃ A c, ev = .slice A st.esc.length c ∧ st.esc.length ≤ c := by
  obtain ⟨A, c, h1, h2, _⟩ := own_slice h.own
  exact ⟨A, c, h1, h2⟩
theorem PA.rune' {w w1 : World} {base p : Nat} {cm ev v' : Value} {q : PSt} {r : Int} {el : List UInt8} {o : Obj} (hel : el = q.esc ++ Lib.encodeRune r) (hbw : base ≤ w.heap.size) (H : PA w base p cm ev q) (h1 : w1.ownsRow base 5 1 v' (q.esc.length + (Lib.runeCells r).length) (Lib.byteCells q.esc ++ Lib.runeCells r)) (hg : (w.alloc o).grownBy w1 ev.ownBlock) :
    ∃ A1 c1, v' = .slice A1 el.length c1 ∧ w1.cell? ⟨p, 3, none⟩ = some ev ∧ w1.frozen? ⟨p, 3, none⟩ = false ∧ PA (w1.setCell ⟨p, 3, none⟩ (.slice A1 el.length c1)) base p cm (.slice A1 el.length c1) (full q el) ∧ MF w (w1.setCell ⟨p, 3, none⟩ (.slice A1 el.length c1)) base cm cm := by
  obtain ⟨a, b, c, d⟩ := PA.rune hbw H h1 hg
  subst hel
  obtain ⟨A1, c1, e, _⟩ := own_slice' c
  change v' = .slice A1 (q.esc ++ Lib.encodeRune r).length c1 at e
  subst e
  exact ⟨A1, c1, rfl, a, b, c, d⟩
theorem PPost.done {w w' : World} {base p : Nat} {cm ev : Value} {st st' : PSt} (h : st' = st) (H : PA w' base p cm ev st) (F : MF w w' base cm cm) : PPost w base p cm st' (.returned (.tuple #[])) w' := by
  subst h; exact ⟨rfl, cm, ev, H, F⟩
theorem ParsePost.post {w w' : World} {base p : Nat} {cm ev : Value} {q : PSt} {el : List UInt8} {e : Ending} (h : ParsePost w base p cm ev (full q el) (parseSeq atoiF Lib.trimSpaceD el q.kind q.codes) e w') : e = .returned (.tuple #[]) ∧ ∃ cm', PA w' base p cm' ev (parsed q el) ∧ MF w w' base cm cm' := by
  obtain ⟨h1, b, _, h2, _, h3⟩ := h
  exact ⟨h1, _, h2, h3⟩
theorem ParseSeq_drew (base p : Nat) (cm ev : Value) (q : PSt) (el : List UInt8) (w : World) (hbw : base ≤ w.heap.size) (hs : el.length ≤ 10000000) (ht : Tabs base w) (H : PA w base p cm ev (full q el)) (hl : q.codes.length ≤ 8000000000000000) :
    Calls Tryz.prog 30 #[.pointer (some ⟨p, 0, none⟩), .string ⟨el.toArray⟩, .int .i64 q.kind] w.drew fun e w' => e = .returned (.tuple #[]) ∧ ∃ cm', PA w' base p cm' ev (parsed q el) ∧ MF w w' base cm cm' := by
  have hd : Below w.heap.size w w.drew := ⟨rfl, rfl, rfl, Nat.le_refl _, fun _ _ => rfl⟩
  refine (ParseSeq_calls base p cm ev (full q el) el q.kind w.drew hbw hs (ht.below (hd.mono hbw)) (H.below hd) hl).mono fun e w' h => ?_
  obtain ⟨h1, cm', h2, h3⟩ := ParsePost.post h
  exact ⟨h1, cm', h2, (MF.of_below cm hd hbw).trans h3⟩
theorem consume_in (base p : Nat) (cm : Value) (st : PSt) (r : Int) (w : World) (ev : Value) (hbw : base ≤ w.heap.size) (ht : Tabs base w) (H : PA w base p cm ev st) (hr0 : -2147483648 ≤ r) (hr1 : r ≤ 2147483647) (hl : st.codes.length ≤ 8000000000000000) (hes : st.esc.length ≤ 2048)
    (hx : (st.inn = false ∧ r = 27) ∨ st.inn = true) : ConsSaid base p cm st r w := by
  obtain ⟨z0, z1, z2, z3, f0, f1, f2, f3⟩ := H.facts
  obtain ⟨A, c, rfl, hc, hA⟩ := own_slice H.own
  have HT := hid ht
  have HSZ := hid hbw
  have HR0 := hid hr0
  have HR1 := hid hr1
  rcases hx with ⟨hi, rfl⟩ | hi
  · have ho : st.opened 27 = { st with inn := true, kind := 0, esc := [] } := by unfold PSt.opened; rw [if_pos ⟨hi, rfl⟩]
    have H1 := H.set (st' := { st with inn := true }) 1 (.bool true) rfl rfl (.inl ⟨rfl, rfl⟩)
    have H2 := H1.set (st' := { st with inn := true, kind := 0 }) 2 (.int .i64 0) rfl rfl (.inl ⟨rfl, rfl⟩)
    have H3 := H2.setEsc (OwnB.cut0 H2.own)
    have m1 := MF.of_set cm H.row H.le 1 (.bool true)
    have m2 := MF.of_set cm H1.row H.le 2 (.int .i64 0)
    have m3 := MF.of_set cm H2.row H.le 3 (.slice A 0 c)
    have FQ := hid ((m1.trans m2).trans m3)
    obtain ⟨q, hq⟩ : ∃ q : PSt, q = { st with inn := true, kind := 0, esc := [] } := ⟨_, rfl⟩
    have PQ := hid (show PA (((w.setCell ⟨p, 1, none⟩ (.bool true)).setCell ⟨p, 2, none⟩ (.int .i64 0)).setCell ⟨p, 3, none⟩ (.slice A 0 c)) base p cm (.slice A 0 c) q by rw [hq]; exact H3)
    have HQ := hid (show q.inn = true by rw [hq])
    have HC := hid (consume_rest (ho.trans hq.symm) HQ.out)
    have HL := hid (show q.codes.length ≤ 8000000000000000 by rw [hq]; exact hl)
    have HE := hid (show q.esc.length ≤ 2048 by rw [hq]; simp)
    rw [hi] at z1
    clear H H1 H2 H3 m1 m2 m3 ho hi hc hbw ht hl hes hq hr0 hr1
    cases A with
    | none =>
      have hc0 := hA rfl
      subst hc0
      clear hA
      go_enter Tryz.func16, Tryz.ntmps16
      go_upto_region 10 with (fail)
      clear z0 z1 z2 z3 f0 f1 f2 f3
      generalize (((w.setCell ⟨p, 1, none⟩ (.bool true)).setCell ⟨p, 2, none⟩ (.int .i64 0)).setCell ⟨p, 3, none⟩ (.slice none 0 0)) = w0 at *
      generalize (Value.slice none 0 0) = ev0 at *
      obtain ⟨y0, y1, y2, y3, g0, g1, g2, g3⟩ := PQ.out.facts
      rw [HQ.out] at y1
      have hBw := Nat.le_trans HSZ.out FQ.out.below.size
      have KR := hid (Tryz.utf8_AppendRune_plain base _ q.esc.length (Lib.byteCells q.esc) 27 HR0.out HR1.out _ PQ.out.own (by have := HE.out; omega) hBw)
      obtain ⟨el, hel⟩ : ∃ el, el = q.esc ++ Lib.encodeRune 27 := ⟨_, rfl⟩
      have HEQ := hid hel
      clear hel
      go_upto_region 12 with (go_at_call 28; (with_reducible refine KR.out.mono ?_); rintro e w1 ⟨v1, rfl, hown1, o, hg1⟩; obtain ⟨A1, c1, rfl, x3, k3, pe, fe⟩ := PA.rune' HEQ.out hBw PQ.out hown1 hg1; have PW := hid pe; have FW := hid (FQ.out.trans fe); clear hown1 hg1 pe fe)
      clear y0 y1 y2 y3 g0 g1 g2 g3 KR
      generalize hw2 : (w1.setCell ⟨p, 3, none⟩ (.slice A1 el.length c1)) = w2 at *
      clear hw2 x3 k3 FQ PQ hBw
      obtain ⟨y0, y1, y2, y3, g0, g1, g2, g3⟩ := PW.out.facts
      have HQ2 := hid (show (full q el).inn = true from HQ.out)
      rw [HQ2.out] at y1
      change w2.cell? ⟨p, 2, none⟩ = some (.int .i64 q.kind) at y2
      by_cases hb : 2048 < el.length
      · have hb' : (2048 : Int) < (el.length : Int) := by omega
        have HRS := hid (rest_long HEQ.out hb)
        have PR := hid PW.out
        have FR := hid FW.out
        clear hb
        go_wp2_with (first
          | (go_at_call 18; (with_reducible refine (Reset_calls base p _ _ _ _ PR.out).mono ?_); rintro e w7 ⟨rfl, cm7, ev7, p7, f7⟩; have HF := hid (show PPost w base p cm (st.consume atoiF Lib.trimSpaceD 27) (.returned (.tuple #[])) w7 from ⟨rfl, cm7, ev7, by rw [HC.out, HRS.out]; exact p7, FR.out.trans f7⟩); clear p7 f7))
        go_end0
        exact HF.out
      · have hb' : ¬(2048 : Int) < (el.length : Int) := by omega
        have HEL := hid (show (full q el).esc.length ≤ 1000000000 by show el.length ≤ _; omega)
        have HEL2 := hid (show el.length ≤ 10000000 by omega)
        have HNB := hid hb
        clear hb
        cases k2 : (q.kind == 2)
        · have HRG := hid (fun h => rest_go HEQ.out HNB.out h (.inl k2))
          have HRP := hid (fun h => rest_stop HEQ.out HNB.out h)
          have KST := hid (fun w' ev' (h : PA w' base p cm ev' (full q el)) => stopRune_calls base p cm ev' (full q el) 27 w' h HEL.out)
          cases hs : stopRune (full q el).esc (full q el).kind 27
          · have HRS := hid (HRG.out hs)
            rw [hs] at KST
            clear hs
            go_wp2_with (first | fail | (go_at_call 31; (with_reducible refine (KST.out _ _ PW.out).mono ?_); rintro e w4 ⟨rfl, hb4⟩; have PX := hid (PW.out.below hb4); have FX := hid (FW.out.trans (MF.of_below cm hb4 (Nat.le_trans HSZ.out FW.out.below.size))); obtain ⟨s0, s1, s2, s3, -⟩ := PX.out.facts; clear hb4))
            go_end0
            exact PPost.done (HC.out.trans HRS.out) PX.out FX.out
          · have HRS := hid (HRP.out hs)
            rw [hs] at KST
            clear hs
            go_upto_region 18 with (first | fail | (go_at_call 31; (with_reducible refine (KST.out _ _ PW.out).mono ?_); rintro e w4 ⟨rfl, hb4⟩; have PX := hid (PW.out.below hb4); have FX := hid (FW.out.trans (MF.of_below cm hb4 (Nat.le_trans HSZ.out FW.out.below.size))); obtain ⟨s0, s1, s2, s3, -⟩ := PX.out.facts; clear hb4))
            clear KST HRG HRP
            rw [HQ2.out] at s1
            change World.cell? _ ⟨p, 2, none⟩ = some (.int .i64 q.kind) at s2
            have HB := hid (Nat.le_trans HSZ.out FX.out.below.size)
            have KP := hid (ParseSeq_drew base p cm _ q el _ HB.out HEL2.out (HT.out.below FX.out.below) PX.out HL.out)
            have hcv0 := convert_S _ Tryz.underlying49 Tryz.underlying5 Tryz.underlying9 PX.out.own
            change (convert _ _ (.slice A1 el.length c1)).run _ _ = .ok (.string ⟨el.toArray⟩) _ at hcv0
            have hcv := convert_S _ Tryz.underlying49 Tryz.underlying5 Tryz.underlying9 PX.out.drew.own
            change (convert _ _ (.slice A1 el.length c1)).run _ _ = .ok (.string ⟨el.toArray⟩) _ at hcv
            go_still_tail 10, (by kernel_rfl)
            go_wp2_with (first
              | (go_at_call 30; (with_reducible refine KP.out.mono ?_); rintro e w6 ⟨rfl, cm6, p6, f6⟩; have PR := hid p6; have FR := hid (FX.out.trans f6); clear p6 f6)
              | (go_at_call 18; (with_reducible refine (Reset_calls base p _ _ _ _ PR.out).mono ?_); rintro e w7 ⟨rfl, cm7, ev7, p7, f7⟩; have HF := hid (show PPost w base p cm (st.consume atoiF Lib.trimSpaceD 27) (.returned (.tuple #[])) w7 from ⟨rfl, cm7, ev7, by rw [HC.out, HRS.out]; exact p7, FR.out.trans f7⟩); clear p7 f7))
            go_end0
            exact HF.out
        · have KCN := hid (fun fz => conceal_calls w2 base _ (full q el).esc PW.out.own fz)
          have kc := fun (w : World) (C : Array Value) (n c : Nat) => Lib.run_convert_bytes_const (P := Tryz.prog) w 49 5 C n c Tryz.underlying49 Tryz.underlying5
          cases hcn : conceal.isPrefixOf (full q el).esc
          · rw [hcn] at KCN
            have HRG := hid (fun h => rest_go HEQ.out HNB.out h (.inr (.inl hcn)))
            have HRP := hid (fun h => rest_stop HEQ.out HNB.out h)
            have KST := hid (fun w' ev' (h : PA w' base p cm ev' (full q el)) => stopRune_calls base p cm ev' (full q el) 27 w' h HEL.out)
            cases hs : stopRune (full q el).esc (full q el).kind 27
            · have HRS := hid (HRG.out hs)
              rw [hs] at KST
              clear hs
              go_wp2_with (first | (go_at_call 29; (with_reducible refine (KCN.out _).mono ?_); rintro e w3 ⟨rfl, hb3⟩; have PW := hid (PW.out.below hb3); have FW := hid (FW.out.trans (MF.of_below cm hb3 (Nat.le_trans HSZ.out FW.out.below.size))); obtain ⟨u0, u1, u2, u3, -⟩ := PW.out.facts; clear hb3) | (go_at_call 31; (with_reducible refine (KST.out _ _ PW.out).mono ?_); rintro e w4 ⟨rfl, hb4⟩; have PX := hid (PW.out.below hb4); have FX := hid (FW.out.trans (MF.of_below cm hb4 (Nat.le_trans HSZ.out FW.out.below.size))); obtain ⟨s0, s1, s2, s3, -⟩ := PX.out.facts; clear hb4))
              go_end0
              exact PPost.done (HC.out.trans HRS.out) PX.out FX.out
            · have HRS := hid (HRP.out hs)
              rw [hs] at KST
              clear hs
              go_upto_region 18 with (first | (go_at_call 29; (with_reducible refine (KCN.out _).mono ?_); rintro e w3 ⟨rfl, hb3⟩; have PW := hid (PW.out.below hb3); have FW := hid (FW.out.trans (MF.of_below cm hb3 (Nat.le_trans HSZ.out FW.out.below.size))); obtain ⟨u0, u1, u2, u3, -⟩ := PW.out.facts; clear hb3) | (go_at_call 31; (with_reducible refine (KST.out _ _ PW.out).mono ?_); rintro e w4 ⟨rfl, hb4⟩; have PX := hid (PW.out.below hb4); have FX := hid (FW.out.trans (MF.of_below cm hb4 (Nat.le_trans HSZ.out FW.out.below.size))); obtain ⟨s0, s1, s2, s3, -⟩ := PX.out.facts; clear hb4))
              clear KST HRG HRP
              rw [HQ2.out] at s1
              change World.cell? _ ⟨p, 2, none⟩ = some (.int .i64 q.kind) at s2
              have HB := hid (Nat.le_trans HSZ.out FX.out.below.size)
              have KP := hid (ParseSeq_drew base p cm _ q el _ HB.out HEL2.out (HT.out.below FX.out.below) PX.out HL.out)
              have hcv0 := convert_S _ Tryz.underlying49 Tryz.underlying5 Tryz.underlying9 PX.out.own
              change (convert _ _ (.slice A1 el.length c1)).run _ _ = .ok (.string ⟨el.toArray⟩) _ at hcv0
              have hcv := convert_S _ Tryz.underlying49 Tryz.underlying5 Tryz.underlying9 PX.out.drew.own
              change (convert _ _ (.slice A1 el.length c1)).run _ _ = .ok (.string ⟨el.toArray⟩) _ at hcv
              go_still_tail 10, (by kernel_rfl)
              go_wp2_with (first
                | (go_at_call 30; (with_reducible refine KP.out.mono ?_); rintro e w6 ⟨rfl, cm6, p6, f6⟩; have PR := hid p6; have FR := hid (FX.out.trans f6); clear p6 f6)
                | (go_at_call 18; (with_reducible refine (Reset_calls base p _ _ _ _ PR.out).mono ?_); rintro e w7 ⟨rfl, cm7, ev7, p7, f7⟩; have HF := hid (show PPost w base p cm (st.consume atoiF Lib.trimSpaceD 27) (.returned (.tuple #[])) w7 from ⟨rfl, cm7, ev7, by rw [HC.out, HRS.out]; exact p7, FR.out.trans f7⟩); clear p7 f7))
              go_end0
              exact HF.out
          · rw [hcn] at KCN
            cases h7 : (27 == 7)
            · have HRG := hid (fun h => rest_go HEQ.out HNB.out h (.inr (.inr h7)))
              have HRP := hid (fun h => rest_stop HEQ.out HNB.out h)
              have KST := hid (fun w' ev' (h : PA w' base p cm ev' (full q el)) => stopRune_calls base p cm ev' (full q el) 27 w' h HEL.out)
              cases hs : stopRune (full q el).esc (full q el).kind 27
              · have HRS := hid (HRG.out hs)
                rw [hs] at KST
                clear hs
                go_wp2_with (first | (go_at_call 29; (with_reducible refine (KCN.out _).mono ?_); rintro e w3 ⟨rfl, hb3⟩; have PW := hid (PW.out.below hb3); have FW := hid (FW.out.trans (MF.of_below cm hb3 (Nat.le_trans HSZ.out FW.out.below.size))); obtain ⟨u0, u1, u2, u3, -⟩ := PW.out.facts; clear hb3) | (go_at_call 31; (with_reducible refine (KST.out _ _ PW.out).mono ?_); rintro e w4 ⟨rfl, hb4⟩; have PX := hid (PW.out.below hb4); have FX := hid (FW.out.trans (MF.of_below cm hb4 (Nat.le_trans HSZ.out FW.out.below.size))); obtain ⟨s0, s1, s2, s3, -⟩ := PX.out.facts; clear hb4))
                go_end0
                exact PPost.done (HC.out.trans HRS.out) PX.out FX.out
              · have HRS := hid (HRP.out hs)
                rw [hs] at KST
                clear hs
                go_upto_region 18 with (first | (go_at_call 29; (with_reducible refine (KCN.out _).mono ?_); rintro e w3 ⟨rfl, hb3⟩; have PW := hid (PW.out.below hb3); have FW := hid (FW.out.trans (MF.of_below cm hb3 (Nat.le_trans HSZ.out FW.out.below.size))); obtain ⟨u0, u1, u2, u3, -⟩ := PW.out.facts; clear hb3) | (go_at_call 31; (with_reducible refine (KST.out _ _ PW.out).mono ?_); rintro e w4 ⟨rfl, hb4⟩; have PX := hid (PW.out.below hb4); have FX := hid (FW.out.trans (MF.of_below cm hb4 (Nat.le_trans HSZ.out FW.out.below.size))); obtain ⟨s0, s1, s2, s3, -⟩ := PX.out.facts; clear hb4))
                clear KST HRG HRP
                rw [HQ2.out] at s1
                change World.cell? _ ⟨p, 2, none⟩ = some (.int .i64 q.kind) at s2
                have HB := hid (Nat.le_trans HSZ.out FX.out.below.size)
                have KP := hid (ParseSeq_drew base p cm _ q el _ HB.out HEL2.out (HT.out.below FX.out.below) PX.out HL.out)
                have hcv0 := convert_S _ Tryz.underlying49 Tryz.underlying5 Tryz.underlying9 PX.out.own
                change (convert _ _ (.slice A1 el.length c1)).run _ _ = .ok (.string ⟨el.toArray⟩) _ at hcv0
                have hcv := convert_S _ Tryz.underlying49 Tryz.underlying5 Tryz.underlying9 PX.out.drew.own
                change (convert _ _ (.slice A1 el.length c1)).run _ _ = .ok (.string ⟨el.toArray⟩) _ at hcv
                go_still_tail 10, (by kernel_rfl)
                go_wp2_with (first
                  | (go_at_call 30; (with_reducible refine KP.out.mono ?_); rintro e w6 ⟨rfl, cm6, p6, f6⟩; have PR := hid p6; have FR := hid (FX.out.trans f6); clear p6 f6)
                  | (go_at_call 18; (with_reducible refine (Reset_calls base p _ _ _ _ PR.out).mono ?_); rintro e w7 ⟨rfl, cm7, ev7, p7, f7⟩; have HF := hid (show PPost w base p cm (st.consume atoiF Lib.trimSpaceD 27) (.returned (.tuple #[])) w7 from ⟨rfl, cm7, ev7, by rw [HC.out, HRS.out]; exact p7, FR.out.trans f7⟩); clear p7 f7))
                go_end0
                exact HF.out
            · exact absurd h7 (by decide)
    | some a =>
      clear hA
      go_enter Tryz.func16, Tryz.ntmps16
      go_upto_region 10 with (fail)
      clear z0 z1 z2 z3 f0 f1 f2 f3
      generalize (((w.setCell ⟨p, 1, none⟩ (.bool true)).setCell ⟨p, 2, none⟩ (.int .i64 0)).setCell ⟨p, 3, none⟩ (.slice (some a) 0 c)) = w0 at *
      generalize (Value.slice (some a) 0 c) = ev0 at *
      obtain ⟨y0, y1, y2, y3, g0, g1, g2, g3⟩ := PQ.out.facts
      rw [HQ.out] at y1
      have hBw := Nat.le_trans HSZ.out FQ.out.below.size
      have KR := hid (Tryz.utf8_AppendRune_plain base _ q.esc.length (Lib.byteCells q.esc) 27 HR0.out HR1.out _ PQ.out.own (by have := HE.out; omega) hBw)
      obtain ⟨el, hel⟩ : ∃ el, el = q.esc ++ Lib.encodeRune 27 := ⟨_, rfl⟩
      have HEQ := hid hel
      clear hel
      go_upto_region 12 with (go_at_call 28; (with_reducible refine KR.out.mono ?_); rintro e w1 ⟨v1, rfl, hown1, o, hg1⟩; obtain ⟨A1, c1, rfl, x3, k3, pe, fe⟩ := PA.rune' HEQ.out hBw PQ.out hown1 hg1; have PW := hid pe; have FW := hid (FQ.out.trans fe); clear hown1 hg1 pe fe)
      clear y0 y1 y2 y3 g0 g1 g2 g3 KR
      generalize hw2 : (w1.setCell ⟨p, 3, none⟩ (.slice A1 el.length c1)) = w2 at *
      clear hw2 x3 k3 FQ PQ hBw
      obtain ⟨y0, y1, y2, y3, g0, g1, g2, g3⟩ := PW.out.facts
      have HQ2 := hid (show (full q el).inn = true from HQ.out)
      rw [HQ2.out] at y1
      change w2.cell? ⟨p, 2, none⟩ = some (.int .i64 q.kind) at y2
      by_cases hb : 2048 < el.length
      · have hb' : (2048 : Int) < (el.length : Int) := by omega
        have HRS := hid (rest_long HEQ.out hb)
        have PR := hid PW.out
        have FR := hid FW.out
        clear hb
        go_wp2_with (first
          | (go_at_call 18; (with_reducible refine (Reset_calls base p _ _ _ _ PR.out).mono ?_); rintro e w7 ⟨rfl, cm7, ev7, p7, f7⟩; have HF := hid (show PPost w base p cm (st.consume atoiF Lib.trimSpaceD 27) (.returned (.tuple #[])) w7 from ⟨rfl, cm7, ev7, by rw [HC.out, HRS.out]; exact p7, FR.out.trans f7⟩); clear p7 f7))
        go_end0
        exact HF.out
      · have hb' : ¬(2048 : Int) < (el.length : Int) := by omega
        have HEL := hid (show (full q el).esc.length ≤ 1000000000 by show el.length ≤ _; omega)
        have HEL2 := hid (show el.length ≤ 10000000 by omega)
        have HNB := hid hb
        clear hb
        cases k2 : (q.kind == 2)
        · have HRG := hid (fun h => rest_go HEQ.out HNB.out h (.inl k2))
          have HRP := hid (fun h => rest_stop HEQ.out HNB.out h)
          have KST := hid (fun w' ev' (h : PA w' base p cm ev' (full q el)) => stopRune_calls base p cm ev' (full q el) 27 w' h HEL.out)
          cases hs : stopRune (full q el).esc (full q el).kind 27
          · have HRS := hid (HRG.out hs)
            rw [hs] at KST
            clear hs
            go_wp2_with (first | fail | (go_at_call 31; (with_reducible refine (KST.out _ _ PW.out).mono ?_); rintro e w4 ⟨rfl, hb4⟩; have PX := hid (PW.out.below hb4); have FX := hid (FW.out.trans (MF.of_below cm hb4 (Nat.le_trans HSZ.out FW.out.below.size))); obtain ⟨s0, s1, s2, s3, -⟩ := PX.out.facts; clear hb4))
            go_end0
            exact PPost.done (HC.out.trans HRS.out) PX.out FX.out
          · have HRS := hid (HRP.out hs)
            rw [hs] at KST
            clear hs
            go_upto_region 18 with (first | fail | (go_at_call 31; (with_reducible refine (KST.out _ _ PW.out).mono ?_); rintro e w4 ⟨rfl, hb4⟩; have PX := hid (PW.out.below hb4); have FX := hid (FW.out.trans (MF.of_below cm hb4 (Nat.le_trans HSZ.out FW.out.below.size))); obtain ⟨s0, s1, s2, s3, -⟩ := PX.out.facts; clear hb4))
            clear KST HRG HRP
            rw [HQ2.out] at s1
            change World.cell? _ ⟨p, 2, none⟩ = some (.int .i64 q.kind) at s2
            have HB := hid (Nat.le_trans HSZ.out FX.out.below.size)
            have KP := hid (ParseSeq_drew base p cm _ q el _ HB.out HEL2.out (HT.out.below FX.out.below) PX.out HL.out)
            have hcv0 := convert_S _ Tryz.underlying49 Tryz.underlying5 Tryz.underlying9 PX.out.own
            change (convert _ _ (.slice A1 el.length c1)).run _ _ = .ok (.string ⟨el.toArray⟩) _ at hcv0
            have hcv := convert_S _ Tryz.underlying49 Tryz.underlying5 Tryz.underlying9 PX.out.drew.own
            change (convert _ _ (.slice A1 el.length c1)).run _ _ = .ok (.string ⟨el.toArray⟩) _ at hcv
            go_still_tail 10, (by kernel_rfl)
            go_wp2_with (first
              | (go_at_call 30; (with_reducible refine KP.out.mono ?_); rintro e w6 ⟨rfl, cm6, p6, f6⟩; have PR := hid p6; have FR := hid (FX.out.trans f6); clear p6 f6)
              | (go_at_call 18; (with_reducible refine (Reset_calls base p _ _ _ _ PR.out).mono ?_); rintro e w7 ⟨rfl, cm7, ev7, p7, f7⟩; have HF := hid (show PPost w base p cm (st.consume atoiF Lib.trimSpaceD 27) (.returned (.tuple #[])) w7 from ⟨rfl, cm7, ev7, by rw [HC.out, HRS.out]; exact p7, FR.out.trans f7⟩); clear p7 f7))
            go_end0
            exact HF.out
        · have KCN := hid (fun fz => conceal_calls w2 base _ (full q el).esc PW.out.own fz)
          have kc := fun (w : World) (C : Array Value) (n c : Nat) => Lib.run_convert_bytes_const (P := Tryz.prog) w 49 5 C n c Tryz.underlying49 Tryz.underlying5
          cases hcn : conceal.isPrefixOf (full q el).esc
          · rw [hcn] at KCN
            have HRG := hid (fun h => rest_go HEQ.out HNB.out h (.inr (.inl hcn)))
            have HRP := hid (fun h => rest_stop HEQ.out HNB.out h)
            have KST := hid (fun w' ev' (h : PA w' base p cm ev' (full q el)) => stopRune_calls base p cm ev' (full q el) 27 w' h HEL.out)
            cases hs : stopRune (full q el).esc (full q el).kind 27
            · have HRS := hid (HRG.out hs)
              rw [hs] at KST
              clear hs
              go_wp2_with (first | (go_at_call 29; (with_reducible refine (KCN.out _).mono ?_); rintro e w3 ⟨rfl, hb3⟩; have PW := hid (PW.out.below hb3); have FW := hid (FW.out.trans (MF.of_below cm hb3 (Nat.le_trans HSZ.out FW.out.below.size))); obtain ⟨u0, u1, u2, u3, -⟩ := PW.out.facts; clear hb3) | (go_at_call 31; (with_reducible refine (KST.out _ _ PW.out).mono ?_); rintro e w4 ⟨rfl, hb4⟩; have PX := hid (PW.out.below hb4); have FX := hid (FW.out.trans (MF.of_below cm hb4 (Nat.le_trans HSZ.out FW.out.below.size))); obtain ⟨s0, s1, s2, s3, -⟩ := PX.out.facts; clear hb4))
              go_end0
              exact PPost.done (HC.out.trans HRS.out) PX.out FX.out
            · have HRS := hid (HRP.out hs)
              rw [hs] at KST
              clear hs
              go_upto_region 18 with (first | (go_at_call 29; (with_reducible refine (KCN.out _).mono ?_); rintro e w3 ⟨rfl, hb3⟩; have PW := hid (PW.out.below hb3); have FW := hid (FW.out.trans (MF.of_below cm hb3 (Nat.le_trans HSZ.out FW.out.below.size))); obtain ⟨u0, u1, u2, u3, -⟩ := PW.out.facts; clear hb3) | (go_at_call 31; (with_reducible refine (KST.out _ _ PW.out).mono ?_); rintro e w4 ⟨rfl, hb4⟩; have PX := hid (PW.out.below hb4); have FX := hid (FW.out.trans (MF.of_below cm hb4 (Nat.le_trans HSZ.out FW.out.below.size))); obtain ⟨s0, s1, s2, s3, -⟩ := PX.out.facts; clear hb4))
              clear KST HRG HRP
              rw [HQ2.out] at s1
              change World.cell? _ ⟨p, 2, none⟩ = some (.int .i64 q.kind) at s2
              have HB := hid (Nat.le_trans HSZ.out FX.out.below.size)
              have KP := hid (ParseSeq_drew base p cm _ q el _ HB.out HEL2.out (HT.out.below FX.out.below) PX.out HL.out)
              have hcv0 := convert_S _ Tryz.underlying49 Tryz.underlying5 Tryz.underlying9 PX.out.own
              change (convert _ _ (.slice A1 el.length c1)).run _ _ = .ok (.string ⟨el.toArray⟩) _ at hcv0
              have hcv := convert_S _ Tryz.underlying49 Tryz.underlying5 Tryz.underlying9 PX.out.drew.own
              change (convert _ _ (.slice A1 el.length c1)).run _ _ = .ok (.string ⟨el.toArray⟩) _ at hcv
              go_still_tail 10, (by kernel_rfl)
              go_wp2_with (first
                | (go_at_call 30; (with_reducible refine KP.out.mono ?_); rintro e w6 ⟨rfl, cm6, p6, f6⟩; have PR := hid p6; have FR := hid (FX.out.trans f6); clear p6 f6)
                | (go_at_call 18; (with_reducible refine (Reset_calls base p _ _ _ _ PR.out).mono ?_); rintro e w7 ⟨rfl, cm7, ev7, p7, f7⟩; have HF := hid (show PPost w base p cm (st.consume atoiF Lib.trimSpaceD 27) (.returned (.tuple #[])) w7 from ⟨rfl, cm7, ev7, by rw [HC.out, HRS.out]; exact p7, FR.out.trans f7⟩); clear p7 f7))
              go_end0
              exact HF.out
          · rw [hcn] at KCN
            cases h7 : (27 == 7)
            · have HRG := hid (fun h => rest_go HEQ.out HNB.out h (.inr (.inr h7)))
              have HRP := hid (fun h => rest_stop HEQ.out HNB.out h)
              have KST := hid (fun w' ev' (h : PA w' base p cm ev' (full q el)) => stopRune_calls base p cm ev' (full q el) 27 w' h HEL.out)
              cases hs : stopRune (full q el).esc (full q el).kind 27
              · have HRS := hid (HRG.out hs)
                rw [hs] at KST
                clear hs
                go_wp2_with (first | (go_at_call 29; (with_reducible refine (KCN.out _).mono ?_); rintro e w3 ⟨rfl, hb3⟩; have PW := hid (PW.out.below hb3); have FW := hid (FW.out.trans (MF.of_below cm hb3 (Nat.le_trans HSZ.out FW.out.below.size))); obtain ⟨u0, u1, u2, u3, -⟩ := PW.out.facts; clear hb3) | (go_at_call 31; (with_reducible refine (KST.out _ _ PW.out).mono ?_); rintro e w4 ⟨rfl, hb4⟩; have PX := hid (PW.out.below hb4); have FX := hid (FW.out.trans (MF.of_below cm hb4 (Nat.le_trans HSZ.out FW.out.below.size))); obtain ⟨s0, s1, s2, s3, -⟩ := PX.out.facts; clear hb4))
                go_end0
                exact PPost.done (HC.out.trans HRS.out) PX.out FX.out
              · have HRS := hid (HRP.out hs)
                rw [hs] at KST
                clear hs
                go_upto_region 18 with (first | (go_at_call 29; (with_reducible refine (KCN.out _).mono ?_); rintro e w3 ⟨rfl, hb3⟩; have PW := hid (PW.out.below hb3); have FW := hid (FW.out.trans (MF.of_below cm hb3 (Nat.le_trans HSZ.out FW.out.below.size))); obtain ⟨u0, u1, u2, u3, -⟩ := PW.out.facts; clear hb3) | (go_at_call 31; (with_reducible refine (KST.out _ _ PW.out).mono ?_); rintro e w4 ⟨rfl, hb4⟩; have PX := hid (PW.out.below hb4); have FX := hid (FW.out.trans (MF.of_below cm hb4 (Nat.le_trans HSZ.out FW.out.below.size))); obtain ⟨s0, s1, s2, s3, -⟩ := PX.out.facts; clear hb4))
                clear KST HRG HRP
                rw [HQ2.out] at s1
                change World.cell? _ ⟨p, 2, none⟩ = some (.int .i64 q.kind) at s2
                have HB := hid (Nat.le_trans HSZ.out FX.out.below.size)
                have KP := hid (ParseSeq_drew base p cm _ q el _ HB.out HEL2.out (HT.out.below FX.out.below) PX.out HL.out)
                have hcv0 := convert_S _ Tryz.underlying49 Tryz.underlying5 Tryz.underlying9 PX.out.own
                change (convert _ _ (.slice A1 el.length c1)).run _ _ = .ok (.string ⟨el.toArray⟩) _ at hcv0
                have hcv := convert_S _ Tryz.underlying49 Tryz.underlying5 Tryz.underlying9 PX.out.drew.own
                change (convert _ _ (.slice A1 el.length c1)).run _ _ = .ok (.string ⟨el.toArray⟩) _ at hcv
                go_still_tail 10, (by kernel_rfl)
                go_wp2_with (first
                  | (go_at_call 30; (with_reducible refine KP.out.mono ?_); rintro e w6 ⟨rfl, cm6, p6, f6⟩; have PR := hid p6; have FR := hid (FX.out.trans f6); clear p6 f6)
                  | (go_at_call 18; (with_reducible refine (Reset_calls base p _ _ _ _ PR.out).mono ?_); rintro e w7 ⟨rfl, cm7, ev7, p7, f7⟩; have HF := hid (show PPost w base p cm (st.consume atoiF Lib.trimSpaceD 27) (.returned (.tuple #[])) w7 from ⟨rfl, cm7, ev7, by rw [HC.out, HRS.out]; exact p7, FR.out.trans f7⟩); clear p7 f7))
                go_end0
                exact HF.out
            · exact absurd h7 (by decide)
  · by_cases hk : st.kind = 0
    · by_cases hr : r = 91
      · subst hr
        obtain ⟨q, hq⟩ : ∃ q : PSt, q = { st with kind := 1 } := ⟨_, rfl⟩
        have ho : st.opened 91 = q := by unfold PSt.opened; rw [if_neg (by simp), if_pos ⟨hi, hk⟩, if_pos rfl, hq]
        have H1 := H.set (st' := { st with kind := 1 }) 2 (.int .i64 1) rfl rfl (.inl ⟨rfl, rfl⟩)
        have FQ := hid (MF.of_set cm H.row H.le 2 (.int .i64 1))
        have PQ := hid (show PA (w.setCell ⟨p, 2, none⟩ (.int .i64 1)) base p cm (.slice A st.esc.length c) q by rw [hq]; exact H1)
        have HQ := hid (show q.inn = true by rw [hq]; exact hi)
        have HL := hid (show q.codes.length ≤ 8000000000000000 by rw [hq]; exact hl)
        have HE := hid (show q.esc.length ≤ 2048 by rw [hq]; exact hes)
        have HC := hid (consume_rest ho HQ.out)
        rw [hi] at z1
        rw [hk] at z2
        clear H H1 ho hi hc hbw ht hl hes hq hr0 hr1 hk hA
        go_enter Tryz.func16, Tryz.ntmps16
        go_upto_region 10 with (fail)
        clear z0 z1 z2 z3 f0 f1 f2 f3
        generalize (w.setCell ⟨p, 2, none⟩ (.int .i64 1)) = w0 at *
        generalize (Value.slice A st.esc.length c) = ev0 at *
        obtain ⟨y0, y1, y2, y3, g0, g1, g2, g3⟩ := PQ.out.facts
        rw [HQ.out] at y1
        have hBw := Nat.le_trans HSZ.out FQ.out.below.size
        have KR := hid (Tryz.utf8_AppendRune_plain base _ q.esc.length (Lib.byteCells q.esc) 91 HR0.out HR1.out _ PQ.out.own (by have := HE.out; omega) hBw)
        obtain ⟨el, hel⟩ : ∃ el, el = q.esc ++ Lib.encodeRune 91 := ⟨_, rfl⟩
        have HEQ := hid hel
        clear hel
        go_upto_region 12 with (go_at_call 28; (with_reducible refine KR.out.mono ?_); rintro e w1 ⟨v1, rfl, hown1, o, hg1⟩; obtain ⟨A1, c1, rfl, x3, k3, pe, fe⟩ := PA.rune' HEQ.out hBw PQ.out hown1 hg1; have PW := hid pe; have FW := hid (FQ.out.trans fe); clear hown1 hg1 pe fe)
        clear y0 y1 y2 y3 g0 g1 g2 g3 KR
        generalize hw2 : (w1.setCell ⟨p, 3, none⟩ (.slice A1 el.length c1)) = w2 at *
        clear hw2 x3 k3 FQ PQ hBw
        obtain ⟨y0, y1, y2, y3, g0, g1, g2, g3⟩ := PW.out.facts
        have HQ2 := hid (show (full q el).inn = true from HQ.out)
        rw [HQ2.out] at y1
        change w2.cell? ⟨p, 2, none⟩ = some (.int .i64 q.kind) at y2
        by_cases hb : 2048 < el.length
        · have hb' : (2048 : Int) < (el.length : Int) := by omega
          have HRS := hid (rest_long HEQ.out hb)
          have PR := hid PW.out
          have FR := hid FW.out
          clear hb
          go_wp2_with (first
            | (go_at_call 18; (with_reducible refine (Reset_calls base p _ _ _ _ PR.out).mono ?_); rintro e w7 ⟨rfl, cm7, ev7, p7, f7⟩; have HF := hid (show PPost w base p cm (st.consume atoiF Lib.trimSpaceD 91) (.returned (.tuple #[])) w7 from ⟨rfl, cm7, ev7, by rw [HC.out, HRS.out]; exact p7, FR.out.trans f7⟩); clear p7 f7))
          go_end0
          exact HF.out
        · have hb' : ¬(2048 : Int) < (el.length : Int) := by omega
          have HEL := hid (show (full q el).esc.length ≤ 1000000000 by show el.length ≤ _; omega)
          have HEL2 := hid (show el.length ≤ 10000000 by omega)
          have HNB := hid hb
          clear hb
          cases k2 : (q.kind == 2)
          · have HRG := hid (fun h => rest_go HEQ.out HNB.out h (.inl k2))
            have HRP := hid (fun h => rest_stop HEQ.out HNB.out h)
            have KST := hid (fun w' ev' (h : PA w' base p cm ev' (full q el)) => stopRune_calls base p cm ev' (full q el) 91 w' h HEL.out)
            cases hs : stopRune (full q el).esc (full q el).kind 91
            · have HRS := hid (HRG.out hs)
              rw [hs] at KST
              clear hs
              go_wp2_with (first | fail | (go_at_call 31; (with_reducible refine (KST.out _ _ PW.out).mono ?_); rintro e w4 ⟨rfl, hb4⟩; have PX := hid (PW.out.below hb4); have FX := hid (FW.out.trans (MF.of_below cm hb4 (Nat.le_trans HSZ.out FW.out.below.size))); obtain ⟨s0, s1, s2, s3, -⟩ := PX.out.facts; clear hb4))
              go_end0
              exact PPost.done (HC.out.trans HRS.out) PX.out FX.out
            · have HRS := hid (HRP.out hs)
              rw [hs] at KST
              clear hs
              go_upto_region 18 with (first | fail | (go_at_call 31; (with_reducible refine (KST.out _ _ PW.out).mono ?_); rintro e w4 ⟨rfl, hb4⟩; have PX := hid (PW.out.below hb4); have FX := hid (FW.out.trans (MF.of_below cm hb4 (Nat.le_trans HSZ.out FW.out.below.size))); obtain ⟨s0, s1, s2, s3, -⟩ := PX.out.facts; clear hb4))
              clear KST HRG HRP
              rw [HQ2.out] at s1
              change World.cell? _ ⟨p, 2, none⟩ = some (.int .i64 q.kind) at s2
              have HB := hid (Nat.le_trans HSZ.out FX.out.below.size)
              have KP := hid (ParseSeq_drew base p cm _ q el _ HB.out HEL2.out (HT.out.below FX.out.below) PX.out HL.out)
              have hcv0 := convert_S _ Tryz.underlying49 Tryz.underlying5 Tryz.underlying9 PX.out.own
              change (convert _ _ (.slice A1 el.length c1)).run _ _ = .ok (.string ⟨el.toArray⟩) _ at hcv0
              have hcv := convert_S _ Tryz.underlying49 Tryz.underlying5 Tryz.underlying9 PX.out.drew.own
              change (convert _ _ (.slice A1 el.length c1)).run _ _ = .ok (.string ⟨el.toArray⟩) _ at hcv
              go_still_tail 10, (by kernel_rfl)
              go_wp2_with (first
                | (go_at_call 30; (with_reducible refine KP.out.mono ?_); rintro e w6 ⟨rfl, cm6, p6, f6⟩; have PR := hid p6; have FR := hid (FX.out.trans f6); clear p6 f6)
                | (go_at_call 18; (with_reducible refine (Reset_calls base p _ _ _ _ PR.out).mono ?_); rintro e w7 ⟨rfl, cm7, ev7, p7, f7⟩; have HF := hid (show PPost w base p cm (st.consume atoiF Lib.trimSpaceD 91) (.returned (.tuple #[])) w7 from ⟨rfl, cm7, ev7, by rw [HC.out, HRS.out]; exact p7, FR.out.trans f7⟩); clear p7 f7))
              go_end0
              exact HF.out
          · have KCN := hid (fun fz => conceal_calls w2 base _ (full q el).esc PW.out.own fz)
            have kc := fun (w : World) (C : Array Value) (n c : Nat) => Lib.run_convert_bytes_const (P := Tryz.prog) w 49 5 C n c Tryz.underlying49 Tryz.underlying5
            cases hcn : conceal.isPrefixOf (full q el).esc
            · rw [hcn] at KCN
              have HRG := hid (fun h => rest_go HEQ.out HNB.out h (.inr (.inl hcn)))
              have HRP := hid (fun h => rest_stop HEQ.out HNB.out h)
              have KST := hid (fun w' ev' (h : PA w' base p cm ev' (full q el)) => stopRune_calls base p cm ev' (full q el) 91 w' h HEL.out)
              cases hs : stopRune (full q el).esc (full q el).kind 91
              · have HRS := hid (HRG.out hs)
                rw [hs] at KST
                clear hs
                go_wp2_with (first | (go_at_call 29; (with_reducible refine (KCN.out _).mono ?_); rintro e w3 ⟨rfl, hb3⟩; have PW := hid (PW.out.below hb3); have FW := hid (FW.out.trans (MF.of_below cm hb3 (Nat.le_trans HSZ.out FW.out.below.size))); obtain ⟨u0, u1, u2, u3, -⟩ := PW.out.facts; clear hb3) | (go_at_call 31; (with_reducible refine (KST.out _ _ PW.out).mono ?_); rintro e w4 ⟨rfl, hb4⟩; have PX := hid (PW.out.below hb4); have FX := hid (FW.out.trans (MF.of_below cm hb4 (Nat.le_trans HSZ.out FW.out.below.size))); obtain ⟨s0, s1, s2, s3, -⟩ := PX.out.facts; clear hb4))
                go_end0
                exact PPost.done (HC.out.trans HRS.out) PX.out FX.out
              · have HRS := hid (HRP.out hs)
                rw [hs] at KST
                clear hs
                go_upto_region 18 with (first | (go_at_call 29; (with_reducible refine (KCN.out _).mono ?_); rintro e w3 ⟨rfl, hb3⟩; have PW := hid (PW.out.below hb3); have FW := hid (FW.out.trans (MF.of_below cm hb3 (Nat.le_trans HSZ.out FW.out.below.size))); obtain ⟨u0, u1, u2, u3, -⟩ := PW.out.facts; clear hb3) | (go_at_call 31; (with_reducible refine (KST.out _ _ PW.out).mono ?_); rintro e w4 ⟨rfl, hb4⟩; have PX := hid (PW.out.below hb4); have FX := hid (FW.out.trans (MF.of_below cm hb4 (Nat.le_trans HSZ.out FW.out.below.size))); obtain ⟨s0, s1, s2, s3, -⟩ := PX.out.facts; clear hb4))
                clear KST HRG HRP
                rw [HQ2.out] at s1
                change World.cell? _ ⟨p, 2, none⟩ = some (.int .i64 q.kind) at s2
                have HB := hid (Nat.le_trans HSZ.out FX.out.below.size)
                have KP := hid (ParseSeq_drew base p cm _ q el _ HB.out HEL2.out (HT.out.below FX.out.below) PX.out HL.out)
                have hcv0 := convert_S _ Tryz.underlying49 Tryz.underlying5 Tryz.underlying9 PX.out.own
                change (convert _ _ (.slice A1 el.length c1)).run _ _ = .ok (.string ⟨el.toArray⟩) _ at hcv0
                have hcv := convert_S _ Tryz.underlying49 Tryz.underlying5 Tryz.underlying9 PX.out.drew.own
                change (convert _ _ (.slice A1 el.length c1)).run _ _ = .ok (.string ⟨el.toArray⟩) _ at hcv
                go_still_tail 10, (by kernel_rfl)
                go_wp2_with (first
                  | (go_at_call 30; (with_reducible refine KP.out.mono ?_); rintro e w6 ⟨rfl, cm6, p6, f6⟩; have PR := hid p6; have FR := hid (FX.out.trans f6); clear p6 f6)
                  | (go_at_call 18; (with_reducible refine (Reset_calls base p _ _ _ _ PR.out).mono ?_); rintro e w7 ⟨rfl, cm7, ev7, p7, f7⟩; have HF := hid (show PPost w base p cm (st.consume atoiF Lib.trimSpaceD 91) (.returned (.tuple #[])) w7 from ⟨rfl, cm7, ev7, by rw [HC.out, HRS.out]; exact p7, FR.out.trans f7⟩); clear p7 f7))
                go_end0
                exact HF.out
            · rw [hcn] at KCN
              cases h7 : (91 == 7)
              · have HRG := hid (fun h => rest_go HEQ.out HNB.out h (.inr (.inr h7)))
                have HRP := hid (fun h => rest_stop HEQ.out HNB.out h)
                have KST := hid (fun w' ev' (h : PA w' base p cm ev' (full q el)) => stopRune_calls base p cm ev' (full q el) 91 w' h HEL.out)
                cases hs : stopRune (full q el).esc (full q el).kind 91
                · have HRS := hid (HRG.out hs)
                  rw [hs] at KST
                  clear hs
                  go_wp2_with (first | (go_at_call 29; (with_reducible refine (KCN.out _).mono ?_); rintro e w3 ⟨rfl, hb3⟩; have PW := hid (PW.out.below hb3); have FW := hid (FW.out.trans (MF.of_below cm hb3 (Nat.le_trans HSZ.out FW.out.below.size))); obtain ⟨u0, u1, u2, u3, -⟩ := PW.out.facts; clear hb3) | (go_at_call 31; (with_reducible refine (KST.out _ _ PW.out).mono ?_); rintro e w4 ⟨rfl, hb4⟩; have PX := hid (PW.out.below hb4); have FX := hid (FW.out.trans (MF.of_below cm hb4 (Nat.le_trans HSZ.out FW.out.below.size))); obtain ⟨s0, s1, s2, s3, -⟩ := PX.out.facts; clear hb4))
                  go_end0
                  exact PPost.done (HC.out.trans HRS.out) PX.out FX.out
                · have HRS := hid (HRP.out hs)
                  rw [hs] at KST
                  clear hs
                  go_upto_region 18 with (first | (go_at_call 29; (with_reducible refine (KCN.out _).mono ?_); rintro e w3 ⟨rfl, hb3⟩; have PW := hid (PW.out.below hb3); have FW := hid (FW.out.trans (MF.of_below cm hb3 (Nat.le_trans HSZ.out FW.out.below.size))); obtain ⟨u0, u1, u2, u3, -⟩ := PW.out.facts; clear hb3) | (go_at_call 31; (with_reducible refine (KST.out _ _ PW.out).mono ?_); rintro e w4 ⟨rfl, hb4⟩; have PX := hid (PW.out.below hb4); have FX := hid (FW.out.trans (MF.of_below cm hb4 (Nat.le_trans HSZ.out FW.out.below.size))); obtain ⟨s0, s1, s2, s3, -⟩ := PX.out.facts; clear hb4))
                  clear KST HRG HRP
                  rw [HQ2.out] at s1
                  change World.cell? _ ⟨p, 2, none⟩ = some (.int .i64 q.kind) at s2
                  have HB := hid (Nat.le_trans HSZ.out FX.out.below.size)
                  have KP := hid (ParseSeq_drew base p cm _ q el _ HB.out HEL2.out (HT.out.below FX.out.below) PX.out HL.out)
                  have hcv0 := convert_S _ Tryz.underlying49 Tryz.underlying5 Tryz.underlying9 PX.out.own
                  change (convert _ _ (.slice A1 el.length c1)).run _ _ = .ok (.string ⟨el.toArray⟩) _ at hcv0
                  have hcv := convert_S _ Tryz.underlying49 Tryz.underlying5 Tryz.underlying9 PX.out.drew.own
                  change (convert _ _ (.slice A1 el.length c1)).run _ _ = .ok (.string ⟨el.toArray⟩) _ at hcv
                  go_still_tail 10, (by kernel_rfl)
                  go_wp2_with (first
                    | (go_at_call 30; (with_reducible refine KP.out.mono ?_); rintro e w6 ⟨rfl, cm6, p6, f6⟩; have PR := hid p6; have FR := hid (FX.out.trans f6); clear p6 f6)
                    | (go_at_call 18; (with_reducible refine (Reset_calls base p _ _ _ _ PR.out).mono ?_); rintro e w7 ⟨rfl, cm7, ev7, p7, f7⟩; have HF := hid (show PPost w base p cm (st.consume atoiF Lib.trimSpaceD 91) (.returned (.tuple #[])) w7 from ⟨rfl, cm7, ev7, by rw [HC.out, HRS.out]; exact p7, FR.out.trans f7⟩); clear p7 f7))
                  go_end0
                  exact HF.out
              · exact absurd h7 (by decide)
      · have e91 : (r == 91) = false := by simpa using hr
        have n91 := hr
        clear hr
        by_cases hr : r = 93
        · subst hr
          obtain ⟨q, hq⟩ : ∃ q : PSt, q = { st with kind := 2 } := ⟨_, rfl⟩
          have ho : st.opened 93 = q := by unfold PSt.opened; rw [if_neg (by simp), if_pos ⟨hi, hk⟩, if_neg (by simp), if_pos rfl, hq]
          have H1 := H.set (st' := { st with kind := 2 }) 2 (.int .i64 2) rfl rfl (.inl ⟨rfl, rfl⟩)
          have FQ := hid (MF.of_set cm H.row H.le 2 (.int .i64 2))
          have PQ := hid (show PA (w.setCell ⟨p, 2, none⟩ (.int .i64 2)) base p cm (.slice A st.esc.length c) q by rw [hq]; exact H1)
          have HQ := hid (show q.inn = true by rw [hq]; exact hi)
          have HL := hid (show q.codes.length ≤ 8000000000000000 by rw [hq]; exact hl)
          have HE := hid (show q.esc.length ≤ 2048 by rw [hq]; exact hes)
          have HC := hid (consume_rest ho HQ.out)
          rw [hi] at z1
          rw [hk] at z2
          clear e91 n91 H H1 ho hi hc hbw ht hl hes hq hr0 hr1 hk hA
          go_enter Tryz.func16, Tryz.ntmps16
          go_upto_region 10 with (fail)
          clear z0 z1 z2 z3 f0 f1 f2 f3
          generalize (w.setCell ⟨p, 2, none⟩ (.int .i64 2)) = w0 at *
          generalize (Value.slice A st.esc.length c) = ev0 at *
          obtain ⟨y0, y1, y2, y3, g0, g1, g2, g3⟩ := PQ.out.facts
          rw [HQ.out] at y1
          have hBw := Nat.le_trans HSZ.out FQ.out.below.size
          have KR := hid (Tryz.utf8_AppendRune_plain base _ q.esc.length (Lib.byteCells q.esc) 93 HR0.out HR1.out _ PQ.out.own (by have := HE.out; omega) hBw)
          obtain ⟨el, hel⟩ : ∃ el, el = q.esc ++ Lib.encodeRune 93 := ⟨_, rfl⟩
          have HEQ := hid hel
          clear hel
          go_upto_region 12 with (go_at_call 28; (with_reducible refine KR.out.mono ?_); rintro e w1 ⟨v1, rfl, hown1, o, hg1⟩; obtain ⟨A1, c1, rfl, x3, k3, pe, fe⟩ := PA.rune' HEQ.out hBw PQ.out hown1 hg1; have PW := hid pe; have FW := hid (FQ.out.trans fe); clear hown1 hg1 pe fe)
          clear y0 y1 y2 y3 g0 g1 g2 g3 KR
          generalize hw2 : (w1.setCell ⟨p, 3, none⟩ (.slice A1 el.length c1)) = w2 at *
          clear hw2 x3 k3 FQ PQ hBw
          obtain ⟨y0, y1, y2, y3, g0, g1, g2, g3⟩ := PW.out.facts
          have HQ2 := hid (show (full q el).inn = true from HQ.out)
          rw [HQ2.out] at y1
          change w2.cell? ⟨p, 2, none⟩ = some (.int .i64 q.kind) at y2
          by_cases hb : 2048 < el.length
          · have hb' : (2048 : Int) < (el.length : Int) := by omega
            have HRS := hid (rest_long HEQ.out hb)
            have PR := hid PW.out
            have FR := hid FW.out
            clear hb
            go_wp2_with (first
              | (go_at_call 18; (with_reducible refine (Reset_calls base p _ _ _ _ PR.out).mono ?_); rintro e w7 ⟨rfl, cm7, ev7, p7, f7⟩; have HF := hid (show PPost w base p cm (st.consume atoiF Lib.trimSpaceD 93) (.returned (.tuple #[])) w7 from ⟨rfl, cm7, ev7, by rw [HC.out, HRS.out]; exact p7, FR.out.trans f7⟩); clear p7 f7))
            go_end0
            exact HF.out
          · have hb' : ¬(2048 : Int) < (el.length : Int) := by omega
            have HEL := hid (show (full q el).esc.length ≤ 1000000000 by show el.length ≤ _; omega)
            have HEL2 := hid (show el.length ≤ 10000000 by omega)
            have HNB := hid hb
            clear hb
            cases k2 : (q.kind == 2)
            · have HRG := hid (fun h => rest_go HEQ.out HNB.out h (.inl k2))
              have HRP := hid (fun h => rest_stop HEQ.out HNB.out h)
              have KST := hid (fun w' ev' (h : PA w' base p cm ev' (full q el)) => stopRune_calls base p cm ev' (full q el) 93 w' h HEL.out)
              cases hs : stopRune (full q el).esc (full q el).kind 93
              · have HRS := hid (HRG.out hs)
                rw [hs] at KST
                clear hs
                go_wp2_with (first | fail | (go_at_call 31; (with_reducible refine (KST.out _ _ PW.out).mono ?_); rintro e w4 ⟨rfl, hb4⟩; have PX := hid (PW.out.below hb4); have FX := hid (FW.out.trans (MF.of_below cm hb4 (Nat.le_trans HSZ.out FW.out.below.size))); obtain ⟨s0, s1, s2, s3, -⟩ := PX.out.facts; clear hb4))
                go_end0
                exact PPost.done (HC.out.trans HRS.out) PX.out FX.out
              · have HRS := hid (HRP.out hs)
                rw [hs] at KST
                clear hs
                go_upto_region 18 with (first | fail | (go_at_call 31; (with_reducible refine (KST.out _ _ PW.out).mono ?_); rintro e w4 ⟨rfl, hb4⟩; have PX := hid (PW.out.below hb4); have FX := hid (FW.out.trans (MF.of_below cm hb4 (Nat.le_trans HSZ.out FW.out.below.size))); obtain ⟨s0, s1, s2, s3, -⟩ := PX.out.facts; clear hb4))
                clear KST HRG HRP
                rw [HQ2.out] at s1
                change World.cell? _ ⟨p, 2, none⟩ = some (.int .i64 q.kind) at s2
                have HB := hid (Nat.le_trans HSZ.out FX.out.below.size)
                have KP := hid (ParseSeq_drew base p cm _ q el _ HB.out HEL2.out (HT.out.below FX.out.below) PX.out HL.out)
                have hcv0 := convert_S _ Tryz.underlying49 Tryz.underlying5 Tryz.underlying9 PX.out.own
                change (convert _ _ (.slice A1 el.length c1)).run _ _ = .ok (.string ⟨el.toArray⟩) _ at hcv0
                have hcv := convert_S _ Tryz.underlying49 Tryz.underlying5 Tryz.underlying9 PX.out.drew.own
                change (convert _ _ (.slice A1 el.length c1)).run _ _ = .ok (.string ⟨el.toArray⟩) _ at hcv
                go_still_tail 10, (by kernel_rfl)
                go_wp2_with (first
                  | (go_at_call 30; (with_reducible refine KP.out.mono ?_); rintro e w6 ⟨rfl, cm6, p6, f6⟩; have PR := hid p6; have FR := hid (FX.out.trans f6); clear p6 f6)
                  | (go_at_call 18; (with_reducible refine (Reset_calls base p _ _ _ _ PR.out).mono ?_); rintro e w7 ⟨rfl, cm7, ev7, p7, f7⟩; have HF := hid (show PPost w base p cm (st.consume atoiF Lib.trimSpaceD 93) (.returned (.tuple #[])) w7 from ⟨rfl, cm7, ev7, by rw [HC.out, HRS.out]; exact p7, FR.out.trans f7⟩); clear p7 f7))
                go_end0
                exact HF.out
            · have KCN := hid (fun fz => conceal_calls w2 base _ (full q el).esc PW.out.own fz)
              have kc := fun (w : World) (C : Array Value) (n c : Nat) => Lib.run_convert_bytes_const (P := Tryz.prog) w 49 5 C n c Tryz.underlying49 Tryz.underlying5
              cases hcn : conceal.isPrefixOf (full q el).esc
              · rw [hcn] at KCN
                have HRG := hid (fun h => rest_go HEQ.out HNB.out h (.inr (.inl hcn)))
                have HRP := hid (fun h => rest_stop HEQ.out HNB.out h)
                have KST := hid (fun w' ev' (h : PA w' base p cm ev' (full q el)) => stopRune_calls base p cm ev' (full q el) 93 w' h HEL.out)
                cases hs : stopRune (full q el).esc (full q el).kind 93
                · have HRS := hid (HRG.out hs)
                  rw [hs] at KST
                  clear hs
                  go_wp2_with (first | (go_at_call 29; (with_reducible refine (KCN.out _).mono ?_); rintro e w3 ⟨rfl, hb3⟩; have PW := hid (PW.out.below hb3); have FW := hid (FW.out.trans (MF.of_below cm hb3 (Nat.le_trans HSZ.out FW.out.below.size))); obtain ⟨u0, u1, u2, u3, -⟩ := PW.out.facts; clear hb3) | (go_at_call 31; (with_reducible refine (KST.out _ _ PW.out).mono ?_); rintro e w4 ⟨rfl, hb4⟩; have PX := hid (PW.out.below hb4); have FX := hid (FW.out.trans (MF.of_below cm hb4 (Nat.le_trans HSZ.out FW.out.below.size))); obtain ⟨s0, s1, s2, s3, -⟩ := PX.out.facts; clear hb4))
                  go_end0
                  exact PPost.done (HC.out.trans HRS.out) PX.out FX.out
                · have HRS := hid (HRP.out hs)
                  rw [hs] at KST
                  clear hs
                  go_upto_region 18 with (first | (go_at_call 29; (with_reducible refine (KCN.out _).mono ?_); rintro e w3 ⟨rfl, hb3⟩; have PW := hid (PW.out.below hb3); have FW := hid (FW.out.trans (MF.of_below cm hb3 (Nat.le_trans HSZ.out FW.out.below.size))); obtain ⟨u0, u1, u2, u3, -⟩ := PW.out.facts; clear hb3) | (go_at_call 31; (with_reducible refine (KST.out _ _ PW.out).mono ?_); rintro e w4 ⟨rfl, hb4⟩; have PX := hid (PW.out.below hb4); have FX := hid (FW.out.trans (MF.of_below cm hb4 (Nat.le_trans HSZ.out FW.out.below.size))); obtain ⟨s0, s1, s2, s3, -⟩ := PX.out.facts; clear hb4))
                  clear KST HRG HRP
                  rw [HQ2.out] at s1
                  change World.cell? _ ⟨p, 2, none⟩ = some (.int .i64 q.kind) at s2
                  have HB := hid (Nat.le_trans HSZ.out FX.out.below.size)
                  have KP := hid (ParseSeq_drew base p cm _ q el _ HB.out HEL2.out (HT.out.below FX.out.below) PX.out HL.out)
                  have hcv0 := convert_S _ Tryz.underlying49 Tryz.underlying5 Tryz.underlying9 PX.out.own
                  change (convert _ _ (.slice A1 el.length c1)).run _ _ = .ok (.string ⟨el.toArray⟩) _ at hcv0
                  have hcv := convert_S _ Tryz.underlying49 Tryz.underlying5 Tryz.underlying9 PX.out.drew.own
                  change (convert _ _ (.slice A1 el.length c1)).run _ _ = .ok (.string ⟨el.toArray⟩) _ at hcv
                  go_still_tail 10, (by kernel_rfl)
                  go_wp2_with (first
                    | (go_at_call 30; (with_reducible refine KP.out.mono ?_); rintro e w6 ⟨rfl, cm6, p6, f6⟩; have PR := hid p6; have FR := hid (FX.out.trans f6); clear p6 f6)
                    | (go_at_call 18; (with_reducible refine (Reset_calls base p _ _ _ _ PR.out).mono ?_); rintro e w7 ⟨rfl, cm7, ev7, p7, f7⟩; have HF := hid (show PPost w base p cm (st.consume atoiF Lib.trimSpaceD 93) (.returned (.tuple #[])) w7 from ⟨rfl, cm7, ev7, by rw [HC.out, HRS.out]; exact p7, FR.out.trans f7⟩); clear p7 f7))
                  go_end0
                  exact HF.out
              · rw [hcn] at KCN
                cases h7 : (93 == 7)
                · have HRG := hid (fun h => rest_go HEQ.out HNB.out h (.inr (.inr h7)))
                  have HRP := hid (fun h => rest_stop HEQ.out HNB.out h)
                  have KST := hid (fun w' ev' (h : PA w' base p cm ev' (full q el)) => stopRune_calls base p cm ev' (full q el) 93 w' h HEL.out)
                  cases hs : stopRune (full q el).esc (full q el).kind 93
                  · have HRS := hid (HRG.out hs)
                    rw [hs] at KST
                    clear hs
                    go_wp2_with (first | (go_at_call 29; (with_reducible refine (KCN.out _).mono ?_); rintro e w3 ⟨rfl, hb3⟩; have PW := hid (PW.out.below hb3); have FW := hid (FW.out.trans (MF.of_below cm hb3 (Nat.le_trans HSZ.out FW.out.below.size))); obtain ⟨u0, u1, u2, u3, -⟩ := PW.out.facts; clear hb3) | (go_at_call 31; (with_reducible refine (KST.out _ _ PW.out).mono ?_); rintro e w4 ⟨rfl, hb4⟩; have PX := hid (PW.out.below hb4); have FX := hid (FW.out.trans (MF.of_below cm hb4 (Nat.le_trans HSZ.out FW.out.below.size))); obtain ⟨s0, s1, s2, s3, -⟩ := PX.out.facts; clear hb4))
                    go_end0
                    exact PPost.done (HC.out.trans HRS.out) PX.out FX.out
                  · have HRS := hid (HRP.out hs)
                    rw [hs] at KST
                    clear hs
                    go_upto_region 18 with (first | (go_at_call 29; (with_reducible refine (KCN.out _).mono ?_); rintro e w3 ⟨rfl, hb3⟩; have PW := hid (PW.out.below hb3); have FW := hid (FW.out.trans (MF.of_below cm hb3 (Nat.le_trans HSZ.out FW.out.below.size))); obtain ⟨u0, u1, u2, u3, -⟩ := PW.out.facts; clear hb3) | (go_at_call 31; (with_reducible refine (KST.out _ _ PW.out).mono ?_); rintro e w4 ⟨rfl, hb4⟩; have PX := hid (PW.out.below hb4); have FX := hid (FW.out.trans (MF.of_below cm hb4 (Nat.le_trans HSZ.out FW.out.below.size))); obtain ⟨s0, s1, s2, s3, -⟩ := PX.out.facts; clear hb4))
                    clear KST HRG HRP
                    rw [HQ2.out] at s1
                    change World.cell? _ ⟨p, 2, none⟩ = some (.int .i64 q.kind) at s2
                    have HB := hid (Nat.le_trans HSZ.out FX.out.below.size)
                    have KP := hid (ParseSeq_drew base p cm _ q el _ HB.out HEL2.out (HT.out.below FX.out.below) PX.out HL.out)
                    have hcv0 := convert_S _ Tryz.underlying49 Tryz.underlying5 Tryz.underlying9 PX.out.own
                    change (convert _ _ (.slice A1 el.length c1)).run _ _ = .ok (.string ⟨el.toArray⟩) _ at hcv0
                    have hcv := convert_S _ Tryz.underlying49 Tryz.underlying5 Tryz.underlying9 PX.out.drew.own
                    change (convert _ _ (.slice A1 el.length c1)).run _ _ = .ok (.string ⟨el.toArray⟩) _ at hcv
                    go_still_tail 10, (by kernel_rfl)
                    go_wp2_with (first
                      | (go_at_call 30; (with_reducible refine KP.out.mono ?_); rintro e w6 ⟨rfl, cm6, p6, f6⟩; have PR := hid p6; have FR := hid (FX.out.trans f6); clear p6 f6)
                      | (go_at_call 18; (with_reducible refine (Reset_calls base p _ _ _ _ PR.out).mono ?_); rintro e w7 ⟨rfl, cm7, ev7, p7, f7⟩; have HF := hid (show PPost w base p cm (st.consume atoiF Lib.trimSpaceD 93) (.returned (.tuple #[])) w7 from ⟨rfl, cm7, ev7, by rw [HC.out, HRS.out]; exact p7, FR.out.trans f7⟩); clear p7 f7))
                    go_end0
                    exact HF.out
                · exact absurd h7 (by decide)
        · have e93 : (r == 93) = false := by simpa using hr
          have ho : st.opened r = st := by unfold PSt.opened; rw [if_neg (fun x => by rw [hi] at x; exact absurd x.1 (by simp)), if_pos ⟨hi, hk⟩, if_neg n91, if_neg hr]
          obtain ⟨q, hq⟩ : ∃ q : PSt, q = st := ⟨_, rfl⟩
          have FQ := hid (MF.refl w base cm)
          have PQ := hid (show PA w base p cm (.slice A st.esc.length c) q by rw [hq]; exact H)
          have HQ := hid (show q.inn = true by rw [hq]; exact hi)
          have HL := hid (show q.codes.length ≤ 8000000000000000 by rw [hq]; exact hl)
          have HE := hid (show q.esc.length ≤ 2048 by rw [hq]; exact hes)
          have HC := hid (consume_rest (ho.trans hq.symm) HQ.out)
          rw [hi] at z1
          rw [hk] at z2
          clear H ho hi hc hbw ht hl hes hq hr0 hr1 hk hA hr n91
          go_enter Tryz.func16, Tryz.ntmps16
          go_upto_region 10 with (fail)
          clear z0 z1 z2 z3 f0 f1 f2 f3
          generalize (Value.slice A st.esc.length c) = ev0 at *
          obtain ⟨y0, y1, y2, y3, g0, g1, g2, g3⟩ := PQ.out.facts
          rw [HQ.out] at y1
          have hBw := Nat.le_trans HSZ.out FQ.out.below.size
          have KR := hid (Tryz.utf8_AppendRune_plain base _ q.esc.length (Lib.byteCells q.esc) r HR0.out HR1.out _ PQ.out.own (by have := HE.out; omega) hBw)
          obtain ⟨el, hel⟩ : ∃ el, el = q.esc ++ Lib.encodeRune r := ⟨_, rfl⟩
          have HEQ := hid hel
          clear hel
          go_upto_region 12 with (go_at_call 28; (with_reducible refine KR.out.mono ?_); rintro e w1 ⟨v1, rfl, hown1, o, hg1⟩; obtain ⟨A1, c1, rfl, x3, k3, pe, fe⟩ := PA.rune' HEQ.out hBw PQ.out hown1 hg1; have PW := hid pe; have FW := hid (FQ.out.trans fe); clear hown1 hg1 pe fe)
          clear y0 y1 y2 y3 g0 g1 g2 g3 KR
          generalize hw2 : (w1.setCell ⟨p, 3, none⟩ (.slice A1 el.length c1)) = w2 at *
          clear hw2 x3 k3 FQ PQ hBw
          obtain ⟨y0, y1, y2, y3, g0, g1, g2, g3⟩ := PW.out.facts
          have HQ2 := hid (show (full q el).inn = true from HQ.out)
          rw [HQ2.out] at y1
          change w2.cell? ⟨p, 2, none⟩ = some (.int .i64 q.kind) at y2
          by_cases hb : 2048 < el.length
          · have hb' : (2048 : Int) < (el.length : Int) := by omega
            have HRS := hid (rest_long HEQ.out hb)
            have PR := hid PW.out
            have FR := hid FW.out
            clear hb
            go_wp2_with (first
              | (go_at_call 18; (with_reducible refine (Reset_calls base p _ _ _ _ PR.out).mono ?_); rintro e w7 ⟨rfl, cm7, ev7, p7, f7⟩; have HF := hid (show PPost w base p cm (st.consume atoiF Lib.trimSpaceD r) (.returned (.tuple #[])) w7 from ⟨rfl, cm7, ev7, by rw [HC.out, HRS.out]; exact p7, FR.out.trans f7⟩); clear p7 f7))
            go_end0
            exact HF.out
          · have hb' : ¬(2048 : Int) < (el.length : Int) := by omega
            have HEL := hid (show (full q el).esc.length ≤ 1000000000 by show el.length ≤ _; omega)
            have HEL2 := hid (show el.length ≤ 10000000 by omega)
            have HNB := hid hb
            clear hb
            cases k2 : (q.kind == 2)
            · have HRG := hid (fun h => rest_go HEQ.out HNB.out h (.inl k2))
              have HRP := hid (fun h => rest_stop HEQ.out HNB.out h)
              have KST := hid (fun w' ev' (h : PA w' base p cm ev' (full q el)) => stopRune_calls base p cm ev' (full q el) r w' h HEL.out)
              cases hs : stopRune (full q el).esc (full q el).kind r
              · have HRS := hid (HRG.out hs)
                rw [hs] at KST
                clear hs
                go_wp2_with (first | fail | (go_at_call 31; (with_reducible refine (KST.out _ _ PW.out).mono ?_); rintro e w4 ⟨rfl, hb4⟩; have PX := hid (PW.out.below hb4); have FX := hid (FW.out.trans (MF.of_below cm hb4 (Nat.le_trans HSZ.out FW.out.below.size))); obtain ⟨s0, s1, s2, s3, -⟩ := PX.out.facts; clear hb4))
                go_end0
                exact PPost.done (HC.out.trans HRS.out) PX.out FX.out
              · have HRS := hid (HRP.out hs)
                rw [hs] at KST
                clear hs
                go_upto_region 18 with (first | fail | (go_at_call 31; (with_reducible refine (KST.out _ _ PW.out).mono ?_); rintro e w4 ⟨rfl, hb4⟩; have PX := hid (PW.out.below hb4); have FX := hid (FW.out.trans (MF.of_below cm hb4 (Nat.le_trans HSZ.out FW.out.below.size))); obtain ⟨s0, s1, s2, s3, -⟩ := PX.out.facts; clear hb4))
                clear KST HRG HRP
                rw [HQ2.out] at s1
                change World.cell? _ ⟨p, 2, none⟩ = some (.int .i64 q.kind) at s2
                have HB := hid (Nat.le_trans HSZ.out FX.out.below.size)
                have KP := hid (ParseSeq_drew base p cm _ q el _ HB.out HEL2.out (HT.out.below FX.out.below) PX.out HL.out)
                have hcv0 := convert_S _ Tryz.underlying49 Tryz.underlying5 Tryz.underlying9 PX.out.own
                change (convert _ _ (.slice A1 el.length c1)).run _ _ = .ok (.string ⟨el.toArray⟩) _ at hcv0
                have hcv := convert_S _ Tryz.underlying49 Tryz.underlying5 Tryz.underlying9 PX.out.drew.own
                change (convert _ _ (.slice A1 el.length c1)).run _ _ = .ok (.string ⟨el.toArray⟩) _ at hcv
                go_still_tail 10, (by kernel_rfl)
                go_wp2_with (first
                  | (go_at_call 30; (with_reducible refine KP.out.mono ?_); rintro e w6 ⟨rfl, cm6, p6, f6⟩; have PR := hid p6; have FR := hid (FX.out.trans f6); clear p6 f6)
                  | (go_at_call 18; (with_reducible refine (Reset_calls base p _ _ _ _ PR.out).mono ?_); rintro e w7 ⟨rfl, cm7, ev7, p7, f7⟩; have HF := hid (show PPost w base p cm (st.consume atoiF Lib.trimSpaceD r) (.returned (.tuple #[])) w7 from ⟨rfl, cm7, ev7, by rw [HC.out, HRS.out]; exact p7, FR.out.trans f7⟩); clear p7 f7))
                go_end0
                exact HF.out
            · have KCN := hid (fun fz => conceal_calls w2 base _ (full q el).esc PW.out.own fz)
              have kc := fun (w : World) (C : Array Value) (n c : Nat) => Lib.run_convert_bytes_const (P := Tryz.prog) w 49 5 C n c Tryz.underlying49 Tryz.underlying5
              cases hcn : conceal.isPrefixOf (full q el).esc
              · rw [hcn] at KCN
                have HRG := hid (fun h => rest_go HEQ.out HNB.out h (.inr (.inl hcn)))
                have HRP := hid (fun h => rest_stop HEQ.out HNB.out h)
                have KST := hid (fun w' ev' (h : PA w' base p cm ev' (full q el)) => stopRune_calls base p cm ev' (full q el) r w' h HEL.out)
                cases hs : stopRune (full q el).esc (full q el).kind r
                · have HRS := hid (HRG.out hs)
                  rw [hs] at KST
                  clear hs
                  go_wp2_with (first | (go_at_call 29; (with_reducible refine (KCN.out _).mono ?_); rintro e w3 ⟨rfl, hb3⟩; have PW := hid (PW.out.below hb3); have FW := hid (FW.out.trans (MF.of_below cm hb3 (Nat.le_trans HSZ.out FW.out.below.size))); obtain ⟨u0, u1, u2, u3, -⟩ := PW.out.facts; clear hb3) | (go_at_call 31; (with_reducible refine (KST.out _ _ PW.out).mono ?_); rintro e w4 ⟨rfl, hb4⟩; have PX := hid (PW.out.below hb4); have FX := hid (FW.out.trans (MF.of_below cm hb4 (Nat.le_trans HSZ.out FW.out.below.size))); obtain ⟨s0, s1, s2, s3, -⟩ := PX.out.facts; clear hb4))
                  go_end0
                  exact PPost.done (HC.out.trans HRS.out) PX.out FX.out
                · have HRS := hid (HRP.out hs)
                  rw [hs] at KST
                  clear hs
                  go_upto_region 18 with (first | (go_at_call 29; (with_reducible refine (KCN.out _).mono ?_); rintro e w3 ⟨rfl, hb3⟩; have PW := hid (PW.out.below hb3); have FW := hid (FW.out.trans (MF.of_below cm hb3 (Nat.le_trans HSZ.out FW.out.below.size))); obtain ⟨u0, u1, u2, u3, -⟩ := PW.out.facts; clear hb3) | (go_at_call 31; (with_reducible refine (KST.out _ _ PW.out).mono ?_); rintro e w4 ⟨rfl, hb4⟩; have PX := hid (PW.out.below hb4); have FX := hid (FW.out.trans (MF.of_below cm hb4 (Nat.le_trans HSZ.out FW.out.below.size))); obtain ⟨s0, s1, s2, s3, -⟩ := PX.out.facts; clear hb4))
                  clear KST HRG HRP
                  rw [HQ2.out] at s1
                  change World.cell? _ ⟨p, 2, none⟩ = some (.int .i64 q.kind) at s2
                  have HB := hid (Nat.le_trans HSZ.out FX.out.below.size)
                  have KP := hid (ParseSeq_drew base p cm _ q el _ HB.out HEL2.out (HT.out.below FX.out.below) PX.out HL.out)
                  have hcv0 := convert_S _ Tryz.underlying49 Tryz.underlying5 Tryz.underlying9 PX.out.own
                  change (convert _ _ (.slice A1 el.length c1)).run _ _ = .ok (.string ⟨el.toArray⟩) _ at hcv0
                  have hcv := convert_S _ Tryz.underlying49 Tryz.underlying5 Tryz.underlying9 PX.out.drew.own
                  change (convert _ _ (.slice A1 el.length c1)).run _ _ = .ok (.string ⟨el.toArray⟩) _ at hcv
                  go_still_tail 10, (by kernel_rfl)
                  go_wp2_with (first
                    | (go_at_call 30; (with_reducible refine KP.out.mono ?_); rintro e w6 ⟨rfl, cm6, p6, f6⟩; have PR := hid p6; have FR := hid (FX.out.trans f6); clear p6 f6)
                    | (go_at_call 18; (with_reducible refine (Reset_calls base p _ _ _ _ PR.out).mono ?_); rintro e w7 ⟨rfl, cm7, ev7, p7, f7⟩; have HF := hid (show PPost w base p cm (st.consume atoiF Lib.trimSpaceD r) (.returned (.tuple #[])) w7 from ⟨rfl, cm7, ev7, by rw [HC.out, HRS.out]; exact p7, FR.out.trans f7⟩); clear p7 f7))
                  go_end0
                  exact HF.out
              · rw [hcn] at KCN
                cases h7 : (r == 7)
                · have HRG := hid (fun h => rest_go HEQ.out HNB.out h (.inr (.inr h7)))
                  have HRP := hid (fun h => rest_stop HEQ.out HNB.out h)
                  have KST := hid (fun w' ev' (h : PA w' base p cm ev' (full q el)) => stopRune_calls base p cm ev' (full q el) r w' h HEL.out)
                  cases hs : stopRune (full q el).esc (full q el).kind r
                  · have HRS := hid (HRG.out hs)
                    rw [hs] at KST
                    clear hs
                    go_wp2_with (first | (go_at_call 29; (with_reducible refine (KCN.out _).mono ?_); rintro e w3 ⟨rfl, hb3⟩; have PW := hid (PW.out.below hb3); have FW := hid (FW.out.trans (MF.of_below cm hb3 (Nat.le_trans HSZ.out FW.out.below.size))); obtain ⟨u0, u1, u2, u3, -⟩ := PW.out.facts; clear hb3) | (go_at_call 31; (with_reducible refine (KST.out _ _ PW.out).mono ?_); rintro e w4 ⟨rfl, hb4⟩; have PX := hid (PW.out.below hb4); have FX := hid (FW.out.trans (MF.of_below cm hb4 (Nat.le_trans HSZ.out FW.out.below.size))); obtain ⟨s0, s1, s2, s3, -⟩ := PX.out.facts; clear hb4))
                    go_end0
                    exact PPost.done (HC.out.trans HRS.out) PX.out FX.out
                  · have HRS := hid (HRP.out hs)
                    rw [hs] at KST
                    clear hs
                    go_upto_region 18 with (first | (go_at_call 29; (with_reducible refine (KCN.out _).mono ?_); rintro e w3 ⟨rfl, hb3⟩; have PW := hid (PW.out.below hb3); have FW := hid (FW.out.trans (MF.of_below cm hb3 (Nat.le_trans HSZ.out FW.out.below.size))); obtain ⟨u0, u1, u2, u3, -⟩ := PW.out.facts; clear hb3) | (go_at_call 31; (with_reducible refine (KST.out _ _ PW.out).mono ?_); rintro e w4 ⟨rfl, hb4⟩; have PX := hid (PW.out.below hb4); have FX := hid (FW.out.trans (MF.of_below cm hb4 (Nat.le_trans HSZ.out FW.out.below.size))); obtain ⟨s0, s1, s2, s3, -⟩ := PX.out.facts; clear hb4))
                    clear KST HRG HRP
                    rw [HQ2.out] at s1
                    change World.cell? _ ⟨p, 2, none⟩ = some (.int .i64 q.kind) at s2
                    have HB := hid (Nat.le_trans HSZ.out FX.out.below.size)
                    have KP := hid (ParseSeq_drew base p cm _ q el _ HB.out HEL2.out (HT.out.below FX.out.below) PX.out HL.out)
                    have hcv0 := convert_S _ Tryz.underlying49 Tryz.underlying5 Tryz.underlying9 PX.out.own
                    change (convert _ _ (.slice A1 el.length c1)).run _ _ = .ok (.string ⟨el.toArray⟩) _ at hcv0
                    have hcv := convert_S _ Tryz.underlying49 Tryz.underlying5 Tryz.underlying9 PX.out.drew.own
                    change (convert _ _ (.slice A1 el.length c1)).run _ _ = .ok (.string ⟨el.toArray⟩) _ at hcv
                    go_still_tail 10, (by kernel_rfl)
                    go_wp2_with (first
                      | (go_at_call 30; (with_reducible refine KP.out.mono ?_); rintro e w6 ⟨rfl, cm6, p6, f6⟩; have PR := hid p6; have FR := hid (FX.out.trans f6); clear p6 f6)
                      | (go_at_call 18; (with_reducible refine (Reset_calls base p _ _ _ _ PR.out).mono ?_); rintro e w7 ⟨rfl, cm7, ev7, p7, f7⟩; have HF := hid (show PPost w base p cm (st.consume atoiF Lib.trimSpaceD r) (.returned (.tuple #[])) w7 from ⟨rfl, cm7, ev7, by rw [HC.out, HRS.out]; exact p7, FR.out.trans f7⟩); clear p7 f7))
                    go_end0
                    exact HF.out
                · have HRS := hid (rest_bell HEQ.out HNB.out k2 hcn h7)
                  go_upto_region 15 with (go_at_call 29; (with_reducible refine (KCN.out _).mono ?_); rintro e w3 ⟨rfl, hb3⟩; have PW := hid (PW.out.below hb3); have FW := hid (FW.out.trans (MF.of_below cm hb3 (Nat.le_trans HSZ.out FW.out.below.size))); obtain ⟨u0, u1, u2, u3, -⟩ := PW.out.facts; clear hb3)
                  go_wp2_with fail
                  clear u0 u1 u2 u3
                  have PX := PW
                  have FX := FW
                  obtain ⟨s0, s1, s2, s3, -⟩ := PX.out.facts
                  rw [HQ2.out] at s1
                  change World.cell? _ ⟨p, 2, none⟩ = some (.int .i64 q.kind) at s2
                  have HB := hid (Nat.le_trans HSZ.out FX.out.below.size)
                  have KP := hid (ParseSeq_drew base p cm _ q el _ HB.out HEL2.out (HT.out.below FX.out.below) PX.out HL.out)
                  have hcv0 := convert_S _ Tryz.underlying49 Tryz.underlying5 Tryz.underlying9 PX.out.own
                  change (convert _ _ (.slice A1 el.length c1)).run _ _ = .ok (.string ⟨el.toArray⟩) _ at hcv0
                  have hcv := convert_S _ Tryz.underlying49 Tryz.underlying5 Tryz.underlying9 PX.out.drew.own
                  change (convert _ _ (.slice A1 el.length c1)).run _ _ = .ok (.string ⟨el.toArray⟩) _ at hcv
                  go_still_tail 10, (by kernel_rfl)
                  go_wp2_with (first
                    | (go_at_call 30; (with_reducible refine KP.out.mono ?_); rintro e w6 ⟨rfl, cm6, p6, f6⟩; have PR := hid p6; have FR := hid (FX.out.trans f6); clear p6 f6)
                    | (go_at_call 18; (with_reducible refine (Reset_calls base p _ _ _ _ PR.out).mono ?_); rintro e w7 ⟨rfl, cm7, ev7, p7, f7⟩; have HF := hid (show PPost w base p cm (st.consume atoiF Lib.trimSpaceD r) (.returned (.tuple #[])) w7 from ⟨rfl, cm7, ev7, by rw [HC.out, HRS.out]; exact p7, FR.out.trans f7⟩); clear p7 f7))
                  go_end0
                  exact HF.out
    · have ho : st.opened r = st := by unfold PSt.opened; rw [if_neg (fun x => by rw [hi] at x; exact absurd x.1 (by simp)), if_neg (fun x => hk x.2)]
      have ek : (st.kind == 0) = false := by simpa using hk
      obtain ⟨q, hq⟩ : ∃ q : PSt, q = st := ⟨_, rfl⟩
      have FQ := hid (MF.refl w base cm)
      have PQ := hid (show PA w base p cm (.slice A st.esc.length c) q by rw [hq]; exact H)
      have HQ := hid (show q.inn = true by rw [hq]; exact hi)
      have HL := hid (show q.codes.length ≤ 8000000000000000 by rw [hq]; exact hl)
      have HE := hid (show q.esc.length ≤ 2048 by rw [hq]; exact hes)
      have HC := hid (consume_rest (ho.trans hq.symm) HQ.out)
      rw [hi] at z1
      clear H ho hi hc hbw ht hl hes hq hr0 hr1 hk hA
      go_enter Tryz.func16, Tryz.ntmps16
      go_upto_region 10 with (fail)
      clear z0 z1 z2 z3 f0 f1 f2 f3
      generalize (Value.slice A st.esc.length c) = ev0 at *
      obtain ⟨y0, y1, y2, y3, g0, g1, g2, g3⟩ := PQ.out.facts
      rw [HQ.out] at y1
      have hBw := Nat.le_trans HSZ.out FQ.out.below.size
      have KR := hid (Tryz.utf8_AppendRune_plain base _ q.esc.length (Lib.byteCells q.esc) r HR0.out HR1.out _ PQ.out.own (by have := HE.out; omega) hBw)
      obtain ⟨el, hel⟩ : ∃ el, el = q.esc ++ Lib.encodeRune r := ⟨_, rfl⟩
      have HEQ := hid hel
      clear hel
      go_upto_region 12 with (go_at_call 28; (with_reducible refine KR.out.mono ?_); rintro e w1 ⟨v1, rfl, hown1, o, hg1⟩; obtain ⟨A1, c1, rfl, x3, k3, pe, fe⟩ := PA.rune' HEQ.out hBw PQ.out hown1 hg1; have PW := hid pe; have FW := hid (FQ.out.trans fe); clear hown1 hg1 pe fe)
      clear y0 y1 y2 y3 g0 g1 g2 g3 KR
      generalize hw2 : (w1.setCell ⟨p, 3, none⟩ (.slice A1 el.length c1)) = w2 at *
      clear hw2 x3 k3 FQ PQ hBw
      obtain ⟨y0, y1, y2, y3, g0, g1, g2, g3⟩ := PW.out.facts
      have HQ2 := hid (show (full q el).inn = true from HQ.out)
      rw [HQ2.out] at y1
      change w2.cell? ⟨p, 2, none⟩ = some (.int .i64 q.kind) at y2
      by_cases hb : 2048 < el.length
      · have hb' : (2048 : Int) < (el.length : Int) := by omega
        have HRS := hid (rest_long HEQ.out hb)
        have PR := hid PW.out
        have FR := hid FW.out
        clear hb
        go_wp2_with (first
          | (go_at_call 18; (with_reducible refine (Reset_calls base p _ _ _ _ PR.out).mono ?_); rintro e w7 ⟨rfl, cm7, ev7, p7, f7⟩; have HF := hid (show PPost w base p cm (st.consume atoiF Lib.trimSpaceD r) (.returned (.tuple #[])) w7 from ⟨rfl, cm7, ev7, by rw [HC.out, HRS.out]; exact p7, FR.out.trans f7⟩); clear p7 f7))
        go_end0
        exact HF.out
      · have hb' : ¬(2048 : Int) < (el.length : Int) := by omega
        have HEL := hid (show (full q el).esc.length ≤ 1000000000 by show el.length ≤ _; omega)
        have HEL2 := hid (show el.length ≤ 10000000 by omega)
        have HNB := hid hb
        clear hb
        cases k2 : (q.kind == 2)
        · have HRG := hid (fun h => rest_go HEQ.out HNB.out h (.inl k2))
          have HRP := hid (fun h => rest_stop HEQ.out HNB.out h)
          have KST := hid (fun w' ev' (h : PA w' base p cm ev' (full q el)) => stopRune_calls base p cm ev' (full q el) r w' h HEL.out)
          cases hs : stopRune (full q el).esc (full q el).kind r
          · have HRS := hid (HRG.out hs)
            rw [hs] at KST
            clear hs
            go_wp2_with (first | fail | (go_at_call 31; (with_reducible refine (KST.out _ _ PW.out).mono ?_); rintro e w4 ⟨rfl, hb4⟩; have PX := hid (PW.out.below hb4); have FX := hid (FW.out.trans (MF.of_below cm hb4 (Nat.le_trans HSZ.out FW.out.below.size))); obtain ⟨s0, s1, s2, s3, -⟩ := PX.out.facts; clear hb4))
            go_end0
            exact PPost.done (HC.out.trans HRS.out) PX.out FX.out
          · have HRS := hid (HRP.out hs)
            rw [hs] at KST
            clear hs
            go_upto_region 18 with (first | fail | (go_at_call 31; (with_reducible refine (KST.out _ _ PW.out).mono ?_); rintro e w4 ⟨rfl, hb4⟩; have PX := hid (PW.out.below hb4); have FX := hid (FW.out.trans (MF.of_below cm hb4 (Nat.le_trans HSZ.out FW.out.below.size))); obtain ⟨s0, s1, s2, s3, -⟩ := PX.out.facts; clear hb4))
            clear KST HRG HRP
            rw [HQ2.out] at s1
            change World.cell? _ ⟨p, 2, none⟩ = some (.int .i64 q.kind) at s2
            have HB := hid (Nat.le_trans HSZ.out FX.out.below.size)
            have KP := hid (ParseSeq_drew base p cm _ q el _ HB.out HEL2.out (HT.out.below FX.out.below) PX.out HL.out)
            have hcv0 := convert_S _ Tryz.underlying49 Tryz.underlying5 Tryz.underlying9 PX.out.own
            change (convert _ _ (.slice A1 el.length c1)).run _ _ = .ok (.string ⟨el.toArray⟩) _ at hcv0
            have hcv := convert_S _ Tryz.underlying49 Tryz.underlying5 Tryz.underlying9 PX.out.drew.own
            change (convert _ _ (.slice A1 el.length c1)).run _ _ = .ok (.string ⟨el.toArray⟩) _ at hcv
            go_still_tail 10, (by kernel_rfl)
            go_wp2_with (first
              | (go_at_call 30; (with_reducible refine KP.out.mono ?_); rintro e w6 ⟨rfl, cm6, p6, f6⟩; have PR := hid p6; have FR := hid (FX.out.trans f6); clear p6 f6)
              | (go_at_call 18; (with_reducible refine (Reset_calls base p _ _ _ _ PR.out).mono ?_); rintro e w7 ⟨rfl, cm7, ev7, p7, f7⟩; have HF := hid (show PPost w base p cm (st.consume atoiF Lib.trimSpaceD r) (.returned (.tuple #[])) w7 from ⟨rfl, cm7, ev7, by rw [HC.out, HRS.out]; exact p7, FR.out.trans f7⟩); clear p7 f7))
            go_end0
            exact HF.out
        · have KCN := hid (fun fz => conceal_calls w2 base _ (full q el).esc PW.out.own fz)
          have kc := fun (w : World) (C : Array Value) (n c : Nat) => Lib.run_convert_bytes_const (P := Tryz.prog) w 49 5 C n c Tryz.underlying49 Tryz.underlying5
          cases hcn : conceal.isPrefixOf (full q el).esc
          · rw [hcn] at KCN
            have HRG := hid (fun h => rest_go HEQ.out HNB.out h (.inr (.inl hcn)))
            have HRP := hid (fun h => rest_stop HEQ.out HNB.out h)
            have KST := hid (fun w' ev' (h : PA w' base p cm ev' (full q el)) => stopRune_calls base p cm ev' (full q el) r w' h HEL.out)
            cases hs : stopRune (full q el).esc (full q el).kind r
            · have HRS := hid (HRG.out hs)
              rw [hs] at KST
              clear hs
              go_wp2_with (first | (go_at_call 29; (with_reducible refine (KCN.out _).mono ?_); rintro e w3 ⟨rfl, hb3⟩; have PW := hid (PW.out.below hb3); have FW := hid (FW.out.trans (MF.of_below cm hb3 (Nat.le_trans HSZ.out FW.out.below.size))); obtain ⟨u0, u1, u2, u3, -⟩ := PW.out.facts; clear hb3) | (go_at_call 31; (with_reducible refine (KST.out _ _ PW.out).mono ?_); rintro e w4 ⟨rfl, hb4⟩; have PX := hid (PW.out.below hb4); have FX := hid (FW.out.trans (MF.of_below cm hb4 (Nat.le_trans HSZ.out FW.out.below.size))); obtain ⟨s0, s1, s2, s3, -⟩ := PX.out.facts; clear hb4))
              go_end0
              exact PPost.done (HC.out.trans HRS.out) PX.out FX.out
            · have HRS := hid (HRP.out hs)
              rw [hs] at KST
              clear hs
              go_upto_region 18 with (first | (go_at_call 29; (with_reducible refine (KCN.out _).mono ?_); rintro e w3 ⟨rfl, hb3⟩; have PW := hid (PW.out.below hb3); have FW := hid (FW.out.trans (MF.of_below cm hb3 (Nat.le_trans HSZ.out FW.out.below.size))); obtain ⟨u0, u1, u2, u3, -⟩ := PW.out.facts; clear hb3) | (go_at_call 31; (with_reducible refine (KST.out _ _ PW.out).mono ?_); rintro e w4 ⟨rfl, hb4⟩; have PX := hid (PW.out.below hb4); have FX := hid (FW.out.trans (MF.of_below cm hb4 (Nat.le_trans HSZ.out FW.out.below.size))); obtain ⟨s0, s1, s2, s3, -⟩ := PX.out.facts; clear hb4))
              clear KST HRG HRP
              rw [HQ2.out] at s1
              change World.cell? _ ⟨p, 2, none⟩ = some (.int .i64 q.kind) at s2
              have HB := hid (Nat.le_trans HSZ.out FX.out.below.size)
              have KP := hid (ParseSeq_drew base p cm _ q el _ HB.out HEL2.out (HT.out.below FX.out.below) PX.out HL.out)
              have hcv0 := convert_S _ Tryz.underlying49 Tryz.underlying5 Tryz.underlying9 PX.out.own
              change (convert _ _ (.slice A1 el.length c1)).run _ _ = .ok (.string ⟨el.toArray⟩) _ at hcv0
              have hcv := convert_S _ Tryz.underlying49 Tryz.underlying5 Tryz.underlying9 PX.out.drew.own
              change (convert _ _ (.slice A1 el.length c1)).run _ _ = .ok (.string ⟨el.toArray⟩) _ at hcv
              go_still_tail 10, (by kernel_rfl)
              go_wp2_with (first
                | (go_at_call 30; (with_reducible refine KP.out.mono ?_); rintro e w6 ⟨rfl, cm6, p6, f6⟩; have PR := hid p6; have FR := hid (FX.out.trans f6); clear p6 f6)
                | (go_at_call 18; (with_reducible refine (Reset_calls base p _ _ _ _ PR.out).mono ?_); rintro e w7 ⟨rfl, cm7, ev7, p7, f7⟩; have HF := hid (show PPost w base p cm (st.consume atoiF Lib.trimSpaceD r) (.returned (.tuple #[])) w7 from ⟨rfl, cm7, ev7, by rw [HC.out, HRS.out]; exact p7, FR.out.trans f7⟩); clear p7 f7))
              go_end0
              exact HF.out
          · rw [hcn] at KCN
            cases h7 : (r == 7)
            · have HRG := hid (fun h => rest_go HEQ.out HNB.out h (.inr (.inr h7)))
              have HRP := hid (fun h => rest_stop HEQ.out HNB.out h)
              have KST := hid (fun w' ev' (h : PA w' base p cm ev' (full q el)) => stopRune_calls base p cm ev' (full q el) r w' h HEL.out)
              cases hs : stopRune (full q el).esc (full q el).kind r
              · have HRS := hid (HRG.out hs)
                rw [hs] at KST
                clear hs
                go_wp2_with (first | (go_at_call 29; (with_reducible refine (KCN.out _).mono ?_); rintro e w3 ⟨rfl, hb3⟩; have PW := hid (PW.out.below hb3); have FW := hid (FW.out.trans (MF.of_below cm hb3 (Nat.le_trans HSZ.out FW.out.below.size))); obtain ⟨u0, u1, u2, u3, -⟩ := PW.out.facts; clear hb3) | (go_at_call 31; (with_reducible refine (KST.out _ _ PW.out).mono ?_); rintro e w4 ⟨rfl, hb4⟩; have PX := hid (PW.out.below hb4); have FX := hid (FW.out.trans (MF.of_below cm hb4 (Nat.le_trans HSZ.out FW.out.below.size))); obtain ⟨s0, s1, s2, s3, -⟩ := PX.out.facts; clear hb4))
                go_end0
                exact PPost.done (HC.out.trans HRS.out) PX.out FX.out
              · have HRS := hid (HRP.out hs)
                rw [hs] at KST
                clear hs
                go_upto_region 18 with (first | (go_at_call 29; (with_reducible refine (KCN.out _).mono ?_); rintro e w3 ⟨rfl, hb3⟩; have PW := hid (PW.out.below hb3); have FW := hid (FW.out.trans (MF.of_below cm hb3 (Nat.le_trans HSZ.out FW.out.below.size))); obtain ⟨u0, u1, u2, u3, -⟩ := PW.out.facts; clear hb3) | (go_at_call 31; (with_reducible refine (KST.out _ _ PW.out).mono ?_); rintro e w4 ⟨rfl, hb4⟩; have PX := hid (PW.out.below hb4); have FX := hid (FW.out.trans (MF.of_below cm hb4 (Nat.le_trans HSZ.out FW.out.below.size))); obtain ⟨s0, s1, s2, s3, -⟩ := PX.out.facts; clear hb4))
                clear KST HRG HRP
                rw [HQ2.out] at s1
                change World.cell? _ ⟨p, 2, none⟩ = some (.int .i64 q.kind) at s2
                have HB := hid (Nat.le_trans HSZ.out FX.out.below.size)
                have KP := hid (ParseSeq_drew base p cm _ q el _ HB.out HEL2.out (HT.out.below FX.out.below) PX.out HL.out)
                have hcv0 := convert_S _ Tryz.underlying49 Tryz.underlying5 Tryz.underlying9 PX.out.own
                change (convert _ _ (.slice A1 el.length c1)).run _ _ = .ok (.string ⟨el.toArray⟩) _ at hcv0
                have hcv := convert_S _ Tryz.underlying49 Tryz.underlying5 Tryz.underlying9 PX.out.drew.own
                change (convert _ _ (.slice A1 el.length c1)).run _ _ = .ok (.string ⟨el.toArray⟩) _ at hcv
                go_still_tail 10, (by kernel_rfl)
                go_wp2_with (first
                  | (go_at_call 30; (with_reducible refine KP.out.mono ?_); rintro e w6 ⟨rfl, cm6, p6, f6⟩; have PR := hid p6; have FR := hid (FX.out.trans f6); clear p6 f6)
                  | (go_at_call 18; (with_reducible refine (Reset_calls base p _ _ _ _ PR.out).mono ?_); rintro e w7 ⟨rfl, cm7, ev7, p7, f7⟩; have HF := hid (show PPost w base p cm (st.consume atoiF Lib.trimSpaceD r) (.returned (.tuple #[])) w7 from ⟨rfl, cm7, ev7, by rw [HC.out, HRS.out]; exact p7, FR.out.trans f7⟩); clear p7 f7))
                go_end0
                exact HF.out
            · have HRS := hid (rest_bell HEQ.out HNB.out k2 hcn h7)
              go_upto_region 15 with (go_at_call 29; (with_reducible refine (KCN.out _).mono ?_); rintro e w3 ⟨rfl, hb3⟩; have PW := hid (PW.out.below hb3); have FW := hid (FW.out.trans (MF.of_below cm hb3 (Nat.le_trans HSZ.out FW.out.below.size))); obtain ⟨u0, u1, u2, u3, -⟩ := PW.out.facts; clear hb3)
              go_wp2_with fail
              clear u0 u1 u2 u3
              have PX := PW
              have FX := FW
              obtain ⟨s0, s1, s2, s3, -⟩ := PX.out.facts
              rw [HQ2.out] at s1
              change World.cell? _ ⟨p, 2, none⟩ = some (.int .i64 q.kind) at s2
              have HB := hid (Nat.le_trans HSZ.out FX.out.below.size)
              have KP := hid (ParseSeq_drew base p cm _ q el _ HB.out HEL2.out (HT.out.below FX.out.below) PX.out HL.out)
              have hcv0 := convert_S _ Tryz.underlying49 Tryz.underlying5 Tryz.underlying9 PX.out.own
              change (convert _ _ (.slice A1 el.length c1)).run _ _ = .ok (.string ⟨el.toArray⟩) _ at hcv0
              have hcv := convert_S _ Tryz.underlying49 Tryz.underlying5 Tryz.underlying9 PX.out.drew.own
              change (convert _ _ (.slice A1 el.length c1)).run _ _ = .ok (.string ⟨el.toArray⟩) _ at hcv
              go_still_tail 10, (by kernel_rfl)
              go_wp2_with (first
                | (go_at_call 30; (with_reducible refine KP.out.mono ?_); rintro e w6 ⟨rfl, cm6, p6, f6⟩; have PR := hid p6; have FR := hid (FX.out.trans f6); clear p6 f6)
                | (go_at_call 18; (with_reducible refine (Reset_calls base p _ _ _ _ PR.out).mono ?_); rintro e w7 ⟨rfl, cm7, ev7, p7, f7⟩; have HF := hid (show PPost w base p cm (st.consume atoiF Lib.trimSpaceD r) (.returned (.tuple #[])) w7 from ⟨rfl, cm7, ev7, by rw [HC.out, HRS.out]; exact p7, FR.out.trans f7⟩); clear p7 f7))
              go_end0
              exact HF.out
end Go.Proofs.YtmljkiohekogbaaGreatDoor
