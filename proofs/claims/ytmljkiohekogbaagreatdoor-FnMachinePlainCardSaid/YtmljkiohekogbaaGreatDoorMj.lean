import Derived.Test.YtmljkiohekogbaaGreatDoorMi
namespace Go.Proofs.YtmljkiohekogbaaGreatDoor
open Go.RowKit Go.Maps
set_option linter.unusedVariables false
set_option linter.unusedSimpArgs false
set_option maxHeartbeats 4000000
set_option maxRecDepth 100000

theorem set256_calls (p b : Nat) (base k : Int) (c : List Int) (w : World) (hp : MapAt w p b) (hc : CM w b c) (hn : c.length < 9223372036854775807) (hb : base = 1000 ∨ base = 2000) (hk : 0 ≤ k ∧ k ≤ 255) :
    Calls Tryz.prog 56 #[.pointer (some ⟨p, 0, none⟩), .int .i64 base, .int .i64 k] w fun e w' => e = .returned (.tuple #[]) ∧ CM w' b (set256 base k c) ∧ OneMap w w' b := by
  have HP := hid hp
  have HC := hid hc
  have hz0 := hp.cell
  have HN := hid hn
  have hb1 : 1000 ≤ base := by omega
  have hb2 : base ≤ 2000 := by omega
  obtain ⟨hk1, hk2⟩ := hk
  clear hp hc hn hb
  go_enter Tryz.func56, Tryz.ntmps56
  go_wp2_with (at_mapUpdate; refine wpList_putC _ rfl _ _ _ rfl b _ rfl HC.out (by unfold maxLen; exact HN.out) _ rfl rfl (wf64 (by omega) (by omega)) ?_; intro w1 hc1 hm1)
  have HC1 := hid hc1
  have HM1 := hid hm1
  clear hc1 hm1 hz0
  go_loopw [7] (fun v wr => ∃ j : Nat, j ≤ 256 ∧ v = .int .i64 (base + (j : Int)) ∧ CM wr b (delUp base j (base + k) (insC (base + k) c)) ∧ OneMap w wr b) (fun v _ => (base + 256 - intOf v).toNat)
  case atStart => exact ⟨0, by omega, by congr 1; omega, by rw [delUp_zero]; exact HC1.out, HM1.out⟩
  case round =>
    obtain ⟨j, hj, rfl, hcm, hom⟩ := hrel
    have hz := (HP.out.turn hom).cell
    by_cases hlt : j < 256
    · have hlt' : base + (j : Int) ≤ base + 255 := by omega
      have HCM := hid hcm
      have HOM := hid hom
      clear hcm hom
      by_cases e : base + (j : Int) = base + k
      · have e1 : (base + (j : Int) == base + k) = true := by simpa using e
        have e2 : (base + (j : Int) != base + k) = false := by simp [e]
        have HE := hid e
        clear e
        go_wp2_with fail
        go_roundw
        case rel => exact ⟨j + 1, by omega, by congr 1; omega, by rw [← delUp_skip base j (base + k) _ HE.out]; exact HCM.out, HOM.out⟩
        case measure => simp [intOf]; omega
      · have e1 : (base + (j : Int) == base + k) = false := by simpa using e
        have e2 : (base + (j : Int) != base + k) = true := by simpa using e
        have HE := hid e
        clear e
        go_wp2_with (at_delete; refine wpList_delC _ rfl _ _ rfl b _ rfl HCM.out _ rfl (wf64 (by omega) (by omega)) ?_; intro w2 hc2 hm2)
        go_roundw
        case rel => exact ⟨j + 1, by omega, by congr 1; omega, by rw [← delUp_succ base j (base + k) _ HE.out]; exact hc2, HOM.out.trans hm2⟩
        case measure => simp [intOf]; omega
    · have hj8 : j = 256 := by omega
      subst hj8
      have hlt' : ¬ base + ((256 : Nat) : Int) ≤ base + 255 := by omega
      have HF : Hid (CM wr b (set256 base k c)) := hid (by rw [← delUp_256]; exact hcm)
      have HO := hid hom
      clear hcm hom hlt hj
      go_wp2_with fail
      go_end0
      exact ⟨rfl, HF.out, HO.out⟩
theorem isRegular_calls (p : Nat) (n : Int) (w : World) : Calls Tryz.prog 76 #[.pointer (some ⟨p, 0, none⟩), .int .i64 n] w fun e w' => e = .returned (.bool (decide (n < 1000 ∨ 2255 < n))) ∧ w = w' := by
  by_cases h1 : n < 1000
  · go_enter Tryz.func76, Tryz.ntmps76
    go_wp2_with fail
    go_ret
    exact ⟨ret_bool (by simp [h1]), rfl⟩
  · by_cases h2 : 2255 < n
    · go_enter Tryz.func76, Tryz.ntmps76
      go_wp2_with fail
      go_ret
      exact ⟨ret_bool (by simp [h2]), rfl⟩
    · go_enter Tryz.func76, Tryz.ntmps76
      go_wp2_with fail
      go_ret
      exact ⟨ret_bool (by simp [h1, h2]), rfl⟩
/-- what a code leaves -/
def ProcPost (w : World) (base p b : Nat) (ev : Value) (st : PSt) (c' : List Int) (e : Ending) (w' : World) : Prop :=
  e = .returned (.tuple #[]) ∧ ∃ b', base ≤ b' ∧ PA w' base p (.map (some b')) ev { st with codes := c' } ∧ CM w' b' c' ∧ MF w w' base (.map (some b)) (.map (some b'))
theorem ProcPost.one {w w' : World} {base p b : Nat} {ev : Value} {st : PSt} {c c' : List Int} (H : PA w base p (.map (some b)) ev st) (hc : CM w b c) (hb : base ≤ b) (h1 : CM w' b c') (h2 : OneMap w w' b) : ProcPost w base p b ev st c' (.returned (.tuple #[])) w' :=
  ⟨rfl, b, hb, H.map hc h2 hb h1, h1, .of_map h2 hb⟩
theorem PA.mapAt {w : World} {base p b : Nat} {ev : Value} {st : PSt} {c : List Int} (H : PA w base p (.map (some b)) ev st) (hc : CM w b c) : MapAt w p b := ⟨H.ne_map hc, _, _, _, H.row⟩

theorem processCode_calls (base p b : Nat) (ev : Value) (st : PSt) (n : Int) (w : World) (hbw : base ≤ w.heap.size) (H : PA w base p (.map (some b)) ev st) (hc : CM w b st.codes) (hb : base ≤ b) (hl : st.codes.length < 9223372036854775807) (hn1 : -9223372036854775808 ≤ n) (hn2 : n ≤ 9223372036854775807) :
    Calls Tryz.prog 59 #[.pointer (some ⟨p, 0, none⟩), .int .i64 n] w (ProcPost w base p b ev st (procCode n st.codes)) := by
  have hz := (H.mapAt hc).cell
  have HH := hid H
  have HC := hid hc
  by_cases e0 : n = 0
  · subst e0
    have hfz : w.frozen? ⟨p, 0, none⟩ = false := blk_free H.row 0
    have hfz2 : (w.alloc (.map #[] 0)).frozen? ⟨p, 0, none⟩ = false := blk_free (heap_keep H.row ((Below.refl _ _).alloc (Nat.le_refl _) _)) 0
    have hz2 : (w.alloc (.map #[] 0)).cell? ⟨p, 0, none⟩ = some (.map (some b)) := blk_cell (heap_keep H.row ((Below.refl _ _).alloc (Nat.le_refl _) _)) 0
    have hmm := @run_makeMap Tryz.prog
    have HF := hid (show ProcPost w base p b ev st (procCode 0 st.codes) (.returned (.tuple #[])) ((w.alloc (.map #[] 0)).setCell ⟨p, 0, none⟩ (.map (some w.heap.size))) from by
      have hA : Below w.heap.size w (w.alloc (.map #[] 0)) := (Below.refl _ _).alloc (Nat.le_refl _) _
      have HA := H.below hA
      have hne : w.heap.size ≠ p := by have := heap_lt H.row; omega
      have hm : CM (w.alloc (.map #[] 0)) w.heap.size [] := CM.made w
      have hr := HA.row
      refine ⟨rfl, w.heap.size, hbw, HA.set 0 _ rfl rfl (.inr ⟨_, rfl, hbw, hne, hm⟩), ?_, ?_⟩
      · obtain ⟨es, ck, h1⟩ := hm.obj
        exact hm.heap ((heap_set_ne h1 hne _).trans h1.symm)
      · have h1 : MF w (w.alloc (.map #[] 0)) base (.map (some b)) (.map (some b)) := .of_below _ hA hbw
        have h2 := MF.of_set (.map (some b)) hr HA.le 0 (.map (some w.heap.size))
        have h3 := h1.trans h2
        exact ⟨h3.below, h3.keep, .inr ⟨_, Nat.le_refl _, rfl⟩⟩)
    clear H hc
    go_enter Tryz.func59, Tryz.ntmps59
    go_wp2_with fail
    go_end0
    exact HF.out
  have f0 : (n == 0) = false := by simpa using e0
  by_cases e22 : n = 22
  · subst e22
    have HF := hid (show procCode 22 st.codes = delC 2 (delC 1 st.codes) from rfl)
    have HMA := hid (H.mapAt hc)
    clear H hc
    go_enter Tryz.func59, Tryz.ntmps59
    go_wp2_with (first
      | (at_delete; refine wpList_delC _ rfl _ _ rfl b _ rfl HC.out _ rfl (wf64 (by omega) (by omega)) ?_; intro w1 hc1 hm1; have hzz := (HMA.out.turn hm1).cell; have HC1 := hid hc1; have HM1 := hid hm1; clear hc1 hm1)
      | (at_delete; refine wpList_delC _ rfl _ _ rfl b _ rfl HC1.out _ rfl (wf64 (by omega) (by omega)) ?_; intro w2 hc2 hm2))
    go_end0
    rw [HF.out]
    exact .one HH.out HC.out hb hc2 (HM1.out.trans hm2)
  have f22 : (n == 22) = false := by simpa using e22
  by_cases e23 : n = 23
  · subst e23
    have HF := hid (show procCode 23 st.codes = delC 3 st.codes from rfl)
    clear H hc
    go_enter Tryz.func59, Tryz.ntmps59
    go_wp2_with (at_delete; refine wpList_delC _ rfl _ _ rfl b _ rfl HC.out _ rfl (wf64 (by omega) (by omega)) ?_; intro w1 hc1 hm1)
    go_end0
    rw [HF.out]
    exact .one HH.out HC.out hb hc1 hm1
  have f23 : (n == 23) = false := by simpa using e23
  by_cases e24 : n = 24
  · subst e24
    have HF := hid (show procCode 24 st.codes = delC 4 st.codes from rfl)
    clear H hc
    go_enter Tryz.func59, Tryz.ntmps59
    go_wp2_with (at_delete; refine wpList_delC _ rfl _ _ rfl b _ rfl HC.out _ rfl (wf64 (by omega) (by omega)) ?_; intro w1 hc1 hm1)
    go_end0
    rw [HF.out]
    exact .one HH.out HC.out hb hc1 hm1
  have f24 : (n == 24) = false := by simpa using e24
  by_cases e25 : n = 25
  · subst e25
    have HF := hid (show procCode 25 st.codes = delC 6 (delC 5 st.codes) from rfl)
    have HMA := hid (H.mapAt hc)
    clear H hc
    go_enter Tryz.func59, Tryz.ntmps59
    go_wp2_with (first
      | (at_delete; refine wpList_delC _ rfl _ _ rfl b _ rfl HC.out _ rfl (wf64 (by omega) (by omega)) ?_; intro w1 hc1 hm1; have hzz := (HMA.out.turn hm1).cell; have HC1 := hid hc1; have HM1 := hid hm1; clear hc1 hm1)
      | (at_delete; refine wpList_delC _ rfl _ _ rfl b _ rfl HC1.out _ rfl (wf64 (by omega) (by omega)) ?_; intro w2 hc2 hm2))
    go_end0
    rw [HF.out]
    exact .one HH.out HC.out hb hc2 (HM1.out.trans hm2)
  have f25 : (n == 25) = false := by simpa using e25
  by_cases e27 : n = 27
  · subst e27
    have HF := hid (show procCode 27 st.codes = delC 7 st.codes from rfl)
    clear H hc
    go_enter Tryz.func59, Tryz.ntmps59
    go_wp2_with (at_delete; refine wpList_delC _ rfl _ _ rfl b _ rfl HC.out _ rfl (wf64 (by omega) (by omega)) ?_; intro w1 hc1 hm1)
    go_end0
    rw [HF.out]
    exact .one HH.out HC.out hb hc1 hm1
  have f27 : (n == 27) = false := by simpa using e27
  by_cases e29 : n = 29
  · subst e29
    have HF := hid (show procCode 29 st.codes = delC 9 st.codes from rfl)
    clear H hc
    go_enter Tryz.func59, Tryz.ntmps59
    go_wp2_with (at_delete; refine wpList_delC _ rfl _ _ rfl b _ rfl HC.out _ rfl (wf64 (by omega) (by omega)) ?_; intro w1 hc1 hm1)
    go_end0
    rw [HF.out]
    exact .one HH.out HC.out hb hc1 hm1
  have f29 : (n == 29) = false := by simpa using e29
  by_cases e39 : n = 39
  · subst e39
    have HF := hid (show procCode 39 st.codes = delR 1000 1255 (delR 90 97 (delR 30 37 st.codes)) from rfl)
    have KC := hid (clearFg_calls p b st.codes w (H.mapAt hc) hc)
    clear H hc
    go_enter Tryz.func59, Tryz.ntmps59
    go_wp2_with (go_at_call 74; (with_reducible refine KC.out.mono ?_); rintro e w1 ⟨rfl, hc1, hm1⟩)
    go_end0
    rw [HF.out]
    exact .one HH.out HC.out hb hc1 hm1
  have f39 : (n == 39) = false := by simpa using e39
  by_cases e49 : n = 49
  · subst e49
    have HF := hid (show procCode 49 st.codes = delR 2000 2255 (delR 100 107 (delR 40 47 st.codes)) from rfl)
    have KC := hid (clearBg_calls p b st.codes w (H.mapAt hc) hc)
    clear H hc
    go_enter Tryz.func59, Tryz.ntmps59
    go_wp2_with (go_at_call 75; (with_reducible refine KC.out.mono ?_); rintro e w1 ⟨rfl, hc1, hm1⟩)
    go_end0
    rw [HF.out]
    exact .one HH.out HC.out hb hc1 hm1
  have f49 : (n == 49) = false := by simpa using e49
  by_cases hr : n < 1000 ∨ 2255 < n
  · have HF := hid (show procCode n st.codes = insC n st.codes by unfold procCode; rw [if_neg e0, if_neg e22, if_neg e23, if_neg e24, if_neg e25, if_neg e27, if_neg e29, if_neg e39, if_neg e49, if_pos hr])
    have KR := hid (isRegular_calls p n w)
    rw [decide_eq_true hr] at KR
    clear hr
    clear H hc e0 e22 e23 e24 e25 e27 e29 e39 e49
    go_enter Tryz.func59, Tryz.ntmps59
    go_wp2_with (first
      | (go_at_call 76; (with_reducible refine KR.out.mono ?_); rintro e w1 ⟨rfl, rfl⟩)
      | (at_mapUpdate; refine wpList_putC _ rfl _ _ _ rfl b _ rfl HC.out (by unfold maxLen; exact hl) _ rfl rfl (wf64 (by omega) (by omega)) ?_; intro w1 hc1 hm1))
    go_end0
    rw [HF.out]
    exact .one HH.out HC.out hb hc1 hm1
  · have HF := hid (show procCode n st.codes = st.codes by unfold procCode; rw [if_neg e0, if_neg e22, if_neg e23, if_neg e24, if_neg e25, if_neg e27, if_neg e29, if_neg e39, if_neg e49, if_neg hr])
    have KR := hid (isRegular_calls p n w)
    rw [decide_eq_false hr] at KR
    clear hr
    clear H hc e0 e22 e23 e24 e25 e27 e29 e39 e49
    go_enter Tryz.func59, Tryz.ntmps59
    go_wp2_with (go_at_call 76; (with_reducible refine KR.out.mono ?_); rintro e w1 ⟨rfl, rfl⟩)
    go_end0
    rw [HF.out]
    exact .one HH.out HC.out hb HC.out (OneMap.refl _ _)
end Go.Proofs.YtmljkiohekogbaaGreatDoor
