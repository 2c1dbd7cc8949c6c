import Derived.Test.YthjpchabeemfmaaDoorWh
namespace Go.Proofs.YthjpchabeemfmaaDoor
open Go.RowKit
set_option linter.unusedVariables false
set_option linter.unusedSimpArgs false
set_option maxHeartbeats 4000000
set_option maxRecDepth 100000
attribute [local go_sem] S_extract S_append run_cut_S run_head_S run_tail_S Nat.add_sub_cancel_left

def txOk (t : List UInt8) : Bool := decide (t.length ≤ 200) && txSimple ⟨t.toArray⟩ true
def stR (p : Stp) : Bool := txOk p.text && (decide (p.texts.length ≤ 10) && p.texts.all txOk)
def rightL (l : List Stp) : Bool := l.all stR && decide (l.length ≤ 80)
theorem LtRightL_calls (l : List Stp) (v : Value) (w : World) (h : RdSt w v l) (hm : ∀ p ∈ l, p.text.length ≤ 2147483647 ∧ ∀ t ∈ p.texts, t.length ≤ 2147483647) :
    Calls Tryd.prog 6 #[v] w fun e w' => e = .returned (.bool (rightL l)) ∧ Below w.heap.size w w' := by
  have HR := hid h
  obtain ⟨A, c, rfl, hc, _⟩ := RdF.form h.1
  have hl0 := h.1.1
  clear h
  have HM := hid hm
  clear hm
  go_enter Tryd.func6, Tryd.ntmps6
  go_wp2_with fail
  go_loopw [9] (fun u wr => ∃ k : Nat, k ≤ l.length ∧ u = .int .i64 k ∧ Below w.heap.size w wr ∧ Hid (((l.drop k).all stR && decide (l.length ≤ 80)) = rightL l)) (fun u _ => l.length - (intOf u).toNat)
  case atStart => exact ⟨0, by omega, rfl, Below.refl _ _, hid rfl⟩
  case round =>
    obtain ⟨k, hk, rfl, hbw, hT⟩ := hrel
    by_cases hlt : k < l.length
    · obtain ⟨p, hp⟩ : ∃ p, l[k]? = some p := ⟨_, List.getElem?_eq_getElem hlt⟩
      have hm := List.mem_of_getElem? hp
      have hlt' : (k : Int) < (l.length : Int) := by omega
      obtain ⟨g, o, rfl, hcl⟩ := (HR.out.below hbw).1.at (by omega)
      obtain ⟨q0, q1, q2⟩ := stp_get hp
      have hc0 := hcl _ _ q0
      have hc1 := hcl _ _ q1
      have hc2 := hcl _ _ q2
      rw [← Nat.add_assoc] at hc1 hc2
      obtain ⟨hml, hmt⟩ := HM.out p hm
      have KS := hid (fun (t : List UInt8) (ht : t.length ≤ 2147483647) (W : World) => TxSimple_calls ⟨t.toArray⟩ true W (by rw [S_size]; omega))
      have HA := hid (show (stR p && ((l.drop (k + 1)).all stR && decide (l.length ≤ 80))) = rightL l by
        rw [← hT.out, List.drop_eq_getElem_cons hlt, (List.getElem?_eq_some_iff.1 hp).2, List.all_cons, Bool.and_assoc])
      have HTS := hid ((HR.out.below hbw).2 p hm)
      have HG := hid (show stR p = ((decide (p.text.length ≤ 200) && txSimple ⟨p.text.toArray⟩ true) && (decide (p.texts.length ≤ 10) && p.texts.all txOk)) from rfl)
      obtain ⟨A2, c2, hvv, _, _⟩ := RdF.form (HR.out.2 p hm)
      generalize stR p = gp at HA HG
      obtain ⟨kd, tx, ts, vv⟩ := p
      dsimp only at hc0 hc1 hc2 hvv HTS HG hml hmt
      subst hvv
      clear hcl hp q0 q1 q2 hT hm
      have KS1 := hid (KS.out tx hml)
      generalize txSimple ⟨tx.toArray⟩ true = sb at KS1 HG
      have hbA := (Below.refl wr.heap.size wr).alloc (Nat.le_refl _) (.cells #[.int .i64 kd, .string ⟨tx.toArray⟩, .slice A2 ts.length c2] 35)
      have HBA := hid hbA
      have HBW := hid (hbw.trans (hbA.mono hbw.size))
      have HN := hid (fun (W' : World) (h : Below (wr.heap.size + 1) (wr.alloc (.cells #[.int .i64 kd, .string ⟨tx.toArray⟩, .slice A2 ts.length c2] 35)) W') => show W'.cell? ⟨wr.heap.size, 2, none⟩ = some (.slice A2 ts.length c2) from (h.cell (by show wr.heap.size < _; omega)).trans (blk_cell (alloc_heap_new wr _) 2))
      have HMT := hid hmt
      clear hbA hmt
      by_cases h2 : tx.length ≤ 200
      · have h2' : ¬ (200 : Int) < (tx.length : Int) := by omega
        cases sb with
        | false =>
          go_wp2_with (go_at_call 15; (with_reducible refine (KS1.out _).mono ?_); rintro e w2 ⟨rfl, hb2⟩; have d2 := HN.out w2 (hb2.mono (by first | exact Nat.le_refl _ | simp)))
          go_ret
          exact ⟨ret_bool (by rw [← HA.out, HG.out]; simp), HBW.out.trans (hb2.mono HBW.out.size)⟩
        | true =>
          by_cases h10 : ts.length ≤ 10
          · have h10' : ¬ (10 : Int) < (ts.length : Int) := by omega
            have HG2 := hid (show gp = ts.all txOk by rw [HG.out, decide_eq_true h2, decide_eq_true h10]; simp)
            go_wp2_with (go_at_call 15; (with_reducible refine (KS1.out _).mono ?_); rintro e w2 ⟨rfl, hb2⟩; have d2 := HN.out w2 (hb2.mono (by first | exact Nat.le_refl _ | simp)))
            have HB2 := hid (HBA.out.trans (hb2.mono HBA.out.size))
            have HR2 := hid (RdF.below HTS.out HB2.out)
            have HBQ := hid (HBW.out.trans (hb2.mono HBW.out.size))
            clear hc0 hc1 hc2 hb2 HBA HN HBW hbw HG KS1 d2 HTS
            go_loopw [32] (fun u ws => ∃ j : Nat, j ≤ ts.length ∧ u = .int .i64 j ∧ Below w.heap.size w ws ∧ Below w2.heap.size w2 ws ∧ Hid ((ts.drop j).all txOk = ts.all txOk)) (fun u _ => ts.length - (intOf u).toNat)
            case atStart => exact ⟨0, by omega, rfl, HBQ.out, Below.refl _ _, hid rfl⟩
            case round =>
              obtain ⟨j, hj, rfl, hbs, hbs2, hac⟩ := hrel
              by_cases hjl : j < ts.length
              · obtain ⟨t, ht⟩ : ∃ t, ts[j]? = some t := ⟨_, List.getElem?_eq_getElem hjl⟩
                obtain ⟨gt, ot, rfl, hct⟩ := RdF.at (RdF.below HR2.out hbs2) (by omega)
                have hctj := hct j (.string ⟨t.toArray⟩) (strs_getL ht)
                have hjl' : (j : Int) < (ts.length : Int) := by omega
                have htl := HMT.out t (List.mem_of_getElem? ht)
                have KT := hid (KS.out t htl)
                have HO := hid (show ((decide (t.length ≤ 200) && txSimple ⟨t.toArray⟩ true) && (ts.drop (j + 1)).all txOk) = ts.all txOk by
                  rw [← hac.out, List.drop_eq_getElem_cons hjl, (List.getElem?_eq_some_iff.1 ht).2]
                  rfl)
                generalize txSimple ⟨t.toArray⟩ true = sc at KT HO
                clear hct ht hac
                by_cases h3 : t.length ≤ 200
                · have h3' : ¬ (200 : Int) < (t.length : Int) := by omega
                  rw [decide_eq_true h3] at HO
                  cases sc with
                  | true =>
                    go_wp2_with (go_at_call 15; (with_reducible refine (KT.out _).mono ?_); rintro e w4 ⟨rfl, hb4⟩)
                    go_roundw
                    case rel => exact ⟨j + 1, by omega, by go_num, hbs.trans (hb4.mono hbs.size), hbs2.trans (hb4.mono hbs2.size), hid HO.out⟩
                    case measure => simp [intOf]; omega
                  | false =>
                    go_wp2_with (go_at_call 15; (with_reducible refine (KT.out _).mono ?_); rintro e w4 ⟨rfl, hb4⟩)
                    go_ret
                    exact ⟨ret_bool (by rw [← HA.out, HG2.out, ← HO.out]; rfl), hbs.trans (hb4.mono hbs.size)⟩
                · have h3' : (200 : Int) < (t.length : Int) := by omega
                  rw [decide_eq_false h3] at HO
                  go_wp2_with fail
                  go_ret
                  exact ⟨ret_bool (by rw [← HA.out, HG2.out, ← HO.out]; rfl), hbs⟩
              · have hjl' : ¬ (j : Int) < (ts.length : Int) := by omega
                have HO := hid (show gp = true by rw [HG2.out, ← hac.out, List.drop_of_length_le (by omega)]; rfl)
                clear hac
                go_wp2_with fail
                go_roundw
                case rel => exact ⟨k + 1, by omega, by go_num, hbs, hid (by rw [← HA.out, HO.out]; rfl)⟩
                case measure => simp [intOf]; omega
          · have h10' : (10 : Int) < (ts.length : Int) := by omega
            go_wp2_with (go_at_call 15; (with_reducible refine (KS1.out _).mono ?_); rintro e w2 ⟨rfl, hb2⟩; have d2 := HN.out w2 (hb2.mono (by first | exact Nat.le_refl _ | simp)))
            go_ret
            exact ⟨ret_bool (by rw [← HA.out, HG.out, decide_eq_false h10]; simp), HBW.out.trans (hb2.mono HBW.out.size)⟩
      · have h2' : (200 : Int) < (tx.length : Int) := by omega
        go_wp2_with fail
        go_ret
        exact ⟨ret_bool (by rw [← HA.out, HG.out, decide_eq_false h2]; simp), HBW.out⟩
    · have hlt' : ¬ (k : Int) < (l.length : Int) := by omega
      have HS := hid (show decide (l.length ≤ 80) = rightL l by rw [← hT.out, List.drop_of_length_le (by omega)]; rfl)
      clear hT
      go_wp2_with fail
      go_ret
      exact ⟨ret_bool (by rw [← HS.out]; simp; omega), hbw⟩
/-- known characters are neither tabs nor carriage returns -/
theorem simple_calm (l : List UInt8) (lines : Bool) (h : txSimple ⟨l.toArray⟩ lines = true) : ∀ b ∈ l, b ≠ 9 ∧ b ≠ 13 := by
  unfold txSimple txSimpleL at h
  rw [runes_L, List.all_eq_true] at h
  have hr : ∀ r ∈ runesL l, calm r ∧ r ≠ 65533 := fun r hm => by
    have := h r hm
    unfold txKnown txBoxed txWide at this
    simp only [Bool.or_eq_true, Bool.and_eq_true, decide_eq_true_eq, beq_iff_eq] at this
    unfold calm
    omega
  have he := encs_runesL _ l (Nat.le_refl _) (fun r hm => (hr r hm).2)
  intro b hb
  rw [← he] at hb
  unfold encs at hb
  obtain ⟨r, hm, hb2⟩ := List.mem_flatMap.1 hb
  exact calm_enc (hr r hm).1 b hb2
end Go.Proofs.YthjpchabeemfmaaDoor
