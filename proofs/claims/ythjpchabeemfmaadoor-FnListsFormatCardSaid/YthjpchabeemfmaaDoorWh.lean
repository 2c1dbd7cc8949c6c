import Derived.Test.YthjpchabeemfmaaDoorGb
import Derived.Test.YthjpchabeemfmaaDoorWb
namespace Go.Proofs.YthjpchabeemfmaaDoor
open Go.RowKit
set_option linter.unusedVariables false
set_option linter.unusedSimpArgs false
set_option maxHeartbeats 4000000
set_option maxRecDepth 100000
attribute [local go_sem] S_extract S_append run_cut_S run_head_S run_tail_S Nat.add_sub_cancel_left

def fits13L (ls : List (List UInt8)) : Bool := decide (ls.length ≤ 2147483647) && ls.all fun s => decide (s.length ≤ 2147483647)
theorem strs_getL {ls : List (List UInt8)} {k : Nat} {s : List UInt8} (h : ls[k]? = some s) : (strs ls)[k]? = some (.string ⟨s.toArray⟩) := by unfold strs; rw [List.getElem?_map, h]; rfl
theorem zzFits13L_calls (ls : List (List UInt8)) (v : Value) (w : World) (h : RdS w v ls) :
    Calls Tryd.prog 23 #[v] w fun e w' => e = .returned (.bool (fits13L ls)) ∧ Below w.heap.size w w' := by
  have HR := hid h
  have hn := h.1
  obtain ⟨A, c, rfl, hc, _⟩ := RdF.form h
  clear h
  by_cases hl : ls.length ≤ 2147483647
  · have hl' : ¬ (2147483647 : Int) < (ls.length : Int) := by omega
    have HF := hid (show fits13L ls = ls.all fun s => decide (s.length ≤ 2147483647) by unfold fits13L; rw [decide_eq_true hl]; rfl)
    go_enter Tryd.func23, Tryd.ntmps23
    go_wp2
    go_loopw [10] (fun u wr => ∃ k : Nat, k ≤ ls.length ∧ u = .int .i64 k ∧ Below w.heap.size w wr ∧ Hid ((ls.drop k).all (fun s => decide (s.length ≤ 2147483647)) = fits13L ls)) (fun u _ => ls.length - (intOf u).toNat)
    case atStart => exact ⟨0, by omega, rfl, Below.refl _ _, hid HF.out.symm⟩
    case round =>
      obtain ⟨k, hk, rfl, hbw, hacc⟩ := hrel
      by_cases hlt : k < ls.length
      · obtain ⟨s, hs⟩ : ∃ s, ls[k]? = some s := ⟨_, List.getElem?_eq_getElem hlt⟩
        obtain ⟨g, o, rfl, hcl⟩ := (RdF.below HR.out hbw).at (by omega)
        have hcell := hcl k _ (strs_getL hs)
        have hlt' : (k : Int) < (ls.length : Int) := by omega
        have HA := hid (show (decide (s.length ≤ 2147483647) && (ls.drop (k + 1)).all fun s => decide (s.length ≤ 2147483647)) = fits13L ls by
          rw [← hacc.out, List.drop_eq_getElem_cons hlt, (List.getElem?_eq_some_iff.1 hs).2]
          rfl)
        clear hacc hcl hs
        by_cases h1 : s.length ≤ 2147483647
        · have h1' : ¬ (2147483647 : Int) < (s.length : Int) := by omega
          rw [decide_eq_true h1] at HA
          go_wp2
          go_roundw
          case rel => exact ⟨k + 1, by omega, by go_num, hbw, hid HA.out⟩
          case measure => simp [intOf]; omega
        · have h1' : (2147483647 : Int) < (s.length : Int) := by omega
          rw [decide_eq_false h1] at HA
          go_wp2
          go_ret
          exact ⟨ret_bool (by rw [← HA.out]; rfl), hbw⟩
      · have hlt' : ¬ (k : Int) < (ls.length : Int) := by omega
        have HA := hid (show fits13L ls = true by rw [← hacc.out, List.drop_of_length_le (by omega)]; rfl)
        clear hacc
        go_wp2
        go_ret
        exact ⟨ret_bool HA.out.symm, hbw⟩
  · have hl' : (2147483647 : Int) < (ls.length : Int) := by omega
    have HF := hid (show fits13L ls = false by unfold fits13L; rw [decide_eq_false hl]; rfl)
    go_enter Tryd.func23, Tryd.ntmps23
    go_wp2
    go_ret
    exact ⟨ret_bool HF.out.symm, Below.refl _ w⟩
def fitSt (p : Stp) : Bool := decide (p.text.length ≤ 2147483647) && fits13L p.texts
theorem zzFits12L_calls (p : Stp) (w : World) (h : RdS w p.val p.texts) :
    Calls Tryd.prog 14 #[.agg #[.int .i64 p.kind, .string ⟨p.text.toArray⟩, p.val]] w fun e w' => e = .returned (.bool (fitSt p)) ∧ Below w.heap.size w w' := by
  have KF := hid (fun (W : World) (hb : Below w.heap.size w W) => zzFits13L_calls p.texts p.val W (h.below hb))
  obtain ⟨A, c, hv, _, _⟩ := RdF.form h
  clear h
  have HB := hid (show fitSt p = (decide (p.text.length ≤ 2147483647) && fits13L p.texts) from rfl)
  generalize fitSt p = ft at *
  obtain ⟨kd, tx, ts, v⟩ := p
  dsimp only at hv KF HB
  subst hv
  generalize fits13L ts = ff at KF HB
  by_cases h1 : tx.length ≤ 2147483647
  · have h1' : ¬ (2147483647 : Int) < (tx.length : Int) := by omega
    rw [decide_eq_true h1] at HB
    have HBA := hid ((Below.refl w.heap.size w).alloc (Nat.le_refl _) (.cells #[.int .i64 kd, .string ⟨tx.toArray⟩, .slice A ts.length c] 35))
    cases ff with
    | true =>
      go_enter Tryd.func14, Tryd.ntmps14
      go_wp2_with (go_at_call 23; (with_reducible refine (KF.out _ HBA.out).mono ?_); rintro e w2 ⟨rfl, hb2⟩)
      go_ret
      exact ⟨ret_bool HB.out.symm, HBA.out.trans (hb2.mono HBA.out.size)⟩
    | false =>
      go_enter Tryd.func14, Tryd.ntmps14
      go_wp2_with (go_at_call 23; (with_reducible refine (KF.out _ HBA.out).mono ?_); rintro e w2 ⟨rfl, hb2⟩)
      go_ret
      exact ⟨ret_bool HB.out.symm, HBA.out.trans (hb2.mono HBA.out.size)⟩
  · have h1' : (2147483647 : Int) < (tx.length : Int) := by omega
    rw [decide_eq_false h1] at HB
    go_enter Tryd.func14, Tryd.ntmps14
    go_wp2_with fail
    go_ret
    exact ⟨ret_bool HB.out.symm, by first | exact Below.refl _ w | exact (Below.refl _ w).alloc (Nat.le_refl _) _⟩
def fits11L (l : List Stp) : Bool := decide (l.length ≤ 2147483647) && l.all fitSt
theorem zzFits11L_calls (l : List Stp) (v : Value) (w : World) (h : RdSt w v l) :
    Calls Tryd.prog 4 #[v] w fun e w' => e = .returned (.bool (fits11L l)) ∧ Below w.heap.size w w' := by
  have HR := hid h
  obtain ⟨A, c, rfl, hc, _⟩ := RdF.form h.1
  clear h
  by_cases hl : l.length ≤ 2147483647
  · have hl' : ¬ (2147483647 : Int) < (l.length : Int) := by omega
    have HF := hid (show fits11L l = l.all fitSt by unfold fits11L; rw [decide_eq_true hl]; rfl)
    go_enter Tryd.func4, Tryd.ntmps4
    go_wp2_with fail
    go_loopw [10] (fun u wr => ∃ k : Nat, k ≤ l.length ∧ u = .int .i64 k ∧ Below w.heap.size w wr ∧ Hid ((l.drop k).all fitSt = fits11L l)) (fun u _ => l.length - (intOf u).toNat)
    case atStart => exact ⟨0, by omega, rfl, Below.refl _ _, hid HF.out.symm⟩
    case round =>
      obtain ⟨k, hk, rfl, hbw, hacc⟩ := hrel
      by_cases hlt : k < l.length
      · obtain ⟨p, hp⟩ : ∃ p, l[k]? = some p := ⟨_, List.getElem?_eq_getElem hlt⟩
        have hm := List.mem_of_getElem? hp
        obtain ⟨g, o, rfl, hcl⟩ := (HR.out.below hbw).1.at (by omega)
        obtain ⟨q0, q1, q2⟩ := stp_get hp
        have hc0 := hcl _ _ q0
        have hc1 := hcl _ _ q1
        have hc2 := hcl _ _ q2
        rw [← Nat.add_assoc] at hc1 hc2
        have hlt' : (k : Int) < (l.length : Int) := by omega
        have KF := hid (fun (W : World) (hb : Below wr.heap.size wr W) => zzFits12L_calls p W (((HR.out.below hbw).2 p hm).below hb))
        have HA := hid (show (fitSt p && (l.drop (k + 1)).all fitSt) = fits11L l by
          rw [← hacc.out, List.drop_eq_getElem_cons hlt, (List.getElem?_eq_some_iff.1 hp).2]
          rfl)
        obtain ⟨A2, c2, hvv, _, _⟩ := RdF.form (HR.out.2 p hm)
        generalize fitSt p = fp at KF HA
        obtain ⟨kd, tx, ts, vv⟩ := p
        dsimp only at hc0 hc1 hc2 hvv KF
        subst hvv
        clear hacc hcl hp q0 q1 q2 hm
        have HBA := hid ((Below.refl wr.heap.size wr).alloc (Nat.le_refl _) (.cells #[.int .i64 kd, .string ⟨tx.toArray⟩, .slice A2 ts.length c2] 35))
        have HBW := hid (hbw.trans (HBA.out.mono hbw.size))
        cases fp with
        | true =>
          go_wp2_with (go_at_call 14; (with_reducible refine (KF.out _ HBA.out).mono ?_); rintro e w2 ⟨rfl, hb2⟩)
          go_roundw
          case rel => exact ⟨k + 1, by omega, by go_num, HBW.out.trans (hb2.mono HBW.out.size), hid HA.out⟩
          case measure => simp [intOf]; omega
        | false =>
          go_wp2_with (go_at_call 14; (with_reducible refine (KF.out _ HBA.out).mono ?_); rintro e w2 ⟨rfl, hb2⟩)
          go_ret
          exact ⟨ret_bool (by rw [← HA.out]; rfl), HBW.out.trans (hb2.mono HBW.out.size)⟩
      · have hlt' : ¬ (k : Int) < (l.length : Int) := by omega
        have HA := hid (show fits11L l = true by rw [← hacc.out, List.drop_of_length_le (by omega)]; rfl)
        clear hacc
        go_wp2_with fail
        go_ret
        exact ⟨ret_bool HA.out.symm, hbw⟩
  · have hl' : (2147483647 : Int) < (l.length : Int) := by omega
    have HF := hid (show fits11L l = false by unfold fits11L; rw [decide_eq_false hl]; rfl)
    go_enter Tryd.func4, Tryd.ntmps4
    go_wp2_with fail
    go_ret
    exact ⟨ret_bool HF.out.symm, Below.refl _ w⟩
end Go.Proofs.YthjpchabeemfmaaDoor
