import Derived.Test.YtmljkiohekogbaaDoorMz
namespace Go.Proofs.YtmljkiohekogbaaDoor
open Go.RowKit
set_option linter.unusedVariables false
set_option linter.unusedSimpArgs false
set_option maxHeartbeats 8000000
set_option maxRecDepth 100000
attribute [local go_sem] S_extract S_append run_cut_S run_head_S run_tail_S Nat.add_sub_cancel_left

theorem ev_lenD {L : List EV} {l : List Stq} {p : PSt} (h : L.map (fun x => (x.st, x.told)) = runQ l p) : L.length = l.length := by
  have := congrArg List.length h
  rw [List.length_map, runQ_len] at this
  exact this
theorem cv_rd (rs : List Int) (W : World) (cap : Nat) (hc : rs.length ≤ cap) (hl : rs.length ≤ 1000000) : RdF ((W.alloc (.cells ((i32s rs).toArray ++ Array.replicate (cap - rs.length) (.int .i32 0)) 21)).drew) (.slice (some ⟨W.heap.size, 0, none⟩) rs.length cap) 1 rs.length (i32s rs) := by
  refine ⟨by omega, by simp [i32s], some ⟨W.heap.size, 0, none⟩, cap, rfl, hc, trivial, fun _ => ⟨W.heap.size, 0, rfl, fun j u hj => ?_⟩⟩
  unfold i32s at hj
  rw [List.getElem?_map] at hj
  cases hr : rs[j]? with
  | none => rw [hr] at hj; cases hj
  | some r =>
    rw [hr] at hj
    injection hj with hj
    subst hj
    rw [Nat.zero_add]
    exact cv_cells rs W _ j r hr
/-- a text, consumed character by character -/
theorem ptStates_calls (l : List UInt8) (w : World) (hl : l.length ≤ 100000) (ht : Tabs w.heap.size w) :
    Calls Tryd.prog 20 #[.string ⟨l.toArray⟩] w fun e w' => ∃ u L, e = .returned u ∧ L.map (fun x => (x.st, x.told)) = runQ ((runesL l).map cS) p0 ∧ RdEv w' u L ∧ Below w.heap.size w w' := by
  have hrl := runesL_len l
  have KS := hid (PtSteps_calls l w (by omega))
  have KP := hid (fun (v : Value) (w1 : World) (h1 : w1.ownsRow w.heap.size 45 3 v (runesL l).length (stqCells ((runesL l).map cS))) (h2 : Below w.heap.size w w1) =>
    TextParse_calls 400 (by omega) ((runesL l).map cS) v w1 (by rw [List.length_map]; exact RdF.of_own h1 (by omega)) (by
      intro x hx
      obtain ⟨r, hr, rfl⟩ := List.mem_map.1 hx
      exact cS_ok (VR_runesL _ l (Nat.le_refl _) r hr)) (by rw [List.length_map]; omega) ((ht.below h2).mono h2.size))
  clear ht
  go_enter Tryd.func20, Tryd.ntmps20
  go_wp2_with (first
    | (go_at_call 34; (with_reducible refine KS.out.mono ?_); rintro e w1 ⟨v1, rfl, hown1, hb1⟩)
    | (go_at_call 21; (with_reducible refine (KP.out _ _ hown1 hb1).mono ?_); rintro e w2 ⟨v2, L, rfl, hL, hrd, hb2⟩))
  go_ret
  exact ⟨_, L, rfl, hL, hrd, hb1.trans (hb2.mono hb1.size)⟩
theorem in_eq {s : List UInt8} (h : ptValidB s = true) (hp : ∀ b ∈ s, b ≠ 93) {L : List EV} (hL : L.map (fun x => (x.st, x.told)) = runQ ((runesL s).map cS) p0) : L.map (fun x => x.st.inn) = inL (runesL s) (false, false) := by
  rw [← in_steps h hp, ← cons_steps, ← hL, List.map_map, List.map_map]
  rfl
theorem In_calls (s : List UInt8) (w : World) (ht : TabsRaw w) :
    Calls Tryd.prog 5 #[.string ⟨s.toArray⟩] w fun e w' => e = .returned (.bool true) ∧ Below w.heap.size w w' := by
  have HT := hid (Tabs.start ht)
  clear ht
  by_cases hz : s.length ≤ 2147483647
  · have hz' : ¬ (2147483647 : Int) < (s.length : Int) := by omega
    have KV := hid (PtValid_calls s w)
    cases hv : ptValidB s
    · rw [hv] at KV
      go_enter Tryd.func5, Tryd.ntmps5
      go_wp2_with (go_at_call 17; (with_reducible refine KV.out.mono ?_); rintro e w1 ⟨rfl, hb1⟩)
      go_ret
      exact ⟨rfl, hb1⟩
    · rw [hv] at KV
      have KE := hid (fun (w' : World) => PtPlainEnds_calls s w' (by omega))
      cases hp : plainEndsB s
      · rw [hp] at KE
        go_enter Tryd.func5, Tryd.ntmps5
        go_wp2_with (first
          | (go_at_call 17; (with_reducible refine KV.out.mono ?_); rintro e w1 ⟨rfl, hb1⟩)
          | (go_at_call 18; (with_reducible refine (KE.out _).mono ?_); rintro e w2 ⟨rfl, rfl⟩))
        go_ret
        exact ⟨rfl, hb1⟩
      · rw [hp] at KE
        have hs4 := (ptValid_facts hv).1
        have hrl := runesL_len s
        have HIN := hid (fun (L : List EV) hL => in_eq hv (plainEnds_iff.1 hp) (L := L) hL)
        obtain ⟨capf, hcap⟩ := Classical.axiomOfChoice (cv_to s (by omega))
        have hcv := fun W => (hcap W).2
        have HRD := hid (fun (W : World) => cv_rd (runesL s) W (capf W) (hcap W).1 (by omega))
        have HBW := hid (fun (W : World) => cv_below (runesL s) W (capf W - (runesL s).length))
        have KI := hid (fun (v : Value) (W : World) (h : RdF W v 1 (runesL s).length (i32s (runesL s))) => PtIn_calls (runesL s) v W h (by omega))
        have KS := hid (fun (W : World) (h : Tabs W.heap.size W) => ptStates_calls s W (by omega) h)
        clear hcap hv hp hs4
        go_enter Tryd.func5, Tryd.ntmps5
        go_wp2_with (first
          | (go_at_call 17; (with_reducible refine KV.out.mono ?_); rintro e w1 ⟨rfl, hb1⟩; have hrd1 := HRD.out w1; have hbw1 := hb1.trans ((HBW.out w1).mono hb1.size))
          | (go_at_call 18; (with_reducible refine (KE.out _).mono ?_); rintro e w2 ⟨rfl, rfl⟩)
          | (go_at_call 19; (with_reducible refine (KI.out _ _ hrd1).mono ?_); rintro e w3 ⟨v3, rfl, hown3, hb3⟩; have hbw3 := hbw1.trans (hb3.mono hbw1.size); obtain ⟨A3, c3, rfl, hc3, _⟩ := own_slice hown3)
          | (go_at_call 20; (with_reducible refine (KS.out _ ((HT.out.below hbw3).mono hbw3.size)).mono ?_); rintro e w4 ⟨v4, L, rfl, hL, hrd4, hb4⟩; have hbw4 := hbw3.trans (hb4.mono hbw3.size); have hown4 := own_below hown3 hb4; obtain ⟨A4, c4, rfl, hc4, _⟩ := hrd4.1.form; have hln := ev_lenD hL; rw [List.length_map] at hln; have hne : (((runesL s).length : Int) != (L.length : Int)) = false := by rw [hln]; simp))
        have HE := hid (HIN.out L hL)
        have HRW := hid (RdF.of_own hown4 (by omega))
        have HR4 := hid hrd4.1
        clear hL hrd4 hb4 hown4 hown3 hb3 hrd1 KI KS KV KE HIN HRD HBW hcv hne
        generalize runesL s = rs at *
        go_loopw [29] (fun u wr => ∃ k : Nat, k ≤ rs.length ∧ u = .int .i64 k ∧ Below w4.heap.size w4 wr) (fun u _ => rs.length - (intOf u).toNat)
        case atStart => exact ⟨0, by omega, rfl, Below.refl _ _⟩
        case round =>
          obtain ⟨k, hk, rfl, hbk⟩ := hrel
          by_cases hlt : k < rs.length
          · obtain ⟨x, hx⟩ : ∃ x, L[k]? = some x := ⟨_, List.getElem?_eq_getElem (by omega)⟩
            obtain ⟨g, o, rfl, hcl⟩ := (HR4.out.below hbk).at (by omega)
            obtain ⟨g2, o2, rfl, hcl2⟩ := (HRW.out.below hbk).at (by omega)
            obtain ⟨q0, -⟩ := ev_get hx
            have hc0 := hcl _ _ q0
            have hw0 := hcl2 k (.bool x.st.inn) (by unfold bools; rw [← HE.out, List.map_map, List.getElem?_map, hx]; rfl)
            have hlt' : (k : Int) < (rs.length : Int) := by omega
            have hltL : (k : Int) < (L.length : Int) := by omega
            have hne : (x.st.inn != x.st.inn) = false := by simp
            clear hcl hcl2 q0 hx
            go_upto_region 11 with (fail)
            go_quiet (fail)
            go_wp2
            go_roundw
            case rel => exact ⟨k + 1, by omega, by go_num, hbk.trans ((below_drewM wr nq).mono hbk.size)⟩
            case measure => simp [intOf]; omega
          · have hlt' : ¬ (k : Int) < (rs.length : Int) := by omega
            go_wp2
            go_ret
            exact ⟨rfl, hbw4.trans (hbk.mono hbw4.size)⟩
  · have hz' : (2147483647 : Int) < (s.length : Int) := by omega
    go_enter Tryd.func5, Tryd.ntmps5
    go_wp2
    go_ret
    exact ⟨rfl, Below.refl _ w⟩
end Go.Proofs.YtmljkiohekogbaaDoor
