import Derived.Test.YtmljkiohekogbaaDoorMz
namespace Go.Proofs.YtmljkiohekogbaaDoor
open Go.RowKit
set_option linter.unusedVariables false
set_option linter.unusedSimpArgs false
set_option maxHeartbeats 8000000
set_option maxRecDepth 100000
attribute [local go_sem] S_extract S_append run_cut_S run_head_S run_tail_S Nat.add_sub_cancel_left

def fits13B (ls : List (List UInt8)) : Bool := decide (ls.length ≤ 2147483647) && ls.all fun s => decide (s.length ≤ 2147483647)
theorem strs_get {ls : List (List UInt8)} {k : Nat} {s : List UInt8} (h : ls[k]? = some s) : (strs ls)[k]? = some (.string ⟨s.toArray⟩) := by unfold strs; rw [List.getElem?_map, h]; rfl
theorem zzFits13_calls (ls : List (List UInt8)) (v : Value) (w : World) (h : RdS w v ls) :
    Calls Tryd.prog 23 #[v] w fun e w' => e = .returned (.bool (fits13B ls)) ∧ Below w.heap.size w w' := by
  have HR := hid h
  have hn := h.1
  obtain ⟨A, c, rfl, hc, _⟩ := RdF.form h
  clear h
  by_cases hl : ls.length ≤ 2147483647
  · have hl' : ¬ (2147483647 : Int) < (ls.length : Int) := by omega
    have HF := hid (show fits13B ls = ls.all fun s => decide (s.length ≤ 2147483647) by unfold fits13B; rw [decide_eq_true hl]; rfl)
    go_enter Tryd.func23, Tryd.ntmps23
    go_wp2
    go_loopw [10] (fun u wr => ∃ k : Nat, k ≤ ls.length ∧ u = .int .i64 k ∧ Below w.heap.size w wr ∧ Hid ((ls.drop k).all (fun s => decide (s.length ≤ 2147483647)) = fits13B ls)) (fun u _ => ls.length - (intOf u).toNat)
    case atStart => exact ⟨0, by omega, rfl, Below.refl _ _, hid HF.out.symm⟩
    case round =>
      obtain ⟨k, hk, rfl, hbw, hacc⟩ := hrel
      by_cases hlt : k < ls.length
      · obtain ⟨s, hs⟩ : ∃ s, ls[k]? = some s := ⟨_, List.getElem?_eq_getElem hlt⟩
        obtain ⟨g, o, rfl, hcl⟩ := (RdF.below HR.out hbw).at (by omega)
        have hcell := hcl k _ (strs_get hs)
        have hlt' : (k : Int) < (ls.length : Int) := by omega
        have HA := hid (show (decide (s.length ≤ 2147483647) && (ls.drop (k + 1)).all fun s => decide (s.length ≤ 2147483647)) = fits13B ls by
          rw [← hacc.out, List.drop_eq_getElem_cons hlt, (List.getElem?_eq_some_iff.1 hs).2]
          rfl)
        clear hacc hcl hs
        by_cases h1 : s.length ≤ 2147483647
        · have h1' : ¬ (2147483647 : Int) < (s.length : Int) := by omega
          rw [decide_eq_true h1] at HA
          go_wp2
          go_roundw
          case rel => exact ⟨k + 1, by omega, by go_num, hbw, hid HA.out⟩
          case measure => simp [intOf]; omega
        · have h1' : (2147483647 : Int) < (s.length : Int) := by omega
          rw [decide_eq_false h1] at HA
          go_wp2
          go_ret
          exact ⟨ret_bool (by rw [← HA.out]; rfl), hbw⟩
      · have hlt' : ¬ (k : Int) < (ls.length : Int) := by omega
        have HA := hid (show fits13B ls = true by rw [← hacc.out, List.drop_of_length_le (by omega)]; rfl)
        clear hacc
        go_wp2
        go_ret
        exact ⟨ret_bool HA.out.symm, hbw⟩
  · have hl' : (2147483647 : Int) < (ls.length : Int) := by omega
    have HF := hid (show fits13B ls = false by unfold fits13B; rw [decide_eq_false hl]; rfl)
    go_enter Tryd.func23, Tryd.ntmps23
    go_wp2
    go_ret
    exact ⟨ret_bool HF.out.symm, Below.refl _ w⟩
theorem told_eq : ∀ (ls : List (List UInt8)) (p : PSt), ∀ q ∈ runQ (ls.map pS) p, q.2 = seqOf itoaF q.1.codes
  | [], _, q, hq => by cases hq
  | s :: t, p, q, hq => by
    rcases List.mem_cons.1 hq with rfl | hq
    · show toldQ (stq p (pS s)) (pS s) = _
      exact if_pos (show (pS s).kind = 1 from rfl)
    · exact told_eq t _ q hq
theorem ev_len {L : List EV} {l : List Stq} {p : PSt} (h : L.map (fun x => (x.st, x.told)) = runQ l p) : L.length = l.length := by
  have := congrArg List.length h
  rw [List.length_map, runQ_len] at this
  exact this
theorem Told_calls (ls : List (List UInt8)) (v : Value) (w : World) (h : RdS w v ls) (ht : TabsRaw w) :
    Calls Tryd.prog 7 #[v] w fun e w' => e = .returned (.bool true) ∧ Below w.heap.size w w' := by
  have HR := hid h
  have hn := h.1
  have KF := hid (zzFits13_calls ls v w h)
  have HT := hid (Tabs.start ht)
  obtain ⟨A, c, rfl, hc, _⟩ := RdF.form h
  clear h ht
  cases hf : fits13B ls
  · rw [hf] at KF
    go_enter Tryd.func7, Tryd.ntmps7
    go_wp2_with (go_at_call 23; (with_reducible refine KF.out.mono ?_); rintro e w1 ⟨rfl, hb1⟩)
    go_ret
    exact ⟨rfl, hb1⟩
  · rw [hf] at KF
    have hl : ls.length ≤ 2147483647 := by
      unfold fits13B at hf
      rw [Bool.and_eq_true] at hf
      exact of_decide_eq_true hf.1
    clear hf
    go_enter Tryd.func7, Tryd.ntmps7
    go_wp2_with (go_at_call 23; (with_reducible refine KF.out.mono ?_); rintro e w1 ⟨rfl, hb1⟩)
    go_loopw [3, 14] (fun vo u wr => ∃ k : Nat, k ≤ ls.length ∧ u = .int .i64 k ∧ Below w.heap.size w wr ∧ wr.ownsRow w.heap.size 45 3 vo k (stqCells ((ls.take k).map pS)) ∧ Hid (∀ s ∈ ls.take k, ptValidB s = true)) (fun _ u _ => ls.length - (intOf u).toNat)
    case atStart => exact ⟨0, by omega, rfl, hb1, own_nil _ _ _ _, hid (by simp)⟩
    case round =>
      obtain ⟨k, hk, rfl, hbw, hown, hval⟩ := hrel
      by_cases hlt : k < ls.length
      · obtain ⟨s, hs⟩ : ∃ s, ls[k]? = some s := ⟨_, List.getElem?_eq_getElem hlt⟩
        obtain ⟨g, o, rfl, hcl⟩ := (RdF.below HR.out hbw).at (by omega)
        have hcell := hcl k _ (strs_get hs)
        have hlt' : (k : Int) < (ls.length : Int) := by omega
        have HTK := hid (show ls.take (k + 1) = ls.take k ++ [s] by rw [List.take_add_one, hs]; rfl)
        have KV := hid (PtValid_calls s wr)
        have HOWN := hid hown
        clear hcl hs hown
        cases hv : ptValidB s
        · rw [hv] at KV
          go_wp2_with (go_at_call 17; (with_reducible refine KV.out.mono ?_); rintro e w2 ⟨rfl, hb2⟩)
          go_ret
          exact ⟨rfl, hbw.trans (hb2.mono hbw.size)⟩
        · rw [hv] at KV
          go_wp2_with (first
            | (go_at_call 17; (with_reducible refine KV.out.mono ?_); rintro e w2 ⟨rfl, hb2⟩; have hown2 := own_below HOWN.out hb2; have hbw2 := hbw.trans (hb2.mono hbw.size); clear hb2)
            | (at_builtin; refine append_box rfl _ _ 46 45 (.agg #[.int .i64 0, .int .i32 0, .string ⟨#[]⟩]) 3 32 rfl Tryd.underlying46 infoEscStep rfl (by decide) w.heap.size u3 k (stqCells ((ls.take k).map pS)) rfl hown2 1 45 [.int .i64 1, .int .i32 0, .string ⟨s.toArray⟩] rfl rfl (by simp; exact ⟨rfl, rfl, rfl⟩) (by omega) (by decide) hbw2.size ?_; intro v3 w3 hown3 hg3))
          go_roundw
          case rel => exact ⟨k + 1, by omega, by go_num, below_grown hbw2 hbw2.size (Nat.le_refl _) hown2 hg3, by rw [HTK.out, List.map_append, stqCells_app]; exact hown3, hid (by
              intro t ht
              rw [HTK.out] at ht
              rcases List.mem_append.1 ht with ht | ht
              · exact hval.out t ht
              · simp only [List.mem_singleton] at ht; subst ht; exact hv)⟩
          case measure => simp [intOf]; omega
      · have hk2 : k = ls.length := by omega
        have hlt' : ¬ (k : Int) < (ls.length : Int) := by omega
        have HTK : ls.take k = ls := by rw [hk2, List.take_length]
        rw [HTK] at hown hval
        have hval := hval.out
        have KP := hid (TextParse_calls (ls.map pS) u3 wr (by rw [List.length_map, ← hk2]; exact RdF.of_own hown (by omega)) (by
          intro x hx
          obtain ⟨s, hs, rfl⟩ := List.mem_map.1 hx
          exact pS_ok (hval s hs)) (by rw [List.length_map]; omega) ((HT.out.below hbw).mono hbw.size))
        clear hown hval
        go_wp2_with (go_at_call 21; (with_reducible refine KP.out.mono ?_); rintro e w4 ⟨v4, L, rfl, hL, hrd, hb4⟩; have hbw4 := hbw.trans (hb4.mono hbw.size); obtain ⟨A4, c4, rfl, hc4, _⟩ := hrd.1.form)
        have hlen : L.length = ls.length := by have := ev_len hL; rw [List.length_map] at this; exact this
        have HTE := hid (show ∀ e ∈ L, e.told = seqOf itoaF e.st.codes from fun e he => told_eq ls p0 (e.st, e.told) (by rw [← hL]; exact List.mem_map.2 ⟨e, he, rfl⟩))
        have HRD := hid hrd
        clear hL hrd hb4
        go_loopw [8, 31] (fun _ u wr => ∃ k : Nat, k ≤ L.length ∧ u = .int .i64 k ∧ Below w4.heap.size w4 wr) (fun _ u _ => L.length - (intOf u).toNat)
        case atStart => exact ⟨0, by omega, rfl, Below.refl _ _⟩
        case round =>
          obtain ⟨j, hj, rfl, hbj⟩ := hrel
          by_cases hjt : j < L.length
          · obtain ⟨e, he⟩ : ∃ e, L[j]? = some e := ⟨_, List.getElem?_eq_getElem hjt⟩
            obtain ⟨g, o, rfl, hcl⟩ := (HRD.out.1.below hbj).at (by omega)
            obtain ⟨q0, q1, q2, q3, q4⟩ := ev_get he
            have hc0 := hcl _ _ q0
            have hc1 := hcl _ _ q1
            have hc2 := hcl _ _ q2
            have hc3 := hcl _ _ q3
            have hc4' := hcl _ _ q4
            rw [← Nat.add_assoc] at hc1 hc2 hc3 hc4'
            have hte := HTE.out e (List.mem_of_getElem? he)
            obtain ⟨A5, c5, hv5, _⟩ := (HRD.out.2 e (List.mem_of_getElem? he)).form
            rw [hv5] at hc2
            rw [hte] at hc4'
            have hjt' : (j : Int) < (L.length : Int) := by omega
            have hne : (seqOf itoaF e.st.codes != seqOf itoaF e.st.codes) = false := by simp
            clear hcl q0 q1 q2 q3 q4 he hte hv5
            go_wp2
            go_roundw
            case rel => exact ⟨j + 1, by omega, by go_num, hbj.alloc hbj.size _⟩
            case measure => simp [intOf]; omega
          · have hjt' : ¬ (j : Int) < (L.length : Int) := by omega
            have hE : ((L.length : Int) == (ls.length : Int)) = true := by rw [hlen]; simp
            by_cases h20 : 20 < ls.length
            · have h20' : (20 : Int) < (ls.length : Int) := by omega
              have hd20 : decide ((20 : Int) < (ls.length : Int)) = true := decide_eq_true h20'
              go_wp2
              go_ret
              exact ⟨rfl, hbw4.trans (hbj.mono hbw4.size)⟩
            · have h20' : ¬ (20 : Int) < (ls.length : Int) := by omega
              have hd20 : decide ((20 : Int) < (ls.length : Int)) = false := decide_eq_false h20'
              go_wp2
              go_ret
              exact ⟨rfl, hbw4.trans (hbj.mono hbw4.size)⟩
end Go.Proofs.YtmljkiohekogbaaDoor
