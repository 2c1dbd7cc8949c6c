import Derived.Test.YtmljkiohekogbaaDoorXd
namespace Go.Proofs.YtmljkiohekogbaaDoor
open Go.RowKit
set_option linter.unusedVariables false
set_option linter.unusedSimpArgs false
set_option maxHeartbeats 8000000
set_option maxRecDepth 100000
attribute [local go_sem] S_extract S_append run_cut_S run_head_S run_tail_S Nat.add_sub_cancel_left

/-- steps that lie in a block -/
theorem rd_block (l : List Stq) (hl : l.length ≤ 1000) (W : World) (cap t : Nat) (hc : l.length ≤ cap) : RdF (W.alloc (.cells (stqCells l).toArray t)) (.slice (some ⟨W.heap.size, 0, none⟩) l.length cap) 3 l.length (stqCells l) := by
  refine ⟨by omega, stqCells_len l, some ⟨W.heap.size, 0, none⟩, cap, rfl, hc, trivial, fun _ => ⟨W.heap.size, 0, rfl, fun j u hj => ?_⟩⟩
  rw [Nat.zero_add]
  refine (blk_cell (alloc_heap_new W _) j).trans ?_
  rw [← Array.getElem?_toList]
  exact hj
theorem alike_self (a : List Int) : alike a a = true := by
  have h : allIn a a = true := by
    unfold allIn
    rw [List.all_eq_true]
    intro x hx
    exact (among_iff a x).2 hx
  unfold alike
  rw [h]; rfl
theorem alike_of {a b : List Int} (h : ∀ x, x ∈ a ↔ x ∈ b) : alike a b = true := by
  unfold alike allIn
  rw [Bool.and_eq_true, List.all_eq_true, List.all_eq_true]
  exact ⟨fun x hx => (among_iff b x).2 ((h x).1 hx), fun x hx => (among_iff a x).2 ((h x).2 hx)⟩
def splitState (s t : List UInt8) : PSt := p0.parse atoiF Lib.trimSpaceD (runesL (s ++ t))
theorem st_pS (p : PSt) (s : List UInt8) : stq p (pS s) = p.parse atoiF Lib.trimSpaceD (runesL s) := by
  unfold stq
  rw [if_neg (show ¬ (pS s).kind = 0 by simp [pS]), if_pos (show (pS s).kind = 1 from rfl)]
  rfl
theorem run_two (s t : List UInt8) {L : List EV} (h : L.map (fun x => (x.st, x.told)) = runQ [pS s, pS t] p0) : ∃ x y, L = [x, y] ∧ x.st = p0.parse atoiF Lib.trimSpaceD (runesL s) ∧ y.st = (p0.parse atoiF Lib.trimSpaceD (runesL s)).parse atoiF Lib.trimSpaceD (runesL t) := by
  match L with
  | [] => simp [runQ] at h
  | [x] => simp [runQ] at h
  | [x, y] =>
    simp only [List.map_cons, List.map_nil, runQ, st_pS, List.cons.injEq, Prod.mk.injEq] at h
    exact ⟨x, y, rfl, h.1.1, h.2.1.1⟩
  | _ :: _ :: _ :: _ => simp [runQ] at h
theorem run_one (s : List UInt8) {L : List EV} (h : L.map (fun x => (x.st, x.told)) = runQ [pS s] p0) : ∃ x, L = [x] ∧ x.st = p0.parse atoiF Lib.trimSpaceD (runesL s) := by
  match L with
  | [] => simp [runQ] at h
  | [x] =>
    simp only [List.map_cons, List.map_nil, runQ, st_pS, List.cons.injEq, Prod.mk.injEq] at h
    exact ⟨x, rfl, h.1.1⟩
  | _ :: _ :: _ => simp [runQ] at h
theorem inL_len : ∀ (l : List Int) (q : Bool × Bool), (inL l q).length = l.length
  | [], _ => rfl
  | r :: t, q => by simp [inL, inL_len t]
theorem last_get {α : Type} (T : List α) (n : Nat) {d : α} (h : T.length = n + 1) : T[n]? = some (T.getLastD d) := by
  have hne : T ≠ [] := by intro e; rw [e] at h; simp at h
  rw [List.getLastD_eq_getLast?, List.getLast?_eq_getElem?, h, Nat.add_sub_cancel]
  cases hx : T[n]? with
  | none => rw [List.getElem?_eq_none_iff] at hx; omega
  | some x => rfl
theorem two_calls (s t : List UInt8) (W : World) (hT : Tabs W.heap.size W) (h1 : SqOk 400 (pS s)) (h2 : SqOk 400 (pS t)) :
    Calls Tryd.prog 21 #[.slice (some ⟨W.heap.size, 0, none⟩) 2 2] (W.alloc (.cells #[.int .i64 1, .int .i32 0, .string ⟨s.toArray⟩, .int .i64 1, .int .i32 0, .string ⟨t.toArray⟩] 45)) fun e w' => ∃ u x y, e = .returned u ∧ x.st = p0.parse atoiF Lib.trimSpaceD (runesL s) ∧ y.st = (p0.parse atoiF Lib.trimSpaceD (runesL s)).parse atoiF Lib.trimSpaceD (runesL t) ∧ RdEv w' u [x, y] ∧ Below W.heap.size W w' := by
  have hA : Below W.heap.size W (W.alloc (.cells #[.int .i64 1, .int .i32 0, .string ⟨s.toArray⟩, .int .i64 1, .int .i32 0, .string ⟨t.toArray⟩] 45)) := (Below.refl _ W).alloc (Nat.le_refl _) _
  refine (TextParse_calls 400 (by omega) [pS s, pS t] (.slice (some ⟨W.heap.size, 0, none⟩) 2 2) _ (rd_block [pS s, pS t] (by simp) W 2 45 (Nat.le_refl _)) (by
    intro x hx
    simp only [List.mem_cons, List.not_mem_nil, or_false] at hx
    rcases hx with rfl | rfl
    · exact h1
    · exact h2) (by simp) ((hT.below hA).mono hA.size)).mono ?_
  rintro e w' ⟨u, L, rfl, hL, hrd, hb⟩
  obtain ⟨x, y, rfl, hx, hy⟩ := run_two s t hL
  exact ⟨u, x, y, rfl, hx, hy, hrd, hA.trans (hb.mono hA.size)⟩
theorem one_calls (s : List UInt8) (W : World) (hT : Tabs W.heap.size W) (h1 : SqOk 800 (pS s)) :
    Calls Tryd.prog 21 #[.slice (some ⟨W.heap.size, 0, none⟩) 1 1] (W.alloc (.cells #[.int .i64 1, .int .i32 0, .string ⟨s.toArray⟩] 45)) fun e w' => ∃ u x, e = .returned u ∧ x.st = p0.parse atoiF Lib.trimSpaceD (runesL s) ∧ RdEv w' u [x] ∧ Below W.heap.size W w' := by
  have hA : Below W.heap.size W (W.alloc (.cells #[.int .i64 1, .int .i32 0, .string ⟨s.toArray⟩] 45)) := (Below.refl _ W).alloc (Nat.le_refl _) _
  refine (TextParse_calls 800 (by omega) [pS s] (.slice (some ⟨W.heap.size, 0, none⟩) 1 1) _ (rd_block [pS s] (by simp) W 1 45 (Nat.le_refl _)) (by
    intro x hx
    simp only [List.mem_cons, List.not_mem_nil, or_false] at hx
    rcases hx with rfl
    exact h1) (by simp) ((hT.below hA).mono hA.size)).mono ?_
  rintro e w' ⟨u, L, rfl, hL, hrd, hb⟩
  obtain ⟨x, rfl, hx⟩ := run_one s hL
  exact ⟨u, x, rfl, hx, hrd, hA.trans (hb.mono hA.size)⟩
theorem Split_calls (s t : List UInt8) (w : World) (ht : TabsRaw w) :
    Calls Tryd.prog 6 #[.string ⟨s.toArray⟩, .string ⟨t.toArray⟩] w fun e w' => e = .returned (.bool true) ∧ Below w.heap.size w w' := by
  have HT := hid (Tabs.start ht)
  clear ht
  by_cases hz : s.length ≤ 2147483647 ∧ t.length ≤ 2147483647
  · obtain ⟨hzs, hzt⟩ := hz
    have hzs' : ¬ (2147483647 : Int) < (s.length : Int) := by omega
    have hzt' : ¬ (2147483647 : Int) < (t.length : Int) := by omega
    have hov : ¬ 9223372036854775807 < s.length + t.length := by omega
    have KV := hid (PtValid_calls s w)
    cases hv : ptValidB s
    · rw [hv] at KV
      go_enter Tryd.func6, Tryd.ntmps6
      go_wp2_with (go_at_call 17; (with_reducible refine KV.out.mono ?_); rintro e w1 ⟨rfl, hb1⟩)
      go_ret
      exact ⟨rfl, hb1⟩
    · rw [hv] at KV
      have KU := hid (fun (w' : World) => PtValid_calls t w')
      cases hu : ptValidB t
      · rw [hu] at KU
        go_enter Tryd.func6, Tryd.ntmps6
        go_wp2_with (first
          | (go_at_call_of 17 (⟨s.toArray⟩ : ByteArray); (with_reducible refine KV.out.mono ?_); rintro e w1 ⟨rfl, hb1⟩)
          | (go_at_call 17; (with_reducible refine (KU.out _).mono ?_); rintro e w2 ⟨rfl, hb2⟩))
        go_ret
        exact ⟨rfl, hb1.trans (hb2.mono hb1.size)⟩
      · rw [hu] at KU
        have KE := hid (fun (w' : World) => PtPlainEnds_calls (s ++ t) w' (by rw [List.length_append]; omega))
        cases hp : plainEndsB (s ++ t)
        · rw [hp] at KE
          go_enter Tryd.func6, Tryd.ntmps6
          go_wp2_with (first
            | (go_at_call_of 17 (⟨s.toArray⟩ : ByteArray); (with_reducible refine KV.out.mono ?_); rintro e w1 ⟨rfl, hb1⟩)
            | (go_at_call 17; (with_reducible refine (KU.out _).mono ?_); rintro e w2 ⟨rfl, hb2⟩)
            | (go_at_call 18; (with_reducible refine (KE.out _).mono ?_); rintro e w3 ⟨rfl, rfl⟩))
          go_ret
          exact ⟨rfl, hb1.trans (hb2.mono hb1.size)⟩
        · rw [hp] at KE
          have hpl : ∀ b ∈ s, b ≠ 93 := fun b hb => plainEnds_iff.1 hp b (List.mem_append_left t hb)
          have hs4 := (ptValid_facts hv).1
          have ht4 := (ptValid_facts hu).1
          have HSP := hid (fun h => parse_split (t := t) hv hpl h)
          have HK1 := hid (pS_ok hv)
          have HK2 := hid (pS_ok hu)
          have HK3 := hid (pS_ok2 hv hu)
          have hrl := runesL_len s
          have HIL := hid (inL_len (runesL s) (false, false))
          obtain ⟨capf, hcap⟩ := Classical.axiomOfChoice (cv_to s (by omega))
          have hcv := fun W => (hcap W).2
          have HRD := hid (fun (W : World) => cv_rd (runesL s) W (capf W) (hcap W).1 (by omega))
          have HBW := hid (fun (W : World) => cv_below (runesL s) W (capf W - (runesL s).length))
          have KI := hid (fun (v : Value) (W : World) (h : RdF W v 1 (runesL s).length (i32s (runesL s))) => PtIn_calls (runesL s) v W h (by omega))
          have KP2 := hid (fun (W : World) (h : Tabs W.heap.size W) => two_calls s t W h HK1.out HK2.out)
          have KP1 := hid (fun (W : World) (h : Tabs W.heap.size W) => one_calls (s ++ t) W h HK3.out)
          clear hcap hv hu hp hpl
          obtain ⟨T, hT⟩ : ∃ T, T = inL (runesL s) (false, false) := ⟨_, rfl⟩
          rw [← hT] at KI HIL HSP
          generalize hrs : runesL s = rs at *
          have HCV := hid hcv
          clear hT
          obtain ⟨n, hn⟩ : ∃ n, rs.length = n := ⟨_, rfl⟩
          rw [hn] at HIL hrl
          simp only [Hid, hn] at hcv HRD HBW KI
          clear HCV hn hrs
          replace HRD := hid HRD
          replace HBW := hid HBW
          replace KI := hid KI
          go_enter Tryd.func6, Tryd.ntmps6
          go_upto_region 6 with (first
            | (go_at_call_of 17 (⟨s.toArray⟩ : ByteArray); (with_reducible refine KV.out.mono ?_); rintro e w1 ⟨rfl, hb1⟩)
            | (go_at_call 17; (with_reducible refine (KU.out _).mono ?_); rintro e w2 ⟨rfl, hb2⟩; replace hb2 := hb1.trans (hb2.mono hb1.size); have hrd1 := HRD.out w2; have hbw1 := hb2.trans ((HBW.out w2).mono hb2.size))
            | (go_at_call 18; (with_reducible refine (KE.out _).mono ?_); rintro e w3 ⟨rfl, rfl⟩)
            | (go_at_call 19; (with_reducible refine (KI.out _ _ hrd1).mono ?_); rintro e w3 ⟨v3, rfl, hown3, hb3⟩; have hbw3 := hbw1.trans (hb3.mono hbw1.size); obtain ⟨A3, c3, rfl, hc3, _⟩ := own_slice hown3))
          have HB3 := hid hbw3
          clear hcv HRD HBW KI KV KU KE hrd1 hbw1 hb1 hb2 hb3
          rcases Nat.eq_zero_or_pos n with hn0 | hn0
          · subst hn0
            have hT0 : T = [] := List.eq_nil_of_length_eq_zero HIL.out
            have HLD := hid (HSP.out (by rw [hT0]; rfl))
            go_wp2_with (first
              | (go_at_call 21; (with_reducible refine (KP2.out _ ((HT.out.below HB3.out).mono HB3.out.size)).mono ?_); rintro e w5 ⟨v5, x, y, rfl, hx5, hy5, hrd5, hb5⟩; have HB5 := hid (HB3.out.trans (hb5.mono HB3.out.size)); obtain ⟨A5, c5, rfl, hc5, _⟩ : ∃ A c, v5 = .slice A 2 c ∧ 2 ≤ c ∧ True := hrd5.1.form)
              | (go_at_call 21; (with_reducible refine (KP1.out _ ((HT.out.below HB5.out).mono HB5.out.size)).mono ?_); rintro e w6 ⟨v6, z, rfl, hz6, hrd6, hb6⟩; have HB6 := hid (HB5.out.trans (hb6.mono HB5.out.size)); obtain ⟨A6, c6, rfl, hc6, _⟩ : ∃ A c, v6 = .slice A 1 c ∧ 1 ≤ c ∧ True := hrd6.1.form))
            replace hrd5 := hrd5.below hb6
            have hyz : z.st = y.st := by rw [hz6, hy5, HLD.out]
            have KA := hid (TxAlike_calls y.val z.val y.st.codes z.st.codes)
            obtain ⟨g5, o5, rfl, hcl5⟩ := hrd5.1.at (by simp)
            obtain ⟨g6, o6, rfl, hcl6⟩ := hrd6.1.at (by simp)
            have hy := hrd5.2 y (by simp)
            have hz := hrd6.2 z (by simp)
            obtain ⟨_, Ay, cy, hvy, _⟩ := id hy
            obtain ⟨_, Az, cz, hvz, _⟩ := id hz
            obtain ⟨p0', p1, p2, p3, -⟩ := ev_get (l := [x, y]) (i := 1) (x := y) rfl
            obtain ⟨q0, q1, q2, q3, -⟩ := ev_get (l := [z]) (i := 0) (x := z) rfl
            have a0 := hcl5 _ _ p0'
            have a1 := hcl5 _ _ p1
            have a2 := hcl5 _ _ p2
            have a3 := hcl5 _ _ p3
            have b0 := hcl6 _ _ q0
            have b1 := hcl6 _ _ q1
            have b2 := hcl6 _ _ q2
            have b3 := hcl6 _ _ q3
            simp only [Nat.zero_mul, Nat.add_zero, Nat.zero_add] at b0 b1 b2 b3
            have a1' : _ := a1
            have a2' := a2
            have a3' := a3
            simp only [Nat.one_mul, ← Nat.add_assoc] at a0 a1 a2 a3
            rw [hyz] at b0 b1 b3
            rw [hvy] at a2 a2'
            rw [hvz, hyz] at b2
            rw [hvy, hvz, hyz] at KA
            rw [hvy] at hy
            rw [hvz, hyz] at hz
            have KQ := hid (fun (n : Nat) => show Calls Tryd.prog 22 #[.slice Ay y.st.codes.length cy, .slice Az y.st.codes.length cz] (w6.drewN n) fun e w' => e = .returned (.bool true) ∧ w' = w6.drewN n from
              (KA.out (w6.drewN n) (hy.below (below_drewM w6 n)) (hz.below (below_drewM w6 n))).mono fun e w' ⟨h1, h2⟩ => ⟨by rw [h1, alike_self], h2.symm⟩)
            have t1 : (y.st.inn == y.st.inn) = true := by simp
            have t2 : ((!y.st.codes.isEmpty) == (!y.st.codes.isEmpty)) = true := by simp
            have t3 : (seqOf itoaF y.st.codes == seqOf itoaF y.st.codes) = true := by simp
            clear hcl5 hcl6 p0' p1 p2 p3 q0 q1 q2 q3 hy hz hvy hvz hyz hx5 hy5 hz6 hrd5 hrd6 HLD KA
            go_quiet (first | (go_at_call 22; exact Calls.quiet_of_same (KQ.out _)))
            go_wp2
            go_ret
            exact ⟨rfl, HB6.out.trans ((below_drewM w6 _).mono HB6.out.size)⟩
          · obtain ⟨n1, rfl⟩ : ∃ n1, n = n1 + 1 := ⟨n - 1, by omega⟩
            obtain ⟨g3, c3', hv3, -, -, -, hcl3⟩ := own_cells hown3 (by omega)
            injection hv3 with ev1 _ ev3
            subst ev1 ev3
            have hlast := last_get T n1 (d := false) HIL.out
            have hce := hcl3 n1 (.bool (T.getLastD false)) (by unfold bools; rw [List.getElem?_map, hlast]; rfl)
            have hnn : (0 : Int) < ((n1 : Int) + 1) := by omega
            cases hb : T.getLastD false
            · rw [hb] at hce
              have HLD := hid (HSP.out hb)
              go_wp2_with (first
                | (go_at_call 21; (with_reducible refine (KP2.out _ ((HT.out.below HB3.out).mono HB3.out.size)).mono ?_); rintro e w5 ⟨v5, x, y, rfl, hx5, hy5, hrd5, hb5⟩; have HB5 := hid (HB3.out.trans (hb5.mono HB3.out.size)); obtain ⟨A5, c5, rfl, hc5, _⟩ : ∃ A c, v5 = .slice A 2 c ∧ 2 ≤ c ∧ True := hrd5.1.form)
                | (go_at_call 21; (with_reducible refine (KP1.out _ ((HT.out.below HB5.out).mono HB5.out.size)).mono ?_); rintro e w6 ⟨v6, z, rfl, hz6, hrd6, hb6⟩; have HB6 := hid (HB5.out.trans (hb6.mono HB5.out.size)); obtain ⟨A6, c6, rfl, hc6, _⟩ : ∃ A c, v6 = .slice A 1 c ∧ 1 ≤ c ∧ True := hrd6.1.form))
              replace hrd5 := hrd5.below hb6
              have hyz : z.st = y.st := by rw [hz6, hy5, HLD.out]
              have KA := hid (TxAlike_calls y.val z.val y.st.codes z.st.codes)
              obtain ⟨g5, o5, rfl, hcl5⟩ := hrd5.1.at (by simp)
              obtain ⟨g6, o6, rfl, hcl6⟩ := hrd6.1.at (by simp)
              have hy := hrd5.2 y (by simp)
              have hz := hrd6.2 z (by simp)
              obtain ⟨_, Ay, cy, hvy, _⟩ := id hy
              obtain ⟨_, Az, cz, hvz, _⟩ := id hz
              obtain ⟨p0', p1, p2, p3, -⟩ := ev_get (l := [x, y]) (i := 1) (x := y) rfl
              obtain ⟨q0, q1, q2, q3, -⟩ := ev_get (l := [z]) (i := 0) (x := z) rfl
              have a0 := hcl5 _ _ p0'
              have a1 := hcl5 _ _ p1
              have a2 := hcl5 _ _ p2
              have a3 := hcl5 _ _ p3
              have b0 := hcl6 _ _ q0
              have b1 := hcl6 _ _ q1
              have b2 := hcl6 _ _ q2
              have b3 := hcl6 _ _ q3
              simp only [Nat.zero_mul, Nat.add_zero, Nat.zero_add] at b0 b1 b2 b3
              have a1' : _ := a1
              have a2' := a2
              have a3' := a3
              simp only [Nat.one_mul, ← Nat.add_assoc] at a0 a1 a2 a3
              rw [hyz] at b0 b1 b3
              rw [hvy] at a2 a2'
              rw [hvz, hyz] at b2
              rw [hvy, hvz, hyz] at KA
              rw [hvy] at hy
              rw [hvz, hyz] at hz
              have KQ := hid (fun (n : Nat) => show Calls Tryd.prog 22 #[.slice Ay y.st.codes.length cy, .slice Az y.st.codes.length cz] (w6.drewN n) fun e w' => e = .returned (.bool true) ∧ w' = w6.drewN n from
                (KA.out (w6.drewN n) (hy.below (below_drewM w6 n)) (hz.below (below_drewM w6 n))).mono fun e w' ⟨h1, h2⟩ => ⟨by rw [h1, alike_self], h2.symm⟩)
              have t1 : (y.st.inn == y.st.inn) = true := by simp
              have t2 : ((!y.st.codes.isEmpty) == (!y.st.codes.isEmpty)) = true := by simp
              have t3 : (seqOf itoaF y.st.codes == seqOf itoaF y.st.codes) = true := by simp
              clear hcl5 hcl6 p0' p1 p2 p3 q0 q1 q2 q3 hy hz hvy hvz hyz hx5 hy5 hz6 hrd5 hrd6 HLD KA
              go_quiet (first | (go_at_call 22; exact Calls.quiet_of_same (KQ.out _)))
              go_wp2
              go_ret
              exact ⟨rfl, HB6.out.trans ((below_drewM w6 _).mono HB6.out.size)⟩
            · rw [hb] at hce
              go_wp2
              go_ret
              exact ⟨rfl, HB3.out⟩
  · by_cases hzs : s.length ≤ 2147483647
    · have hzs' : ¬ (2147483647 : Int) < (s.length : Int) := by omega
      have hzt' : (2147483647 : Int) < (t.length : Int) := by omega
      go_enter Tryd.func6, Tryd.ntmps6
      go_wp2
      go_ret
      exact ⟨rfl, Below.refl _ w⟩
    · have hzs' : (2147483647 : Int) < (s.length : Int) := by omega
      go_enter Tryd.func6, Tryd.ntmps6
      go_wp2
      go_ret
      exact ⟨rfl, Below.refl _ w⟩
end Go.Proofs.YtmljkiohekogbaaDoor
