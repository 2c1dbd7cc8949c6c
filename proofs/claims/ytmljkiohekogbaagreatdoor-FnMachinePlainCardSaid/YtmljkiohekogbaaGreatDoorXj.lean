import Derived.Test.YtmljkiohekogbaaGreatDoorXi
namespace Go.Proofs.YtmljkiohekogbaaGreatDoor
open Go.RowKit
set_option linter.unusedVariables false
set_option linter.unusedSimpArgs false
set_option maxHeartbeats 8000000
set_option maxRecDepth 100000
attribute [local go_sem] S_extract S_append run_cut_S run_head_S run_tail_S Nat.add_sub_cancel_left

def rS : Stq := ⟨2, 0, []⟩
theorem rS_ok : SqOk 400 rS := ⟨by simp [rS], by simp [rS], by simp [rS, runesL_nil, encs], by simp [rS]⟩
theorem st_rS (p : PSt) : stq p rS = p.reset := by
  unfold stq
  rw [if_neg (show ¬ rS.kind = 0 by simp [rS]), if_neg (show ¬ rS.kind = 1 by simp [rS]), if_pos (show rS.kind = 2 from rfl)]
theorem rd_blockZ (l : List Stq) (hl : l.length ≤ 1000) (W : World) (cap t : Nat) (hc : l.length ≤ cap) : RdF (W.alloc (.cells (stqCells l).toArray t)) (.slice (some ⟨W.heap.size, 0, none⟩) l.length cap) 3 l.length (stqCells l) := by
  refine ⟨by omega, stqCells_len l, some ⟨W.heap.size, 0, none⟩, cap, rfl, hc, trivial, fun _ => ⟨W.heap.size, 0, rfl, fun j u hj => ?_⟩⟩
  rw [Nat.zero_add]
  refine (blk_cell (alloc_heap_new W _) j).trans ?_
  rw [← Array.getElem?_toList]
  exact hj
theorem run_twoR (s : List UInt8) {L : List EV} (h : L.map (fun x => (x.st, x.told)) = runQ [pS s, rS] p0) : ∃ x y, L = [x, y] ∧ x.st = p0.parse atoiF Lib.trimSpaceD (runesL s) ∧ y.st = (p0.parse atoiF Lib.trimSpaceD (runesL s)).reset := by
  match L with
  | [] => simp [runQ] at h
  | [x] => simp [runQ] at h
  | [x, y] =>
    simp only [List.map_cons, List.map_nil, runQ, st_pS, st_rS, List.cons.injEq, Prod.mk.injEq] at h
    exact ⟨x, y, rfl, h.1.1, h.2.1.1⟩
  | _ :: _ :: _ :: _ => simp [runQ] at h
theorem reset_calls (s : List UInt8) (W : World) (hT : Tabs W.heap.size W) (h1 : SqOk 400 (pS s)) :
    Calls Tryz.prog 8 #[.slice (some ⟨W.heap.size, 0, none⟩) 2 2] (W.alloc (.cells #[.int .i64 1, .int .i32 0, .string ⟨s.toArray⟩, .int .i64 2, .int .i32 0, .string ⟨#[]⟩] 29)) fun e w' => ∃ u x y, e = .returned u ∧ x.st = p0.parse atoiF Lib.trimSpaceD (runesL s) ∧ y.st = (p0.parse atoiF Lib.trimSpaceD (runesL s)).reset ∧ RdEv w' u [x, y] ∧ Below W.heap.size W w' := by
  have hA : Below W.heap.size W (W.alloc (.cells #[.int .i64 1, .int .i32 0, .string ⟨s.toArray⟩, .int .i64 2, .int .i32 0, .string ⟨#[]⟩] 29)) := (Below.refl _ W).alloc (Nat.le_refl _) _
  refine (TextParse_calls 400 (by omega) [pS s, rS] (.slice (some ⟨W.heap.size, 0, none⟩) 2 2) _ (rd_blockZ [pS s, rS] (by simp) W 2 29 (Nat.le_refl _)) (by
    intro x hx
    simp only [List.mem_cons, List.not_mem_nil, or_false] at hx
    rcases hx with rfl | rfl
    · exact h1
    · exact rS_ok) (by simp) ((hT.below hA).mono hA.size)).mono ?_
  rintro e w' ⟨u, L, rfl, hL, hrd, hb⟩
  obtain ⟨x, y, rfl, hx, hy⟩ := run_twoR s hL
  exact ⟨u, x, y, rfl, hx, hy, hrd, hA.trans (hb.mono hA.size)⟩
theorem opsText_snoc (l : List (Int × Int)) (o : Int × Int) : opsText (l ++ [o]) = opsText l ++ opText o := by simp [opsText]
theorem Reset_law (os : List (Int × Int)) (A : Option Addr) (c : Nat) (b : Bool) (w : World) (h : RdF w (.slice A os.length c) 2 os.length (os.flatMap fun o => [.int .i64 o.1, .int .i64 o.2])) (hnz : A = none → c = 0) (ht : TabsRaw w) (hT : Tab w) :
    Calls Tryz.prog 5 #[.slice A os.length c, .bool b] w fun e w' => e = .returned (.bool true) ∧ Below w.heap.size w w' := by
  have HT := hid (Tabs.start ht)
  have HTab := hid hT
  have HR := hid (show RdO w (.slice A os.length c) os from h)
  clear h ht hT
  by_cases hz : os.length ≤ 2147483647
  · have hz' : ¬ (2147483647 : Int) < (os.length : Int) := by omega
    go_enter Tryz.func5, Tryz.ntmps5
    go_wp2
    go_loopw [5, 7, 14] (fun vs _ u wr => ∃ k : Nat, k ≤ os.length ∧ u = .int .i64 k ∧ Below w.heap.size w wr ∧ vs = .string ⟨(opsText (os.take k)).toArray⟩ ∧ Hid (∀ o ∈ os.take k, opOkB o = true)) (fun _ _ u _ => os.length - (intOf u).toNat)
    case atStart => exact ⟨0, by omega, rfl, Below.refl _ w, by simp [opsText], hid (by simp)⟩
    case round =>
      obtain ⟨k, hk, rfl, hbw, rfl, hval⟩ := hrel
      have hbs := hbw.size
      by_cases hlt : k < os.length
      · obtain ⟨x, hx⟩ : ∃ x, os[k]? = some x := ⟨_, List.getElem?_eq_getElem hlt⟩
        obtain ⟨g, o, rfl, hcl⟩ := (RdF.below HR.out hbw).at (by omega)
        obtain ⟨q0, q1⟩ := op_get hx
        have hc0 := hcl _ _ q0
        have hc1 := hcl _ _ q1
        rw [← Nat.add_assoc] at hc1
        have hlt' : (k : Int) < (os.length : Int) := by omega
        have HTK := hid (show os.take (k + 1) = os.take k ++ [x] by rw [List.take_add_one, hx]; rfl)
        have hbA := (Below.refl wr.heap.size wr).alloc (Nat.le_refl _) (.cells #[.int .i64 x.1, .int .i64 x.2] 25)
        have HBA := hid (hbw.trans (hbA.mono hbs))
        have hX0 : (wr.alloc (.cells #[.int .i64 x.1, .int .i64 x.2] 25)).cell? ⟨wr.heap.size, 0, none⟩ = some (.int .i64 x.1) := blk_cell (alloc_heap_new wr _) 0
        have hX1 : (wr.alloc (.cells #[.int .i64 x.1, .int .i64 x.2] 25)).cell? ⟨wr.heap.size, 1, none⟩ = some (.int .i64 x.2) := blk_cell (alloc_heap_new wr _) 1
        have HX0 := hid hX0
        have HX1 := hid hX1
        have KR := hid (fun (w' : World) => show Calls Tryz.prog 6 #[.agg #[.int .i64 x.1, .int .i64 x.2]] w' _ from PtRight_calls x w')
        have hol := ops_len (os := os.take k) (fun y hy => opOk (hval.out y hy))
        have hlt2 : (os.take k).length ≤ 2147483647 := Nat.le_trans (List.length_take_le k os) (by omega)
        clear hcl hx hbA q0 q1
        cases hr : opRightB x
        · rw [hr] at KR
          go_wp2_with (go_at_call 6; (with_reducible refine (KR.out _).mono ?_); rintro e w2 ⟨rfl, hb2⟩; have hbw2 := HBA.out.trans (hb2.mono HBA.out.size))
          go_ret
          exact ⟨rfl, hbw2⟩
        · rw [hr] at KR
          by_cases hk2 : x.1 ≤ 2
          · have hk2' : ¬ (2 : Int) < x.1 := by omega
            have d2 : decide ((2 : Int) < x.1) = false := decide_eq_false hk2'
            have hok : opOkB x = true := by unfold opOkB; rw [hr, decide_eq_true hk2]; rfl
            have hpl := op_len (opOk hok)
            have hov : ¬ 9223372036854775807 < (opsText (os.take k)).length + (opText x).length := by omega
            have KS := hid (fun (w' : World) (h : Tab w') => show Calls Tryz.prog 7 #[.agg #[.int .i64 x.1, .int .i64 x.2]] w' _ from PtSeq_calls x w' hok h)
            go_wp2_with (first
              | (go_at_call 6; (with_reducible refine (KR.out _).mono ?_); rintro e w2 ⟨rfl, hb2⟩; have hbw2 := HBA.out.trans (hb2.mono HBA.out.size); have hy0 := cell_keep hb2 HX0.out; have hy1 := cell_keep hb2 HX1.out)
              | (go_at_call 7; (with_reducible refine (KS.out _ (HTab.out.below hbw2)).mono ?_); rintro e w3 ⟨rfl, hb3⟩; have hbw3 := hbw2.trans (hb3.mono hbw2.size)))
            go_roundw
            case rel => exact ⟨k + 1, by omega, by go_num, hbw3, by rw [HTK.out, opsText_snoc], hid (by
                intro t ht
                rw [HTK.out] at ht
                rcases List.mem_append.1 ht with ht | ht
                · exact hval.out t ht
                · simp only [List.mem_singleton] at ht; subst ht; exact hok)⟩
            case measure => simp [intOf]; omega
          · have hk2' : (2 : Int) < x.1 := by omega
            have d2 : decide ((2 : Int) < x.1) = true := decide_eq_true hk2'
            go_wp2_with (go_at_call 6; (with_reducible refine (KR.out _).mono ?_); rintro e w2 ⟨rfl, hb2⟩; have hbw2 := HBA.out.trans (hb2.mono HBA.out.size); have hy0 := cell_keep hb2 HX0.out; have hy1 := cell_keep hb2 HX1.out)
            go_ret
            exact ⟨rfl, hbw2⟩
      · have hk2 : k = os.length := by omega
        have hlt' : ¬ (k : Int) < (os.length : Int) := by omega
        have HTK : os.take k = os := by rw [hk2, List.take_length]
        rw [HTK] at hval
        have hval := hval.out
        rw [HTK]
        have hRR : ∀ o ∈ os, OpR o := fun o ho => opOk (hval o ho)
        by_cases h40 : os.length ≤ 40
        · have h40' : ¬ (40 : Int) < (os.length : Int) := by omega
          have hol := ops_len hRR
          have hov : ¬ 9223372036854775807 < (opsText os).length + 3 := by omega
          obtain ⟨S, hS⟩ : ∃ S, S = (if b then opsText os ++ [27, 91, 51] else opsText os) := ⟨_, rfl⟩
          have hok : SqOk 400 (pS S) := by
            rw [hS]
            cases b
            · exact ops_ok hRR h40
            · exact open_ok hRR h40
          have hst : (p0.parse atoiF Lib.trimSpaceD (runesL S)).inn = b ∧ (p0.parse atoiF Lib.trimSpaceD (runesL S)).codes = codesTo os [] := by
            rw [hS]
            cases b
            · rw [if_neg (by simp), parse_ops os Out.zero hRR]; exact ⟨rfl, rfl⟩
            · rw [if_pos rfl, parse_open os Out.zero hRR]; exact ⟨rfl, rfl⟩
          have KP := hid (fun (W : World) (h : Tabs W.heap.size W) => reset_calls S W h hok)
          have HB := hid hbw
          have hal := ops_alike hRR
          have KA := hid (fun (w' : World) (hb : Below w.heap.size w w') => PtAfter_calls os (.slice A os.length c) w' (RdO.below HR.out hb) hval (by omega))
          clear hok hRR hval
          cases b
          · rw [if_neg (by simp)] at hS
            subst hS
            go_upto_region 16 with (go_at_call 8; (with_reducible refine (KP.out _ ((HT.out.below HB.out).mono HB.out.size)).mono ?_); rintro e w5 ⟨v5, x, y, rfl, hx5, hy5, hrd5, hb5⟩; have HB5 := hid (HB.out.trans (hb5.mono HB.out.size)); obtain ⟨A5, c5, rfl, hc5, _⟩ : ∃ A c, v5 = .slice A 2 c ∧ 2 ≤ c ∧ True := hrd5.1.form)
            have hxi : x.st.inn = false := by rw [hx5]; exact hst.1
            have hxc : x.st.codes = codesTo os [] := by rw [hx5]; exact hst.2
            have hyi : y.st.inn = false := by rw [hy5]; rfl
            have hyc : y.st.codes = codesTo os [] := by rw [hy5]; exact hst.2
            obtain ⟨C, hC⟩ : ∃ C, C = codesTo os [] := ⟨_, rfl⟩
            rw [← hC] at hxc hyc hal
            generalize os.foldl afterOp [] = F at *
            obtain ⟨g5, o5, rfl, hcl5⟩ := hrd5.1.at (by simp)
            have hxr := hrd5.2 x (by simp)
            have hyr := hrd5.2 y (by simp)
            obtain ⟨_, Ax, cx, hvx, _⟩ := id hxr
            obtain ⟨_, Ay, cy, hvy, _⟩ := id hyr
            obtain ⟨p0', p1, p2, p3, -⟩ := ev_get (l := [x, y]) (i := 0) (x := x) rfl
            obtain ⟨q0, q1, q2, q3, -⟩ := ev_get (l := [x, y]) (i := 1) (x := y) rfl
            have a0 := hcl5 _ _ p0'
            have a2 := hcl5 _ _ p2
            have b0 := hcl5 _ _ q0
            have b2 := hcl5 _ _ q2
            simp only [Nat.zero_mul, Nat.add_zero, Nat.zero_add, Nat.one_mul, ← Nat.add_assoc] at a0 a2 b0 b2
            rw [hxi] at a0
            rw [hyi] at b0
            rw [hvx, hxc] at a2
            rw [hvy, hyc] at b2
            rw [hvx, hxc] at hxr
            rw [hvy, hyc] at hyr
            have KX := hid (fun (w' : World) (hb : Below w5.heap.size w5 w') => (TxAlike_calls (.slice Ax C.length cx) (.slice Ay C.length cy) C C w' (hxr.below hb) (hyr.below hb)).mono (fun e w2 (h : e = .returned (.bool (alike C C)) ∧ w' = w2) => (show e = .returned (.bool true) ∧ w' = w2 from ⟨by rw [h.1, alike_ofZ (fun _ => Iff.rfl)], h.2⟩)))
            have KY := hid (fun (v : Value) (w' : World) (hb : Below w5.heap.size w5 w') (hr : RdI w' v F) => (TxAlike_calls (.slice Ay C.length cy) v C F w' (hyr.below hb) hr).mono (fun e w2 (h : e = .returned (.bool (alike C F)) ∧ w' = w2) => (show e = .returned (.bool true) ∧ w' = w2 from ⟨by rw [h.1, hal], h.2⟩)))
            have GRS := hid (fun (w' : World) (hb : Below w5.heap.size w5 w') => (show (w'.cell? ⟨g5, o5, none⟩ = some (.bool false) ∧ w'.cell? ⟨g5, o5 + 2, none⟩ = some (.slice Ax C.length cx) ∧ w'.cell? ⟨g5, o5 + 5, none⟩ = some (.bool false) ∧ w'.cell? ⟨g5, o5 + 5 + 2, none⟩ = some (.slice Ay C.length cy)) ∧ Below w5.heap.size w5 w' from ⟨⟨cell_keep hb a0, cell_keep hb a2, cell_keep hb b0, cell_keep hb b2⟩, hb⟩))
            clear hcl5 p0' p1 p2 p3 q0 q1 q2 q3 hxr hyr hvx hvy hxc hyc hx5 hy5 hxi hyi hrd5 KP hst hal hC a0 a2 b0 b2
            go_region_held3 (fun w' => (w'.cell? ⟨g5, o5, none⟩ = some (.bool false) ∧ w'.cell? ⟨g5, o5 + 2, none⟩ = some (.slice Ax C.length cx) ∧ w'.cell? ⟨g5, o5 + 5, none⟩ = some (.bool false) ∧ w'.cell? ⟨g5, o5 + 5 + 2, none⟩ = some (.slice Ay C.length cy)) ∧ Below w5.heap.size w5 w') (first
              | exact GRS.out _ (below_drewZ _)
              | exact GRS.out _ (by assumption))
              (first
              | (go_at_call 10; (with_reducible refine (KA.out _ (HB5.out.trans (Below.mono (And.right ‹_ ∧ Below w5.heap.size w5 _›) HB5.out.size))).mono ?_); rintro e u0 ⟨v0, rfl, hr0, hv0⟩; have hu0 := below_nextZ (And.right ‹_ ∧ Below w5.heap.size w5 _›) hv0 (Below.size (And.right ‹_ ∧ Below w5.heap.size w5 _›)))
              | (go_at_call 9; (with_reducible refine (KX.out _ (And.right ‹_ ∧ Below w5.heap.size w5 _›)).mono ?_); rintro e u1 ⟨rfl, rfl⟩)
              | (go_at_call 9; (with_reducible refine (KY.out _ _ hu0 hr0).mono ?_); rintro e u1 ⟨rfl, rfl⟩))
            all_goals go_wp2_with fail
            all_goals go_ret
            all_goals exact ⟨rfl, HB5.out.trans (hu0.mono HB5.out.size)⟩
          · rw [if_pos rfl] at hS
            subst hS
            go_upto_region 16 with (go_at_call 8; (with_reducible refine (KP.out _ ((HT.out.below HB.out).mono HB.out.size)).mono ?_); rintro e w5 ⟨v5, x, y, rfl, hx5, hy5, hrd5, hb5⟩; have HB5 := hid (HB.out.trans (hb5.mono HB.out.size)); obtain ⟨A5, c5, rfl, hc5, _⟩ : ∃ A c, v5 = .slice A 2 c ∧ 2 ≤ c ∧ True := hrd5.1.form)
            have hxi : x.st.inn = true := by rw [hx5]; exact hst.1
            have hxc : x.st.codes = codesTo os [] := by rw [hx5]; exact hst.2
            have hyi : y.st.inn = false := by rw [hy5]; rfl
            have hyc : y.st.codes = codesTo os [] := by rw [hy5]; exact hst.2
            obtain ⟨C, hC⟩ : ∃ C, C = codesTo os [] := ⟨_, rfl⟩
            rw [← hC] at hxc hyc hal
            generalize os.foldl afterOp [] = F at *
            obtain ⟨g5, o5, rfl, hcl5⟩ := hrd5.1.at (by simp)
            have hxr := hrd5.2 x (by simp)
            have hyr := hrd5.2 y (by simp)
            obtain ⟨_, Ax, cx, hvx, _⟩ := id hxr
            obtain ⟨_, Ay, cy, hvy, _⟩ := id hyr
            obtain ⟨p0', p1, p2, p3, -⟩ := ev_get (l := [x, y]) (i := 0) (x := x) rfl
            obtain ⟨q0, q1, q2, q3, -⟩ := ev_get (l := [x, y]) (i := 1) (x := y) rfl
            have a0 := hcl5 _ _ p0'
            have a2 := hcl5 _ _ p2
            have b0 := hcl5 _ _ q0
            have b2 := hcl5 _ _ q2
            simp only [Nat.zero_mul, Nat.add_zero, Nat.zero_add, Nat.one_mul, ← Nat.add_assoc] at a0 a2 b0 b2
            rw [hxi] at a0
            rw [hyi] at b0
            rw [hvx, hxc] at a2
            rw [hvy, hyc] at b2
            rw [hvx, hxc] at hxr
            rw [hvy, hyc] at hyr
            have KX := hid (fun (w' : World) (hb : Below w5.heap.size w5 w') => (TxAlike_calls (.slice Ax C.length cx) (.slice Ay C.length cy) C C w' (hxr.below hb) (hyr.below hb)).mono (fun e w2 (h : e = .returned (.bool (alike C C)) ∧ w' = w2) => (show e = .returned (.bool true) ∧ w' = w2 from ⟨by rw [h.1, alike_ofZ (fun _ => Iff.rfl)], h.2⟩)))
            have KY := hid (fun (v : Value) (w' : World) (hb : Below w5.heap.size w5 w') (hr : RdI w' v F) => (TxAlike_calls (.slice Ay C.length cy) v C F w' (hyr.below hb) hr).mono (fun e w2 (h : e = .returned (.bool (alike C F)) ∧ w' = w2) => (show e = .returned (.bool true) ∧ w' = w2 from ⟨by rw [h.1, hal], h.2⟩)))
            have GRS := hid (fun (w' : World) (hb : Below w5.heap.size w5 w') => (show (w'.cell? ⟨g5, o5, none⟩ = some (.bool true) ∧ w'.cell? ⟨g5, o5 + 2, none⟩ = some (.slice Ax C.length cx) ∧ w'.cell? ⟨g5, o5 + 5, none⟩ = some (.bool false) ∧ w'.cell? ⟨g5, o5 + 5 + 2, none⟩ = some (.slice Ay C.length cy)) ∧ Below w5.heap.size w5 w' from ⟨⟨cell_keep hb a0, cell_keep hb a2, cell_keep hb b0, cell_keep hb b2⟩, hb⟩))
            clear hcl5 p0' p1 p2 p3 q0 q1 q2 q3 hxr hyr hvx hvy hxc hyc hx5 hy5 hxi hyi hrd5 KP hst hal hC a0 a2 b0 b2
            go_region_held3 (fun w' => (w'.cell? ⟨g5, o5, none⟩ = some (.bool true) ∧ w'.cell? ⟨g5, o5 + 2, none⟩ = some (.slice Ax C.length cx) ∧ w'.cell? ⟨g5, o5 + 5, none⟩ = some (.bool false) ∧ w'.cell? ⟨g5, o5 + 5 + 2, none⟩ = some (.slice Ay C.length cy)) ∧ Below w5.heap.size w5 w') (first
              | exact GRS.out _ (below_drewZ _)
              | exact GRS.out _ (by assumption))
              (first
              | (go_at_call 10; (with_reducible refine (KA.out _ (HB5.out.trans (Below.mono (And.right ‹_ ∧ Below w5.heap.size w5 _›) HB5.out.size))).mono ?_); rintro e u0 ⟨v0, rfl, hr0, hv0⟩; have hu0 := below_nextZ (And.right ‹_ ∧ Below w5.heap.size w5 _›) hv0 (Below.size (And.right ‹_ ∧ Below w5.heap.size w5 _›)))
              | (go_at_call 9; (with_reducible refine (KX.out _ (And.right ‹_ ∧ Below w5.heap.size w5 _›)).mono ?_); rintro e u1 ⟨rfl, rfl⟩)
              | (go_at_call 9; (with_reducible refine (KY.out _ _ hu0 hr0).mono ?_); rintro e u1 ⟨rfl, rfl⟩))
            all_goals go_wp2_with fail
            all_goals go_ret
            all_goals exact ⟨rfl, HB5.out.trans (hu0.mono HB5.out.size)⟩
        · have h40' : (40 : Int) < (os.length : Int) := by omega
          go_wp2
          go_ret
          exact ⟨rfl, hbw⟩
  · have hz' : (2147483647 : Int) < (os.length : Int) := by omega
    go_enter Tryz.func5, Tryz.ntmps5
    go_wp2
    go_ret
    exact ⟨rfl, Below.refl _ w⟩
end Go.Proofs.YtmljkiohekogbaaGreatDoor
