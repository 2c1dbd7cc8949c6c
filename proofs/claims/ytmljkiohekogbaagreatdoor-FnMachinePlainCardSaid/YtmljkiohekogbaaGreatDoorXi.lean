import Derived.Test.YtmljkiohekogbaaGreatDoorMz
import Derived.Test.YtmljkiohekogbaaGreatDoorXh
import Derived.Deep.RegionHeld3
namespace Go.Proofs.YtmljkiohekogbaaGreatDoor
open Go.RowKit
set_option linter.unusedVariables false
set_option linter.unusedSimpArgs false
set_option maxHeartbeats 8000000
set_option maxRecDepth 100000
attribute [local go_sem] S_extract S_append run_cut_S run_head_S run_tail_S Nat.add_sub_cancel_left

theorem alike_ofZ {a b : List Int} (h : ∀ x, x ∈ a ↔ x ∈ b) : alike a b = true := by
  unfold alike allIn
  rw [Bool.and_eq_true, List.all_eq_true, List.all_eq_true]
  exact ⟨fun x hx => (among_iff b x).2 ((h x).1 hx), fun x hx => (among_iff a x).2 ((h x).2 hx)⟩
theorem ops_alike {os : List (Int × Int)} (h : ∀ o ∈ os, OpR o) : alike (codesTo os []) (os.foldl afterOp []) = true := alike_ofZ (after_all os [] [] h (by simp) (by simp)).2
theorem below_nextZ {B : Nat} {w w1 w2 : World} (h : Below B w w1) (k : Below w1.heap.size w1 w2) (hB : B ≤ w1.heap.size) : Below B w w2 := h.trans (k.mono hB)
theorem below_drewZ (w : World) : Below w.heap.size w w.drew := ⟨rfl, rfl, rfl, Nat.le_refl _, fun _ _ => rfl⟩
theorem st_pS (p : PSt) (s : List UInt8) : stq p (pS s) = p.parse atoiF Lib.trimSpaceD (runesL s) := by
  unfold stq
  rw [if_neg (show ¬ (pS s).kind = 0 by simp [pS]), if_pos (show (pS s).kind = 1 from rfl)]
  rfl
def opS (o : Int × Int) : Stq := pS (opText o)
theorem opS_ok {o : Int × Int} (h : OpR o) : SqOk 400 (opS o) := by
  have := ops_ok (os := [o]) (by intro x hx; simp only [List.mem_singleton] at hx; subst hx; exact h) (by simp)
  have e : opsText [o] = opText o := by simp [opsText]
  rw [e] at this
  exact this
theorem runQ_ops : ∀ (os : List (Int × Int)) (p : PSt), Out p → (∀ o ∈ os, OpR o) → ∀ (k : Nat) x, (runQ (os.map opS) p)[k]? = some x → x.1 = { p with codes := codesTo (os.take (k + 1)) p.codes }
  | [], _, _, _, k, x, h => by simp [runQ] at h
  | o :: t, p, hp, hR, k, x, h => by
    have e : stq p (opS o) = { p with codes := codesTo [o] p.codes } := by
      unfold opS
      rw [st_pS]
      have h2 := parse_ops [o] hp (by intro x hx; simp only [List.mem_singleton] at hx; subst hx; exact hR _ (by simp))
      have e2 : opsText [o] = opText o := by simp [opsText]
      rw [e2] at h2
      exact h2
    have eq : runQ ((o :: t).map opS) p = (stq p (opS o), toldQ (stq p (opS o)) (opS o)) :: runQ (t.map opS) (stq p (opS o)) := rfl
    rw [eq] at h
    cases k with
    | zero =>
      simp only [List.getElem?_cons_zero, Option.some.injEq] at h
      subst h
      exact e
    | succ k =>
      rw [List.getElem?_cons_succ, e] at h
      have := runQ_ops t _ (hp.codes _) (fun y hy => hR y (List.mem_cons_of_mem _ hy)) k x h
      rw [this]
      rfl
theorem ev_lenZ {L : List EV} {l : List Stq} {p : PSt} (h : L.map (fun x => (x.st, x.told)) = runQ l p) : L.length = l.length := by
  have := congrArg List.length h
  rw [List.length_map, runQ_len] at this
  exact this
theorem Ops_calls (os : List (Int × Int)) (A : Option Addr) (c : Nat) (w : World) (h : RdF w (.slice A os.length c) 2 os.length (os.flatMap fun o => [.int .i64 o.1, .int .i64 o.2])) (hnz : A = none → c = 0) (ht : TabsRaw w) (hT : Tab w) :
    Calls Tryz.prog 3 #[.slice A os.length c] w fun e w' => e = .returned (.bool true) ∧ Below w.heap.size w w' := by
  have HT := hid (Tabs.start ht)
  have HTab := hid hT
  have HR := hid (show RdO w (.slice A os.length c) os from h)
  clear h ht hT
  by_cases hz : os.length ≤ 2147483647
  · have hz' : ¬ (2147483647 : Int) < (os.length : Int) := by omega
    by_cases h40 : os.length ≤ 40
    · have h40' : ¬ (40 : Int) < (os.length : Int) := by omega
      go_enter Tryz.func3, Tryz.ntmps3
      go_wp2
      go_loopw [3, 5, 16] (fun vo _ u wr => ∃ k : Nat, k ≤ os.length ∧ u = .int .i64 k ∧ Below w.heap.size w wr ∧ wr.ownsRow w.heap.size 29 3 vo k (stqCells ((os.take k).map opS)) ∧ Hid (∀ o ∈ os.take k, opOkB o = true)) (fun _ _ u _ => os.length - (intOf u).toNat)
      case atStart => exact ⟨0, by omega, rfl, Below.refl _ w, own_nil _ _ _ _, hid (by simp)⟩
      case round =>
        obtain ⟨k, hk, rfl, hbw, hown, hval⟩ := hrel
        have hbs := hbw.size
        by_cases hlt : k < os.length
        · obtain ⟨x, hx⟩ : ∃ x, os[k]? = some x := ⟨_, List.getElem?_eq_getElem hlt⟩
          obtain ⟨g, o, rfl, hcl⟩ := (RdF.below HR.out hbw).at (by omega)
          obtain ⟨q0, q1⟩ := op_get hx
          have hc0 := hcl _ _ q0
          have hc1 := hcl _ _ q1
          rw [← Nat.add_assoc] at hc1
          have hlt' : (k : Int) < (os.length : Int) := by omega
          have HTK := hid (show os.take (k + 1) = os.take k ++ [x] by rw [List.take_add_one, hx]; rfl)
          have hbA := (Below.refl wr.heap.size wr).alloc (Nat.le_refl _) (.cells #[.int .i64 x.1, .int .i64 x.2] 25)
          have HBA := hid (hbw.trans (hbA.mono hbs))
          have HOWN := hid (own_below hown hbA)
          have hX0 : (wr.alloc (.cells #[.int .i64 x.1, .int .i64 x.2] 25)).cell? ⟨wr.heap.size, 0, none⟩ = some (.int .i64 x.1) := blk_cell (alloc_heap_new wr _) 0
          have hX1 : (wr.alloc (.cells #[.int .i64 x.1, .int .i64 x.2] 25)).cell? ⟨wr.heap.size, 1, none⟩ = some (.int .i64 x.2) := blk_cell (alloc_heap_new wr _) 1
          have HX0 := hid hX0
          have HX1 := hid hX1
          have KR := hid (fun (w' : World) => show Calls Tryz.prog 6 #[.agg #[.int .i64 x.1, .int .i64 x.2]] w' _ from PtRight_calls x w')
          clear hcl hx hown hbA q0 q1
          cases hr : opRightB x
          · rw [hr] at KR
            go_wp2_with (go_at_call 6; (with_reducible refine (KR.out _).mono ?_); rintro e w2 ⟨rfl, hb2⟩; have hbw2 := HBA.out.trans (hb2.mono HBA.out.size))
            go_ret
            exact ⟨rfl, hbw2⟩
          · rw [hr] at KR
            by_cases hk2 : x.1 ≤ 2
            · have hk2' : ¬ (2 : Int) < x.1 := by omega
              have d2 : decide ((2 : Int) < x.1) = false := decide_eq_false hk2'
              have hok : opOkB x = true := by unfold opOkB; rw [hr, decide_eq_true hk2]; rfl
              have KS := hid (fun (w' : World) (h : Tab w') => show Calls Tryz.prog 7 #[.agg #[.int .i64 x.1, .int .i64 x.2]] w' _ from PtSeq_calls x w' hok h)
              go_wp2_with (first
                | (go_at_call 6; (with_reducible refine (KR.out _).mono ?_); rintro e w2 ⟨rfl, hb2⟩; have hbw2 := HBA.out.trans (hb2.mono HBA.out.size); have hy0 := cell_keep hb2 HX0.out; have hy1 := cell_keep hb2 HX1.out)
                | (go_at_call 7; (with_reducible refine (KS.out _ (HTab.out.below hbw2)).mono ?_); rintro e w3 ⟨rfl, hb3⟩; have hbw3 := hbw2.trans (hb3.mono hbw2.size); have hown3 := own_below (own_below HOWN.out hb2) hb3)
                | (at_builtin; refine append_box rfl _ _ 23 29 (.agg #[.int .i64 0, .int .i32 0, .string ⟨#[]⟩]) 3 32 rfl Tryz.underlying23 infoEscStep rfl (by decide) w.heap.size u3 k (stqCells ((os.take k).map opS)) rfl hown3 1 29 [.int .i64 1, .int .i32 0, .string ⟨(opText x).toArray⟩] rfl rfl (by simp; exact ⟨rfl, rfl, rfl⟩) (by omega) (by decide) hbw3.size ?_; intro v4 w4 hown4 hg4))
              go_roundw
              case rel => exact ⟨k + 1, by omega, by go_num, below_grown hbw3 hbw3.size (Nat.le_refl _) hown3 hg4, by rw [HTK.out, List.map_append, stqCells_app]; exact hown4, hid (by
                  intro t ht
                  rw [HTK.out] at ht
                  rcases List.mem_append.1 ht with ht | ht
                  · exact hval.out t ht
                  · simp only [List.mem_singleton] at ht; subst ht; exact hok)⟩
              case measure => simp [intOf]; omega
            · have hk2' : (2 : Int) < x.1 := by omega
              have d2 : decide ((2 : Int) < x.1) = true := decide_eq_true hk2'
              go_wp2_with (go_at_call 6; (with_reducible refine (KR.out _).mono ?_); rintro e w2 ⟨rfl, hb2⟩; have hbw2 := HBA.out.trans (hb2.mono HBA.out.size); have hy0 := cell_keep hb2 HX0.out; have hy1 := cell_keep hb2 HX1.out)
              go_ret
              exact ⟨rfl, hbw2⟩
        · have hk2 : k = os.length := by omega
          have hlt' : ¬ (k : Int) < (os.length : Int) := by omega
          have HTK : os.take k = os := by rw [hk2, List.take_length]
          rw [HTK] at hown hval
          have hval := hval.out
          have hRR : ∀ o ∈ os, OpR o := fun o ho => opOk (hval o ho)
          have KP := hid (TextParse_calls 400 (by omega) (os.map opS) u3 wr (by rw [List.length_map, ← hk2]; exact RdF.of_own hown (by omega)) (by
            intro x hx
            obtain ⟨s, hs, rfl⟩ := List.mem_map.1 hx
            exact opS_ok (hRR s hs)) (by rw [List.length_map]; omega) ((HT.out.below hbw).mono hbw.size))
          clear hown
          go_wp2_with (go_at_call 8; (with_reducible refine KP.out.mono ?_); rintro e w4 ⟨v4, L, rfl, hL, hrd, hb4⟩; have hbw4 := hbw.trans (hb4.mono hbw.size); obtain ⟨A4, c4, rfl, hc4, _⟩ := hrd.1.form; have hlen := ev_lenZ hL; rw [List.length_map] at hlen; have hne : ((L.length : Int) != (os.length : Int)) = false := by rw [hlen]; simp)
          have HST := hid (fun (j : Nat) (x : EV) (hx : L[j]? = some x) => runQ_ops os p0 Out.zero hRR j (x.st, x.told) (by rw [← hL, List.getElem?_map, hx]; rfl))
          have HRD := hid hrd
          have HRR := hid hRR
          have HVAL := hid hval
          clear hL hrd hb4 hRR hval KP hne
          go_loopw [7, 44] (fun _ u wr => ∃ k : Nat, k ≤ L.length ∧ u = .int .i64 k ∧ Below w4.heap.size w4 wr) (fun _ u _ => L.length - (intOf u).toNat)
          case atStart => exact ⟨0, by omega, rfl, Below.refl _ _⟩
          case round =>
            obtain ⟨j, hj, rfl, hbj⟩ := hrel
            by_cases hjt : j < L.length
            · obtain ⟨x, hx⟩ : ∃ x, L[j]? = some x := ⟨_, List.getElem?_eq_getElem hjt⟩
              obtain ⟨g, o, rfl, hcl⟩ := (HRD.out.1.below hbj).at (by omega)
              obtain ⟨q0, q1, q2, q3, q4⟩ := ev_get hx
              have hs := HST.out j x hx
              have hc0 := hcl _ _ q0
              have hc2 := hcl _ _ q2
              rw [← Nat.add_assoc] at hc2
              have hxr := (HRD.out.2 x (List.mem_of_getElem? hx)).below hbj
              obtain ⟨_, Ax, cx, hvx, _⟩ := id hxr
              rw [hvx] at hc2 hxr
              have hs2 : x.st = { p0 with codes := codesTo (os.take (j + 1)) [] } := hs
              obtain ⟨C, hC⟩ : ∃ C, C = codesTo (os.take (j + 1)) [] := ⟨_, rfl⟩
              rw [← hC] at hs2
              rw [hs2] at hc0 hc2 hxr
              have hc0 : wr.cell? ⟨g, o + j * 5, none⟩ = some (.bool false) := hc0
              have hc2 : wr.cell? ⟨g, o + j * 5 + 2, none⟩ = some (.slice Ax C.length cx) := hc2
              have hxr : RdI wr (.slice Ax C.length cx) C := hxr
              have hjt' : (j : Int) < (L.length : Int) := by omega
              obtain ⟨g1, o1, rfl, -⟩ := RdF.at HR.out (by omega)
              have hjo : (j : Int) + 1 ≤ (c : Int) := by
                obtain ⟨_, _, A', c', hv, h2, _⟩ := HR.out
                injection hv with _ _ e3
                subst e3
                omega
              have hj1 : j + 1 ≤ os.length := by omega
              have htl : (os.take (j + 1)).length ≤ 1000 := Nat.le_trans (List.length_take_le (j + 1) os) (by omega)
              have hvt : ∀ o ∈ os.take (j + 1), opOkB o = true := fun o ho => HVAL.out o (List.mem_of_mem_take ho)
              have HBR := hid (hbw4.trans (hbj.mono hbw4.size))
              have HTKR := hid (RdO.take HR.out (j + 1) hj1)
              have KA := hid (fun (w' : World) (hb : Below wr.heap.size wr w') => PtAfter_calls (os.take (j + 1)) (.slice (some ⟨g1, o1, none⟩) (j + 1) c) w' (RdO.below HTKR.out (HBR.out.trans (hb.mono HBR.out.size))) hvt htl)
              have hal := ops_alike (os := os.take (j + 1)) (fun o ho => HRR.out o (List.mem_of_mem_take ho))
              rw [← hC] at hal
              generalize (os.take (j + 1)).foldl afterOp [] = F at *
              have KX := hid (fun (v : Value) (w' : World) (hb : Below wr.heap.size wr w') (hr : RdI w' v F) => (TxAlike_calls (.slice Ax C.length cx) v C F w' (hxr.below hb) hr).mono (fun e w2 (h : e = .returned (.bool (alike C F)) ∧ w' = w2) => (show e = .returned (.bool true) ∧ w' = w2 from ⟨by rw [h.1, hal], h.2⟩)))
              have GRS := hid (fun (w' : World) (hb : Below wr.heap.size wr w') => (show (w'.cell? ⟨g, o + j * 5, none⟩ = some (.bool false) ∧ w'.cell? ⟨g, o + j * 5 + 2, none⟩ = some (.slice Ax C.length cx)) ∧ Below wr.heap.size wr w' from ⟨⟨cell_keep hb hc0, cell_keep hb hc2⟩, hb⟩))
              have HB := hid (hbw4.trans (hbj.mono hbw4.size))
              clear hcl q0 q1 q2 q3 q4 hx hvx hs hs2 hC hal hc0 hc2 hxr htl hvt hj1
              have hj0 : (0 : Int) ≤ (j : Int) + 1 := by omega
              have hjw : IntKind.i64.wrap ((j : Int) + 1) = (j : Int) + 1 := wrap_small _ (by omega) (by omega)
              go_upto_region 19 with (fail)
              trace_state
              go_region_held3 (fun w' => (w'.cell? ⟨g, o + j * 5, none⟩ = some (.bool false) ∧ w'.cell? ⟨g, o + j * 5 + 2, none⟩ = some (.slice Ax C.length cx)) ∧ Below wr.heap.size wr w') (first
                | exact GRS.out _ (below_drewZ _)
                | exact GRS.out _ (by assumption))
                (first
                | (go_at_call 10; (with_reducible refine (KA.out _ (And.right ‹_ ∧ Below wr.heap.size wr _›)).mono ?_); rintro e u0 ⟨v0, rfl, hr0, hv0⟩; have hu0 := below_nextZ (And.right ‹_ ∧ Below wr.heap.size wr _›) hv0 (Below.size (And.right ‹_ ∧ Below wr.heap.size wr _›)))
                | (go_at_call 9; (with_reducible refine (KX.out _ _ hu0 hr0).mono ?_); rintro e u1 ⟨rfl, rfl⟩))
              all_goals clear hjw
              all_goals go_wp2_with fail
              all_goals go_roundw
              case rel => exact ⟨j + 1, by omega, by go_num, hbj.trans (hu0.mono hbj.size)⟩
              case measure => simp [intOf]; omega
            · have hjt' : ¬ (j : Int) < (L.length : Int) := by omega
              go_wp2
              go_ret
              exact ⟨rfl, hbw4.trans (hbj.mono hbw4.size)⟩
    · have h40' : (40 : Int) < (os.length : Int) := by omega
      go_enter Tryz.func3, Tryz.ntmps3
      go_wp2
      go_ret
      exact ⟨rfl, Below.refl _ w⟩
  · have hz' : (2147483647 : Int) < (os.length : Int) := by omega
    go_enter Tryz.func3, Tryz.ntmps3
    go_wp2
    go_ret
    exact ⟨rfl, Below.refl _ w⟩
end Go.Proofs.YtmljkiohekogbaaGreatDoor
