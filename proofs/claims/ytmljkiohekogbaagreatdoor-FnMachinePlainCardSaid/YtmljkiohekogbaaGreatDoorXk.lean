import Derived.Test.YtmljkiohekogbaaGreatDoorXj
import Derived.Handy
namespace Go.Proofs.YtmljkiohekogbaaGreatDoor
open Go.RowKit
set_option linter.unusedVariables false
set_option linter.unusedSimpArgs false
set_option maxHeartbeats 8000000
set_option maxRecDepth 100000
attribute [local go_sem] S_extract S_append run_cut_S run_head_S run_tail_S Nat.add_sub_cancel_left

/-- a text, consumed character by character -/
theorem ptStates_calls (l : List UInt8) (w : World) (hl : l.length ≤ 100000) (ht : Tabs w.heap.size w) :
    Calls Tryz.prog 13 #[.string ⟨l.toArray⟩] w fun e w' => ∃ u L, e = .returned u ∧ L.map (fun x => (x.st, x.told)) = runQ ((runesL l).map cS) p0 ∧ RdEv w' u L ∧ Below w.heap.size w w' := by
  have hrl := runesL_len l
  have KS := hid (PtSteps_calls l w (by omega))
  have KP := hid (fun (v : Value) (w1 : World) (h1 : w1.ownsRow w.heap.size 29 3 v (runesL l).length (stqCells ((runesL l).map cS))) (h2 : Below w.heap.size w w1) =>
    TextParse_calls 400 (by omega) ((runesL l).map cS) v w1 (by rw [List.length_map]; exact RdF.of_own h1 (by omega)) (by
      intro x hx
      obtain ⟨r, hr, rfl⟩ := List.mem_map.1 hx
      exact cS_ok (VR_runesL _ l (Nat.le_refl _) r hr)) (by rw [List.length_map]; omega) ((ht.below h2).mono h2.size))
  clear ht
  go_enter Tryz.func13, Tryz.ntmps13
  go_wp2_with (first
    | (go_at_call 26; (with_reducible refine KS.out.mono ?_); rintro e w1 ⟨v1, rfl, hown1, hb1⟩)
    | (go_at_call 8; (with_reducible refine (KP.out _ _ hown1 hb1).mono ?_); rintro e w2 ⟨v2, L, rfl, hL, hrd, hb2⟩))
  go_ret
  exact ⟨_, L, rfl, hL, hrd, hb1.trans (hb2.mono hb1.size)⟩
theorem snoc_of {α : Type} (L : List α) (h : L ≠ []) : ∃ n x, L.length = n + 1 ∧ L[n]? = some x ∧ ∀ d, L.getLastD d = x := by
  refine ⟨L.length - 1, L.getLast h, by have := List.length_pos_iff.2 h; omega, ?_, fun d => ?_⟩
  · rw [← List.getLast?_eq_getElem?, List.getLast?_eq_some_getLast h]
  · rw [List.getLastD_eq_getLast?, List.getLast?_eq_some_getLast h]; rfl
theorem set_other {w : World} {b i k : Nat} (u : Value) (h : k ≠ b) : (w.setCell ⟨b, i, none⟩ u).heap[k]? = w.heap[k]? := by
  have hne : b ≠ k := fun e => h e.symm
  simp only [World.setCell, Array.getElem?_modify, if_neg hne]
theorem RdI.other {w w' : World} {b : Nat} {v : Value} {l : List Int} (h : RdI w v l) (hno : ∀ i x, w.cell? ⟨b, i, none⟩ ≠ some (.int .i64 x)) (hk : ∀ k, k ≠ b → w'.heap[k]? = w.heap[k]?) : RdI w' v l := by
  obtain ⟨h1, A, c, hv, h2, h3, h4⟩ := h
  refine ⟨h1, A, c, hv, h2, h3, fun hne => ?_⟩
  obtain ⟨g, o, ha, hx⟩ := h4 hne
  refine ⟨g, o, ha, fun i x hi => ?_⟩
  have hc := hx i x hi
  have hg : g ≠ b := fun e => hno (o + i) x (by rw [← e]; exact hc)
  unfold World.cell? at hc ⊢
  rw [hk g hg]
  exact hc
theorem ptLast_calls (l : List UInt8) (w : World) (hl : l.length ≤ 100000) (hne : runesL l ≠ []) (ht : Tabs w.heap.size w) :
    Calls Tryz.prog 12 #[.string ⟨l.toArray⟩] w fun e w' => ∃ (x : EV) (A : Option Addr) (c : Nat), x.val = .slice A x.st.codes.length c ∧ e = .returned (.tuple #[.agg #[.bool x.st.inn, .bool (!x.st.codes.isEmpty), .slice A x.st.codes.length c, .string ⟨(seqOf itoaF x.st.codes).toArray⟩, .string ⟨x.told.toArray⟩], .bool true]) ∧ x.st = (runesL l).foldl (PSt.consume atoiF Lib.trimSpaceD) p0 ∧ RdI w' x.val x.st.codes ∧ Below w.heap.size w w' := by
  have hA := (Below.refl w.heap.size w).alloc (Nat.le_refl _) (.cells #[.bool false, .bool false, .slice none 0 0, .string ⟨#[]⟩, .string ⟨#[]⟩] 35)
  have KS := hid (ptStates_calls l _ hl ((ht.below hA).mono hA.size))
  have HA := hid hA
  have HN := hid (alloc_heap_new w (.cells #[.bool false, .bool false, .slice none 0 0, .string ⟨#[]⟩, .string ⟨#[]⟩] 35))
  clear hA ht
  go_enter Tryz.func12, Tryz.ntmps12
  go_upto_region 2 with (go_at_call 13; (with_reducible refine KS.out.mono ?_); rintro e w1 ⟨v1, L, rfl, hL, hrd, hb1⟩; obtain ⟨A1, c1, rfl, hc1, _⟩ := hrd.1.form)
  have hLl := ev_lenZ hL
  rw [List.length_map] at hLl
  have hLne : L ≠ [] := by
    intro e
    rw [e] at hLl
    exact hne (List.eq_nil_of_length_eq_zero hLl.symm)
  obtain ⟨n, x, hn, hx, hlast⟩ := snoc_of L hLne
  have hst : x.st = (runesL l).foldl (PSt.consume atoiF Lib.trimSpaceD) p0 := by
    have h1 := runQ_last (runesL l) p0
    rw [← hL, List.map_map] at h1
    have h2 := getLastD_map (fun y : EV => y.st) L ⟨p0, [], .nilIface⟩
    rw [hlast] at h2
    exact h2.symm.trans h1
  obtain ⟨g, o, rfl, hcl⟩ := hrd.1.at (by omega)
  obtain ⟨q0, q1, q2, q3, q4⟩ := ev_get hx
  have c0 := hcl _ _ q0
  have c1' := hcl _ _ q1
  have c2 := hcl _ _ q2
  have c3 := hcl _ _ q3
  have c4 := hcl _ _ q4
  rw [← Nat.add_assoc] at c1' c2 c3 c4
  have hxr := hrd.2 x (List.mem_of_getElem? hx)
  obtain ⟨_, Ax, cx, hvx, _⟩ := id hxr
  rw [hvx] at c2
  have hblk := heap_keep HN.out hb1
  have y0 := blk_cell hblk 0
  have y1 := blk_cell hblk 1
  have y2 := blk_cell hblk 2
  have y3 := blk_cell hblk 3
  have y4 := blk_cell hblk 4
  have z0 := blk_free hblk 0
  have z1 := blk_free hblk 1
  have z2 := blk_free hblk 2
  have z3 := blk_free hblk 3
  have z4 := blk_free hblk 4
  have e0 : (((n : Int) + 1) == 0) = false := by simp; omega
  have hltn : (n : Int) < (n : Int) + 1 := by omega
  have hnb : n ≤ 100000 := by
    have := runesL_len l
    omega
  have HBL := hid hblk
  have HB1 := hid (HA.out.trans (hb1.mono HA.out.size))
  have HRD := hid hxr
  have hszb : w.heap.size < w1.heap.size := (Array.getElem?_eq_some_iff.1 hblk).1
  rw [hn]
  clear hcl q0 q1 q2 q3 q4 hx hxr hrd hL hLl hlast hLne hblk KS HA HN hb1 hne
  have HST := hid hst
  clear hst
  go_wp2_with fail
  generalize hW : (((((w1.setCell ⟨w.heap.size, 0, none⟩ (.bool x.st.inn)).setCell ⟨w.heap.size, 1, none⟩ (.bool (!x.st.codes.isEmpty))).setCell ⟨w.heap.size, 2, none⟩ (.slice Ax x.st.codes.length cx)).setCell ⟨w.heap.size, 3, none⟩ (.string ⟨(seqOf itoaF x.st.codes).toArray⟩)).setCell ⟨w.heap.size, 4, none⟩ (.string ⟨x.told.toArray⟩)) = W5 at *
  have k0 := blk_set HBL.out 0 (.bool x.st.inn)
  have k1 := blk_set k0 1 (.bool (!x.st.codes.isEmpty))
  have k2 := blk_set k1 2 (.slice Ax x.st.codes.length cx)
  have k3 := blk_set k2 3 (.string ⟨(seqOf itoaF x.st.codes).toArray⟩)
  have k4 := blk_set k3 4 (.string ⟨x.told.toArray⟩)
  rw [hW] at k4
  have r0 : W5.cell? ⟨w.heap.size, 0, none⟩ = some (.bool x.st.inn) := by rw [blk_cell k4 0]; simp
  have r1 : W5.cell? ⟨w.heap.size, 1, none⟩ = some (.bool (!x.st.codes.isEmpty)) := by rw [blk_cell k4 1]; simp
  have r2 : W5.cell? ⟨w.heap.size, 2, none⟩ = some (.slice Ax x.st.codes.length cx) := by rw [blk_cell k4 2]; simp
  have r3 : W5.cell? ⟨w.heap.size, 3, none⟩ = some (.string ⟨(seqOf itoaF x.st.codes).toArray⟩) := by rw [blk_cell k4 3]; simp
  have r4 : W5.cell? ⟨w.heap.size, 4, none⟩ = some (.string ⟨x.told.toArray⟩) := by rw [blk_cell k4 4]; simp
  have hbW : Below w.heap.size w W5 := by
    rw [← hW]
    exact ((((HB1.out.setCell (Nat.le_refl _) _).setCell (Nat.le_refl _) _).setCell (Nat.le_refl _) _).setCell (Nat.le_refl _) _).setCell (Nat.le_refl _) _
  have hrdW : RdI W5 x.val x.st.codes := by
    refine HRD.out.other (b := w.heap.size) (fun i z => ?_) (fun k hk => ?_)
    · rw [blk_cell HBL.out i]
      intro e
      match i, e with
      | 0, e => cases e
      | 1, e => cases e
      | 2, e => cases e
      | 3, e => cases e
      | 4, e => cases e
      | i + 5, e => simp at e
    · rw [← hW, set_other _ hk, set_other _ hk, set_other _ hk, set_other _ hk, set_other _ hk]
  clear k0 k1 k2 k3 k4 hW
  refine bodyPost_ret (by simp [results, Tryz.results12, go_sem, r0, r1, r2, r3, r4]; try rfl) rfl ?_
  exact ⟨x, Ax, cx, hvx, rfl, HST.out, hrdW, hbW⟩
theorem Plain_law (os : List (Int × Int)) (A : Option Addr) (c : Nat) (s : List UInt8) (w : World) (h : RdF w (.slice A os.length c) 2 os.length (os.flatMap fun o => [.int .i64 o.1, .int .i64 o.2])) (hnz : A = none → c = 0) (ht : TabsRaw w) (hT : Tab w) :
    Calls Tryz.prog 4 #[.slice A os.length c, .string ⟨s.toArray⟩] w fun e w' => e = .returned (.bool true) ∧ Below w.heap.size w w' := by
  have HT := hid (Tabs.start ht)
  have HTab := hid hT
  have HR := hid (show RdO w (.slice A os.length c) os from h)
  clear h ht hT
  by_cases hz : os.length ≤ 2147483647
  · have hz' : ¬ (2147483647 : Int) < (os.length : Int) := by omega
    have dz' : decide ((2147483647 : Int) < (os.length : Int)) = false := decide_eq_false hz'
    by_cases hzs : s.length ≤ 2147483647
    · have hzs' : ¬ (2147483647 : Int) < (s.length : Int) := by omega
      have dzs' : decide ((2147483647 : Int) < (s.length : Int)) = false := decide_eq_false hzs'
      go_enter Tryz.func4, Tryz.ntmps4
      go_wp2
      go_loopw [5, 7, 22] (fun vs _ u wr => ∃ k : Nat, k ≤ os.length ∧ u = .int .i64 k ∧ Below w.heap.size w wr ∧ vs = .string ⟨(opsText (os.take k)).toArray⟩ ∧ Hid (∀ o ∈ os.take k, opOkB o = true)) (fun _ _ u _ => os.length - (intOf u).toNat)
      case atStart => exact ⟨0, by omega, rfl, Below.refl _ w, by simp [opsText], hid (by simp)⟩
      case round =>
        obtain ⟨k, hk, rfl, hbw, rfl, hval⟩ := hrel
        have hbs := hbw.size
        by_cases hlt : k < os.length
        · obtain ⟨x, hx⟩ : ∃ x, os[k]? = some x := ⟨_, List.getElem?_eq_getElem hlt⟩
          obtain ⟨g, o, rfl, hcl⟩ := (RdF.below HR.out hbw).at (by omega)
          obtain ⟨q0, q1⟩ := op_get hx
          have hc0 := hcl _ _ q0
          have hc1 := hcl _ _ q1
          rw [← Nat.add_assoc] at hc1
          have hlt' : (k : Int) < (os.length : Int) := by omega
          have HTK := hid (show os.take (k + 1) = os.take k ++ [x] by rw [List.take_add_one, hx]; rfl)
          have hbA := (Below.refl wr.heap.size wr).alloc (Nat.le_refl _) (.cells #[.int .i64 x.1, .int .i64 x.2] 25)
          have HBA := hid (hbw.trans (hbA.mono hbs))
          have hX0 : (wr.alloc (.cells #[.int .i64 x.1, .int .i64 x.2] 25)).cell? ⟨wr.heap.size, 0, none⟩ = some (.int .i64 x.1) := blk_cell (alloc_heap_new wr _) 0
          have hX1 : (wr.alloc (.cells #[.int .i64 x.1, .int .i64 x.2] 25)).cell? ⟨wr.heap.size, 1, none⟩ = some (.int .i64 x.2) := blk_cell (alloc_heap_new wr _) 1
          have HX0 := hid hX0
          have HX1 := hid hX1
          have KR := hid (fun (w' : World) => show Calls Tryz.prog 6 #[.agg #[.int .i64 x.1, .int .i64 x.2]] w' _ from PtRight_calls x w')
          have hol := ops_len (os := os.take k) (fun y hy => opOk (hval.out y hy))
          have hlt2 : (os.take k).length ≤ 2147483647 := Nat.le_trans (List.length_take_le k os) (by omega)
          clear hcl hx hbA q0 q1
          cases hr : opRightB x
          · rw [hr] at KR
            go_wp2_with (go_at_call 6; (with_reducible refine (KR.out _).mono ?_); rintro e w2 ⟨rfl, hb2⟩; have hbw2 := HBA.out.trans (hb2.mono HBA.out.size))
            go_ret
            exact ⟨rfl, hbw2⟩
          · rw [hr] at KR
            by_cases hk2 : x.1 ≤ 2
            · have hk2' : ¬ (2 : Int) < x.1 := by omega
              have d2 : decide ((2 : Int) < x.1) = false := decide_eq_false hk2'
              have hok : opOkB x = true := by unfold opOkB; rw [hr, decide_eq_true hk2]; rfl
              have hpl := op_len (opOk hok)
              have hov : ¬ 9223372036854775807 < (opsText (os.take k)).length + (opText x).length := by omega
              have KS := hid (fun (w' : World) (h : Tab w') => show Calls Tryz.prog 7 #[.agg #[.int .i64 x.1, .int .i64 x.2]] w' _ from PtSeq_calls x w' hok h)
              go_wp2_with (first
                | (go_at_call 6; (with_reducible refine (KR.out _).mono ?_); rintro e w2 ⟨rfl, hb2⟩; have hbw2 := HBA.out.trans (hb2.mono HBA.out.size); have hy0 := cell_keep hb2 HX0.out; have hy1 := cell_keep hb2 HX1.out)
                | (go_at_call 7; (with_reducible refine (KS.out _ (HTab.out.below hbw2)).mono ?_); rintro e w3 ⟨rfl, hb3⟩; have hbw3 := hbw2.trans (hb3.mono hbw2.size)))
              go_roundw
              case rel => exact ⟨k + 1, by omega, by go_num, hbw3, by rw [HTK.out, opsText_snoc], hid (by
                  intro t ht
                  rw [HTK.out] at ht
                  rcases List.mem_append.1 ht with ht | ht
                  · exact hval.out t ht
                  · simp only [List.mem_singleton] at ht; subst ht; exact hok)⟩
              case measure => simp [intOf]; omega
            · have hk2' : (2 : Int) < x.1 := by omega
              have d2 : decide ((2 : Int) < x.1) = true := decide_eq_true hk2'
              go_wp2_with (go_at_call 6; (with_reducible refine (KR.out _).mono ?_); rintro e w2 ⟨rfl, hb2⟩; have hbw2 := HBA.out.trans (hb2.mono HBA.out.size); have hy0 := cell_keep hb2 HX0.out; have hy1 := cell_keep hb2 HX1.out)
              go_ret
              exact ⟨rfl, hbw2⟩
        · have hk2 : k = os.length := by omega
          have hlt' : ¬ (k : Int) < (os.length : Int) := by omega
          have HTK : os.take k = os := by rw [hk2, List.take_length]
          rw [HTK] at hval
          have hval := hval.out
          rw [HTK]
          have hRR : ∀ o ∈ os, OpR o := fun o ho => opOk (hval o ho)
          by_cases h20 : os.length ≤ 20
          · have h20' : ¬ (20 : Int) < (os.length : Int) := by omega
            have d20 : decide ((20 : Int) < (os.length : Int)) = false := decide_eq_false h20'
            have KV := hid (PtValid_calls s wr)
            cases hv : ptValidB s
            · rw [hv] at KV
              go_wp2_with (go_at_call 11; (with_reducible refine KV.out.mono ?_); rintro e w2 ⟨rfl, hb2⟩)
              go_ret
              exact ⟨rfl, hbw.trans (hb2.mono hbw.size)⟩
            · rw [hv] at KV
              by_cases hs0 : s = []
              · subst hs0
                go_wp2_with (go_at_call 11; (with_reducible refine KV.out.mono ?_); rintro e w2 ⟨rfl, hb2⟩)
                go_ret
                exact ⟨rfl, hbw.trans (hb2.mono hbw.size)⟩
              · have es0 : (s == []) = false := by simpa using hs0
                have es1 : s.isEmpty = false := by simpa using hs0
                have hs4 := (ptValid_facts hv).1
                have hol := ops_len hRR
                go_wp2_with (go_at_call 11; (with_reducible refine KV.out.mono ?_); rintro e w2 ⟨rfl, hb2⟩)
                have hbw2 := hbw.trans (hb2.mono hbw.size)
                have hbI : Below w.heap.size w (w2.iter ⟨s.toArray⟩ 0) := hbw2.alloc hbw2.size _
                have hit0 : (w2.iter ⟨s.toArray⟩ 0).heap[w2.heap.size]? = some (.stringIter ⟨s.toArray⟩ 0) := World.iter_heap w2 ⟨s.toArray⟩ 0
                have hgB : w.heap.size ≤ w2.heap.size := hbw2.size
                generalize hBB : w2.heap.size = B at *
                generalize w2.iter ⟨s.toArray⟩ 0 = W at *
                clear hb2 hbw2 KV hBB w2
                have hrs := runes_L s
                generalize hq : (⟨s.toArray⟩ : ByteArray) = sb at *
                have HQ := hid hq
                go_loopw [9] (fun _ ws => ∃ (pos fuel : Nat), ws.heap[B]? = some (.stringIter sb pos) ∧ Below w.heap.size w ws ∧ Hid (∀ r ∈ runesL s, r ≠ 27 ∨ r ∈ runesFrom sb fuel pos) ∧ sb.size ≤ pos + fuel) (fun _ ws => sb.size - ws.iterPos B)
                case atStart => exact ⟨0, sb.size, hit0, hbI, hid (fun r hr => .inr (by rw [← hrs] at hr; exact hr)), by omega⟩
                case round =>
                  clear hit0 hbI
                  obtain ⟨pos, fuel, hit, hbs, hacc, hfu⟩ := hrel
                  by_cases hp : pos < sb.size
                  · have hnx : ∀ ty, (Instr.next (.pointer (some ⟨B, 0, none⟩)) true ty).run Tryz.prog wr = _ := fun ty => Lib.run_next_any_at wr B sb pos ty hit hp
                    have hwd := width_pos sb pos hp
                    have hd1 := decode_le sb pos
                    have hit2 := Lib.iterAt_heap wr B sb pos (pos + (Utf8.decode sb pos).2) hit
                    have hbs2 := Lib.below_iterAt hbs (k := B) hgB sb (pos + (Utf8.decode sb pos).2)
                    obtain ⟨f, rfl⟩ : ∃ f, fuel = f + 1 := ⟨fuel - 1, by omega⟩
                    have HA := hid hacc.out
                    clear hacc
                    rw [runesFrom_step sb f pos hp] at HA
                    by_cases h27 : ((Utf8.decode sb pos).1 : Int) = 27
                    · have e27 : (((Utf8.decode sb pos).1 : Int) == 27) = true := by rw [h27]; rfl
                      clear h27
                      go_wp2
                      go_ret
                      exact ⟨rfl, hbs2⟩
                    · have e27 : (((Utf8.decode sb pos).1 : Int) == 27) = false := by simpa using h27
                      have HA2 := hid (show ∀ r ∈ runesL s, r ≠ 27 ∨ r ∈ runesFrom sb f (pos + (Utf8.decode sb pos).2) from fun r hr => by
                        rcases HA.out r hr with h | h
                        · exact .inl h
                        · rcases List.mem_cons.1 h with h | h
                          · exact .inl (by rw [h]; exact h27)
                          · exact .inr h)
                      clear h27 HA
                      go_wp2
                      go_roundw
                      case rel => exact ⟨pos + (Utf8.decode sb pos).2, f, hit2, hbs2, hid HA2.out, by omega⟩
                      case measure => simp only [World.iterPos, hit2, hit]; omega
                  · have hnx : ∀ ty, (Instr.next (.pointer (some ⟨B, 0, none⟩)) true ty).run Tryz.prog wr = _ := fun ty => Lib.run_next_end_at wr B sb pos ty hit hp
                    have hno : ∀ r ∈ runesL s, r ≠ 27 := by
                      intro r hr
                      rcases hacc.out r hr with h | h
                      · exact h
                      · rw [runesFrom_end sb fuel pos hp] at h; cases h
                    clear hacc hit
                    have hfold := plain_fold os hRR s hno
                    have hrne : runesL (opsText os ++ s) ≠ [] := by
                      rw [ascii_runesL (ops_ascii hRR)]
                      intro e
                      have e2 := (List.append_eq_nil_iff.1 e).2
                      have := (ptValid_facts hv).2.1
                      rw [e2] at this
                      exact hs0 this.symm
                    have hov : ¬ 9223372036854775807 < (opsText os).length + s.length := by omega
                    have KL := hid (fun (w' : World) (hb : Below w.heap.size w w') => ptLast_calls (opsText os ++ s) w' (by rw [List.length_append]; omega) hrne ((HT.out.below hb).mono hb.size))
                    have KA := hid (fun (w' : World) (hb : Below w.heap.size w w') => PtAfter_calls os (.slice A os.length c) w' (RdO.below HR.out hb) hval (by omega))
                    have KS := hid (fun (w' : World) (hb : Below w.heap.size w w') => ptStates_calls s w' (by omega) ((HT.out.below hb).mono hb.size))
                    have hal := ops_alike hRR
                    obtain ⟨capf, hcap⟩ := Classical.axiomOfChoice (cv_to s (by omega))
                    have hcv := fun W => (hcap W).2
                    have HBC := hid (fun (W : World) => cv_below (runesL s) W (capf W - (runesL s).length))
                    have HB := hid hbs
                    have HCV := hid hcv
                    subst hq
                    have HFO := hid hfold
                    clear hfold hcap hcv hRR hval hno hrne hs0 hs4 hv hrs hbs
                    go_upto_region 19 with (go_at_call 12; (with_reducible refine (KL.out _ HB.out).mono ?_); rintro e w4 ⟨x, Ax, cx, hvx, rfl, hxs, hxr, hb4⟩; have HXS := hid hxs; have HVX := hid hvx; clear hxs hvx)
                    have hxs := HXS.out
                    have hvx := HVX.out
                    rw [HFO.out] at hxs
                    obtain ⟨C, hC⟩ : ∃ C, C = codesTo os [] := ⟨_, rfl⟩
                    rw [← hC] at hxs hal
                    generalize os.foldl afterOp [] = F at *
                    have hb5 := (Below.refl w4.heap.size w4).alloc (Nat.le_refl _) (.cells #[.bool x.st.inn, .bool (!x.st.codes.isEmpty), .slice Ax x.st.codes.length cx, .string ⟨(seqOf itoaF x.st.codes).toArray⟩, .string ⟨x.told.toArray⟩] 35)
                    have hnew := alloc_heap_new w4 (.cells #[.bool x.st.inn, .bool (!x.st.codes.isEmpty), .slice Ax x.st.codes.length cx, .string ⟨(seqOf itoaF x.st.codes).toArray⟩, .string ⟨x.told.toArray⟩] 35)
                    generalize hW5 : w4.alloc (.cells #[.bool x.st.inn, .bool (!x.st.codes.isEmpty), .slice Ax x.st.codes.length cx, .string ⟨(seqOf itoaF x.st.codes).toArray⟩, .string ⟨x.told.toArray⟩] 35) = w5 at *
                    have HB5 := hid ((HB.out.trans (hb4.mono HB.out.size)).trans (hb5.mono (Nat.le_trans HB.out.size hb4.size)))
                    have a0 : w5.cell? ⟨w4.heap.size, 0, none⟩ = some (.bool false) := (blk_cell hnew 0).trans (by rw [hxs]; rfl)
                    have a2 : w5.cell? ⟨w4.heap.size, 2, none⟩ = some (.slice Ax C.length cx) := (blk_cell hnew 2).trans (by rw [hxs]; rfl)
                    have hxr5 : RdI w5 (.slice Ax C.length cx) C := by
                      have := hxr.below hb5
                      rw [hvx, hxs] at this
                      exact this
                    have KY := hid (fun (v : Value) (w' : World) (hb : Below w5.heap.size w5 w') (hr : RdI w' v F) => (TxAlike_calls (.slice Ax C.length cx) v C F w' (hxr5.below hb) hr).mono (fun e w2 (h : e = .returned (.bool (alike C F)) ∧ w' = w2) => (show e = .returned (.bool true) ∧ w' = w2 from ⟨by rw [h.1, hal], h.2⟩)))
                    have GRS := hid (fun (w' : World) (hb : Below w5.heap.size w5 w') => (show (w'.cell? ⟨w4.heap.size, 0, none⟩ = some (.bool false) ∧ w'.cell? ⟨w4.heap.size, 2, none⟩ = some (.slice Ax C.length cx)) ∧ Below w5.heap.size w5 w' from ⟨⟨cell_keep hb a0, cell_keep hb a2⟩, hb⟩))
                    have hcv := HCV.out
                    clear hxs hxr hvx hb4 hb5 hnew hW5 a0 a2 hxr5 hal hC KL HB HCV HFO HXS HVX
                    refine wp_region_held_drew (S := fun w' => (w'.cell? ⟨w4.heap.size, 0, none⟩ = some (.bool false) ∧ w'.cell? ⟨w4.heap.size, 2, none⟩ = some (.slice Ax C.length cx)) ∧ Below w5.heap.size w5 w') (by kernel_rfl) (GRS.out _ (below_drewZ _)) (fun hHeld => ?_)
                    refine wpAnyH_take (i := 0) (oi := _) (v := ?_) rfl (by kernel_rfl) (by kernel_rfl) (by kernel_rfl) (fun _ _ _ h => h) (Or.inl ⟨by rfl, by intro w hSw; (try dsimp only at hSw); (try simp only [List.getElem_toArray, List.getElem_cons_zero, List.getElem_cons_succ]); first | (go_simp; done) | (go_simp; with_reducible rfl)⟩) (by assumption) ?_
                    simp only [Act.put, List.getElem_toArray, List.getElem_cons_zero, List.getElem_cons_succ, List.setIfInBounds_toArray, List.set_cons_zero, List.set_cons_succ]
                    refine wpAnyH_take (i := 1) (oi := _) (v := ?_) rfl (by kernel_rfl) (by kernel_rfl) (by kernel_rfl) (fun _ _ _ h => h) (Or.inl ⟨by rfl, by intro w hSw; (try dsimp only at hSw); (try simp only [List.getElem_toArray, List.getElem_cons_zero, List.getElem_cons_succ]); first | (go_simp; done) | (go_simp; with_reducible rfl)⟩) (by assumption) ?_
                    simp only [Act.put, List.getElem_toArray, List.getElem_cons_zero, List.getElem_cons_succ, List.setIfInBounds_toArray, List.set_cons_zero, List.set_cons_succ]
                    refine wpAnyH_take (i := 2) (oi := _) (v := ?_) rfl (by kernel_rfl) (by kernel_rfl) (by kernel_rfl) (fun _ _ _ h => h) (Or.inl ⟨by rfl, by intro w hSw; (try dsimp only at hSw); (try simp only [List.getElem_toArray, List.getElem_cons_zero, List.getElem_cons_succ]); first | (go_simp; done) | (go_simp; with_reducible rfl)⟩) (by assumption) ?_
                    simp only [Act.put, List.getElem_toArray, List.getElem_cons_zero, List.getElem_cons_succ, List.setIfInBounds_toArray, List.set_cons_zero, List.set_cons_succ]
                    refine wpAnyH_take (i := 3) (oi := _) (v := ?_) rfl (by kernel_rfl) (by kernel_rfl) (by kernel_rfl) (fun _ _ _ h => h) (Or.inl ⟨by rfl, by intro w hSw; (try dsimp only at hSw); (try simp only [List.getElem_toArray, List.getElem_cons_zero, List.getElem_cons_succ]); first | (go_simp; done) | (go_simp; with_reducible rfl)⟩) (by assumption) ?_
                    simp only [Act.put, List.getElem_toArray, List.getElem_cons_zero, List.getElem_cons_succ, List.setIfInBounds_toArray, List.set_cons_zero, List.set_cons_succ]
                    refine wpAnyH_take (i := 4) (oi := _) (v := ?_) rfl (by kernel_rfl) (by kernel_rfl) (by kernel_rfl) (fun _ _ _ h => h) (Or.inl ⟨by rfl, by intro w hSw; (try dsimp only at hSw); (try simp only [List.getElem_toArray, List.getElem_cons_zero, List.getElem_cons_succ]); first | (go_simp; done) | (go_simp; with_reducible rfl)⟩) (by assumption) ?_
                    simp only [Act.put, List.getElem_toArray, List.getElem_cons_zero, List.getElem_cons_succ, List.setIfInBounds_toArray, List.set_cons_zero, List.set_cons_succ]
                    refine wpAnyH_take (i := 5) (oi := _) (v := ?_) rfl (by kernel_rfl) (by kernel_rfl) (by kernel_rfl) (fun _ _ _ h => h) (Or.inl ⟨by rfl, by intro w hSw; (try dsimp only at hSw); (try simp only [List.getElem_toArray, List.getElem_cons_zero, List.getElem_cons_succ]); first | (go_simp; done) | (go_simp; with_reducible rfl)⟩) (by assumption) ?_
                    simp only [Act.put, List.getElem_toArray, List.getElem_cons_zero, List.getElem_cons_succ, List.setIfInBounds_toArray, List.set_cons_zero, List.set_cons_succ]
                    refine wpAnyH_take (i := 6) (oi := _) (v := ?_) rfl (by kernel_rfl) (by kernel_rfl) (by kernel_rfl) (fun _ _ _ h => h) (Or.inl ⟨by rfl, by intro w hSw; (try dsimp only at hSw); (try simp only [List.getElem_toArray, List.getElem_cons_zero, List.getElem_cons_succ]); first | (go_simp; done) | (go_simp; with_reducible rfl)⟩) (by assumption) ?_
                    simp only [Act.put, List.getElem_toArray, List.getElem_cons_zero, List.getElem_cons_succ, List.setIfInBounds_toArray, List.set_cons_zero, List.set_cons_succ]
                    refine wpAnyH_take (i := 7) (oi := _) (v := ?_) rfl (by kernel_rfl) (by kernel_rfl) (by kernel_rfl) (fun _ _ _ h => h) (Or.inl ⟨by rfl, by intro w hSw; (try dsimp only at hSw); (try simp only [List.getElem_toArray, List.getElem_cons_zero, List.getElem_cons_succ]); first | (go_simp; done) | (go_simp; with_reducible rfl)⟩) (by assumption) ?_
                    simp only [Act.put, List.getElem_toArray, List.getElem_cons_zero, List.getElem_cons_succ, List.setIfInBounds_toArray, List.set_cons_zero, List.set_cons_succ]
                    refine wpAnyH_take (i := 8) (oi := _) (v := ?_) rfl (by kernel_rfl) (by kernel_rfl) (by kernel_rfl) (fun _ _ _ h => h) (Or.inl ⟨by rfl, by intro w hSw; (try dsimp only at hSw); (try simp only [List.getElem_toArray, List.getElem_cons_zero, List.getElem_cons_succ]); first | (go_simp; done) | (go_simp; with_reducible rfl)⟩) (by assumption) ?_
                    simp only [Act.put, List.getElem_toArray, List.getElem_cons_zero, List.getElem_cons_succ, List.setIfInBounds_toArray, List.set_cons_zero, List.set_cons_succ]
                    refine wpAnyH_take (i := 9) (oi := _) (v := ?_) rfl (by kernel_rfl) (by kernel_rfl) (by kernel_rfl) (fun _ _ _ h => h) (Or.inl ⟨by rfl, by intro w hSw; (try dsimp only at hSw); (try simp only [List.getElem_toArray, List.getElem_cons_zero, List.getElem_cons_succ]); first | (go_simp; done) | (go_simp; with_reducible rfl)⟩) (by assumption) ?_
                    simp only [Act.put, List.getElem_toArray, List.getElem_cons_zero, List.getElem_cons_succ, List.setIfInBounds_toArray, List.set_cons_zero, List.set_cons_succ]
                    refine wpAnyH_ready (rs := [10]) (by kernel_rfl) (by simp) ?_
                    refine AllReadyH.cons (o := _) rfl (fun K hK => ?_) AllReadyH.nil
                    try simp only [List.getElem_toArray, List.getElem_cons_zero, List.getElem_cons_succ]
                    go_simp
                    (go_at_call 10; (with_reducible refine (KA.out _ (HB5.out.trans (Below.mono (And.right ‹_ ∧ Below w5.heap.size w5 _›) HB5.out.size))).mono ?_); rintro e u0 ⟨v0, rfl, hr0, hv0⟩; have hu0 := below_nextZ (And.right ‹_ ∧ Below w5.heap.size w5 _›) hv0 (Below.size (And.right ‹_ ∧ Below w5.heap.size w5 _›)))
                    try (go_wp2_with fail)
                    refine hK.out _ _ ?_ (fun hHeld => ?_)
                    · exact GRS.out _ hu0
                    clear hK K
                    try simp only [Act.put, List.getElem_toArray, List.getElem_cons_zero, List.getElem_cons_succ, List.setIfInBounds_toArray, List.set_cons_zero, List.set_cons_succ]
                    refine wpAnyH_ready (rs := [11]) (by kernel_rfl) (by simp) ?_
                    refine AllReadyH.cons (o := _) rfl (fun K hK => ?_) AllReadyH.nil
                    try simp only [List.getElem_toArray, List.getElem_cons_zero, List.getElem_cons_succ]
                    go_simp
                    (go_at_call 9; (with_reducible refine (KY.out _ _ hu0 hr0).mono ?_); rintro e u1 ⟨rfl, rfl⟩)
                    try (go_wp2_with fail)
                    refine hK.out _ _ ?_ (fun hHeld => ?_)
                    · exact GRS.out _ (And.right ‹_ ∧ Below w5.heap.size w5 _›)
                    clear hK K
                    try simp only [Act.put, List.getElem_toArray, List.getElem_cons_zero, List.getElem_cons_succ, List.setIfInBounds_toArray, List.set_cons_zero, List.set_cons_succ]
                    refine wpAnyH_take (i := 12) (oi := _) (v := ?_) rfl (by kernel_rfl) (by kernel_rfl) (by kernel_rfl) (fun _ _ _ h => h) (Or.inl ⟨by rfl, by intro w hSw; (try dsimp only at hSw); (try simp only [List.getElem_toArray, List.getElem_cons_zero, List.getElem_cons_succ]); first | (go_simp; done) | (go_simp; with_reducible rfl)⟩) (by assumption) ?_
                    simp only [Act.put, List.getElem_toArray, List.getElem_cons_zero, List.getElem_cons_succ, List.setIfInBounds_toArray, List.set_cons_zero, List.set_cons_succ]
                    refine wpAnyH_take (i := 13) (oi := _) (v := ?_) rfl (by kernel_rfl) (by kernel_rfl) (by kernel_rfl) (fun _ _ _ h => h) (Or.inl ⟨by rfl, by intro w hSw; (try dsimp only at hSw); (try simp only [List.getElem_toArray, List.getElem_cons_zero, List.getElem_cons_succ]); first | (go_simp; done) | (go_simp; with_reducible rfl)⟩) (by assumption) ?_
                    simp only [Act.put, List.getElem_toArray, List.getElem_cons_zero, List.getElem_cons_succ, List.setIfInBounds_toArray, List.set_cons_zero, List.set_cons_succ]
                    refine wpAnyH_take (i := 14) (oi := _) (v := ?_) rfl (by kernel_rfl) (by kernel_rfl) (by kernel_rfl) (fun _ _ _ h => h) (Or.inl ⟨by rfl, by intro w hSw; (try dsimp only at hSw); (try simp only [List.getElem_toArray, List.getElem_cons_zero, List.getElem_cons_succ]); first | (go_simp; done) | (go_simp; with_reducible rfl)⟩) (by assumption) ?_
                    simp only [Act.put, List.getElem_toArray, List.getElem_cons_zero, List.getElem_cons_succ, List.setIfInBounds_toArray, List.set_cons_zero, List.set_cons_succ]
                    refine wpAnyH_take (i := 17) (oi := _) (v := ?_) rfl (by kernel_rfl) (by kernel_rfl) (by kernel_rfl) (fun _ _ _ h => h) (Or.inl ⟨by rfl, by intro w hSw; (try dsimp only at hSw); (try simp only [List.getElem_toArray, List.getElem_cons_zero, List.getElem_cons_succ]); first | (go_simp; done) | (go_simp; with_reducible rfl)⟩) (by assumption) ?_
                    simp only [Act.put, List.getElem_toArray, List.getElem_cons_zero, List.getElem_cons_succ, List.setIfInBounds_toArray, List.set_cons_zero, List.set_cons_succ]
                    refine wpAnyH_ready (rs := [15, 18]) (by kernel_rfl) (by simp) ?_
                    refine AllReadyH.cons (o := _) rfl (fun K hK => ?_) (AllReadyH.cons (o := _) rfl (fun K hK => ?_) AllReadyH.nil)
                    · try simp only [List.getElem_toArray, List.getElem_cons_zero, List.getElem_cons_succ]
                      go_simp
                      (go_at_call 13; (with_reducible refine (KS.out _ (HB5.out.trans (Below.mono (And.right ‹_ ∧ Below w5.heap.size w5 _›) HB5.out.size))).mono ?_); rintro e u3 ⟨v3, L3, rfl, hL3, hrd3, hb3⟩; obtain ⟨A7, c7, rfl, hc7, _⟩ := hrd3.1.form; have hl3 : L3.length = (runesL s).length := (ev_lenZ hL3).trans (by rw [List.length_map]); have hu3 := below_nextZ (And.right ‹_ ∧ Below w5.heap.size w5 _›) hb3 (Below.size (And.right ‹_ ∧ Below w5.heap.size w5 _›)))
                      try (go_wp2_with fail)
                      refine hK.out _ _ ?_ (fun hHeld => ?_)
                      · exact GRS.out _ hu3
                      clear hK K
                      try simp only [Act.put, List.getElem_toArray, List.getElem_cons_zero, List.getElem_cons_succ, List.setIfInBounds_toArray, List.set_cons_zero, List.set_cons_succ]
                      refine wpAnyH_take (i := 16) (oi := _) (v := ?_) rfl (by kernel_rfl) (by kernel_rfl) (by kernel_rfl) (fun _ _ _ h => h) (Or.inl ⟨by rfl, by intro w hSw; (try dsimp only at hSw); (try simp only [List.getElem_toArray, List.getElem_cons_zero, List.getElem_cons_succ]); first | (go_simp; done) | (go_simp; with_reducible rfl)⟩) (by assumption) ?_
                      simp only [Act.put, List.getElem_toArray, List.getElem_cons_zero, List.getElem_cons_succ, List.setIfInBounds_toArray, List.set_cons_zero, List.set_cons_succ]
                      refine wpAnyH_ready (rs := [18]) (by kernel_rfl) (by simp) ?_
                      refine AllReadyH.cons (o := _) rfl (fun K hK => ?_) AllReadyH.nil
                      try simp only [List.getElem_toArray, List.getElem_cons_zero, List.getElem_cons_succ]
                      go_simp
                      refine hK.out _ _ ?_ (fun hHeld => ?_)
                      · exact GRS.out _ (below_nextZ (And.right ‹_ ∧ Below w5.heap.size w5 _›) (HBC.out _) (Below.size (And.right ‹_ ∧ Below w5.heap.size w5 _›)))
                      clear hK K
                      try simp only [Act.put, List.getElem_toArray, List.getElem_cons_zero, List.getElem_cons_succ, List.setIfInBounds_toArray, List.set_cons_zero, List.set_cons_succ]
                      refine wpAnyH_take (i := 19) (oi := _) (v := ?_) rfl (by kernel_rfl) (by kernel_rfl) (by kernel_rfl) (fun _ _ _ h => h) (Or.inl ⟨by rfl, by intro w hSw; (try dsimp only at hSw); (try simp only [List.getElem_toArray, List.getElem_cons_zero, List.getElem_cons_succ]); first | (go_simp; done) | (go_simp; with_reducible rfl)⟩) (by assumption) ?_
                      simp only [Act.put, List.getElem_toArray, List.getElem_cons_zero, List.getElem_cons_succ, List.setIfInBounds_toArray, List.set_cons_zero, List.set_cons_succ]
                      refine wpAnyH_take (i := 20) (oi := _) (v := ?_) rfl (by kernel_rfl) (by kernel_rfl) (by kernel_rfl) (fun _ _ _ h => h) (Or.inl ⟨by rfl, by intro w hSw; (try dsimp only at hSw); (try simp only [List.getElem_toArray, List.getElem_cons_zero, List.getElem_cons_succ]); first | (go_simp; done) | (go_simp; with_reducible rfl)⟩) (by assumption) ?_
                      simp only [Act.put, List.getElem_toArray, List.getElem_cons_zero, List.getElem_cons_succ, List.setIfInBounds_toArray, List.set_cons_zero, List.set_cons_succ]
                      refine wpAnyH_take (i := 21) (oi := _) (v := ?_) rfl (by kernel_rfl) (by kernel_rfl) (by kernel_rfl) (fun _ _ _ h => h) (Or.inl ⟨by rfl, by intro w hSw; (try dsimp only at hSw); (try simp only [List.getElem_toArray, List.getElem_cons_zero, List.getElem_cons_succ]); first | (go_simp; done) | (go_simp; with_reducible rfl)⟩) (by assumption) ?_
                      simp only [Act.put, List.getElem_toArray, List.getElem_cons_zero, List.getElem_cons_succ, List.setIfInBounds_toArray, List.set_cons_zero, List.set_cons_succ]
                      refine wpAnyH_ready (rs := [22]) (by kernel_rfl) (by simp) ?_
                      refine AllReadyH.cons (o := _) rfl (fun K hK => ?_) AllReadyH.nil
                      try simp only [List.getElem_toArray, List.getElem_cons_zero, List.getElem_cons_succ]
                      go_simp
                      refine hK.out _ _ ?_ (fun hHeld => ?_)
                      · exact GRS.out _ (And.right ‹_ ∧ Below w5.heap.size w5 _›)
                      clear hK K
                      try simp only [Act.put, List.getElem_toArray, List.getElem_cons_zero, List.getElem_cons_succ, List.setIfInBounds_toArray, List.set_cons_zero, List.set_cons_succ]
                      refine wpAnyH_done (by kernel_rfl) ?_ _
                      go_wp2_with fail
                      go_ret
                      exact ⟨ret_bool (by simp), HB5.out.trans ((And.right ‹_ ∧ Below w5.heap.size w5 _›).mono HB5.out.size)⟩
                    · try simp only [List.getElem_toArray, List.getElem_cons_zero, List.getElem_cons_succ]
                      go_simp
                      refine hK.out _ _ ?_ (fun hHeld => ?_)
                      · exact GRS.out _ (below_nextZ (And.right ‹_ ∧ Below w5.heap.size w5 _›) (HBC.out _) (Below.size (And.right ‹_ ∧ Below w5.heap.size w5 _›)))
                      clear hK K
                      try simp only [Act.put, List.getElem_toArray, List.getElem_cons_zero, List.getElem_cons_succ, List.setIfInBounds_toArray, List.set_cons_zero, List.set_cons_succ]
                      refine wpAnyH_take (i := 19) (oi := _) (v := ?_) rfl (by kernel_rfl) (by kernel_rfl) (by kernel_rfl) (fun _ _ _ h => h) (Or.inl ⟨by rfl, by intro w hSw; (try dsimp only at hSw); (try simp only [List.getElem_toArray, List.getElem_cons_zero, List.getElem_cons_succ]); first | (go_simp; done) | (go_simp; with_reducible rfl)⟩) (by assumption) ?_
                      simp only [Act.put, List.getElem_toArray, List.getElem_cons_zero, List.getElem_cons_succ, List.setIfInBounds_toArray, List.set_cons_zero, List.set_cons_succ]
                      refine wpAnyH_ready (rs := [15]) (by kernel_rfl) (by simp) ?_
                      refine AllReadyH.cons (o := _) rfl (fun K hK => ?_) AllReadyH.nil
                      try simp only [List.getElem_toArray, List.getElem_cons_zero, List.getElem_cons_succ]
                      go_simp
                      (go_at_call 13; (with_reducible refine (KS.out _ (HB5.out.trans (Below.mono (And.right ‹_ ∧ Below w5.heap.size w5 _›) HB5.out.size))).mono ?_); rintro e u3 ⟨v3, L3, rfl, hL3, hrd3, hb3⟩; obtain ⟨A7, c7, rfl, hc7, _⟩ := hrd3.1.form; have hl3 : L3.length = (runesL s).length := (ev_lenZ hL3).trans (by rw [List.length_map]); have hu3 := below_nextZ (And.right ‹_ ∧ Below w5.heap.size w5 _›) hb3 (Below.size (And.right ‹_ ∧ Below w5.heap.size w5 _›)))
                      try (go_wp2_with fail)
                      refine hK.out _ _ ?_ (fun hHeld => ?_)
                      · exact GRS.out _ hu3
                      clear hK K
                      try simp only [Act.put, List.getElem_toArray, List.getElem_cons_zero, List.getElem_cons_succ, List.setIfInBounds_toArray, List.set_cons_zero, List.set_cons_succ]
                      refine wpAnyH_take (i := 16) (oi := _) (v := ?_) rfl (by kernel_rfl) (by kernel_rfl) (by kernel_rfl) (fun _ _ _ h => h) (Or.inl ⟨by rfl, by intro w hSw; (try dsimp only at hSw); (try simp only [List.getElem_toArray, List.getElem_cons_zero, List.getElem_cons_succ]); first | (go_simp; done) | (go_simp; with_reducible rfl)⟩) (by assumption) ?_
                      simp only [Act.put, List.getElem_toArray, List.getElem_cons_zero, List.getElem_cons_succ, List.setIfInBounds_toArray, List.set_cons_zero, List.set_cons_succ]
                      refine wpAnyH_take (i := 20) (oi := _) (v := ?_) rfl (by kernel_rfl) (by kernel_rfl) (by kernel_rfl) (fun _ _ _ h => h) (Or.inl ⟨by rfl, by intro w hSw; (try dsimp only at hSw); (try simp only [List.getElem_toArray, List.getElem_cons_zero, List.getElem_cons_succ]); first | (go_simp; done) | (go_simp; with_reducible rfl)⟩) (by assumption) ?_
                      simp only [Act.put, List.getElem_toArray, List.getElem_cons_zero, List.getElem_cons_succ, List.setIfInBounds_toArray, List.set_cons_zero, List.set_cons_succ]
                      refine wpAnyH_take (i := 21) (oi := _) (v := ?_) rfl (by kernel_rfl) (by kernel_rfl) (by kernel_rfl) (fun _ _ _ h => h) (Or.inl ⟨by rfl, by intro w hSw; (try dsimp only at hSw); (try simp only [List.getElem_toArray, List.getElem_cons_zero, List.getElem_cons_succ]); first | (go_simp; done) | (go_simp; with_reducible rfl)⟩) (by assumption) ?_
                      simp only [Act.put, List.getElem_toArray, List.getElem_cons_zero, List.getElem_cons_succ, List.setIfInBounds_toArray, List.set_cons_zero, List.set_cons_succ]
                      refine wpAnyH_ready (rs := [22]) (by kernel_rfl) (by simp) ?_
                      refine AllReadyH.cons (o := _) rfl (fun K hK => ?_) AllReadyH.nil
                      try simp only [List.getElem_toArray, List.getElem_cons_zero, List.getElem_cons_succ]
                      go_simp
                      refine hK.out _ _ ?_ (fun hHeld => ?_)
                      · exact GRS.out _ (And.right ‹_ ∧ Below w5.heap.size w5 _›)
                      clear hK K
                      try simp only [Act.put, List.getElem_toArray, List.getElem_cons_zero, List.getElem_cons_succ, List.setIfInBounds_toArray, List.set_cons_zero, List.set_cons_succ]
                      refine wpAnyH_done (by kernel_rfl) ?_ _
                      go_wp2_with fail
                      go_ret
                      exact ⟨ret_bool (by simp), HB5.out.trans ((And.right ‹_ ∧ Below w5.heap.size w5 _›).mono HB5.out.size)⟩
          · have h20' : (20 : Int) < (os.length : Int) := by omega
            have d20 : decide ((20 : Int) < (os.length : Int)) = true := decide_eq_true h20'
            go_wp2
            go_ret
            exact ⟨rfl, hbw⟩
    · have hzs' : (2147483647 : Int) < (s.length : Int) := by omega
      have dzs' : decide ((2147483647 : Int) < (s.length : Int)) = true := decide_eq_true hzs'
      go_enter Tryz.func4, Tryz.ntmps4
      go_wp2
      go_ret
      exact ⟨rfl, Below.refl _ w⟩
  · have hz' : (2147483647 : Int) < (os.length : Int) := by omega
    have dz' : decide ((2147483647 : Int) < (os.length : Int)) = true := decide_eq_true hz'
    go_enter Tryz.func4, Tryz.ntmps4
    go_wp2
    go_ret
    exact ⟨rfl, Below.refl _ w⟩
end Go.Proofs.YtmljkiohekogbaaGreatDoor
