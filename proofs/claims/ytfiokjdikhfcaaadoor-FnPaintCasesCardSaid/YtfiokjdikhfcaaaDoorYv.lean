import Derived.Test.YtfiokjdikhfcaaaDoorYu
namespace Go.Proofs.YtfiokjdikhfcaaaDoor
open Go.RowKit
set_option linter.unusedVariables false
set_option linter.unusedSimpArgs false
set_option maxHeartbeats 4000000
set_option maxRecDepth 100000
attribute [local go_sem] S_extract S_append run_cut_S run_head_S run_tail_S Nat.add_sub_cancel_left

def okCode (n : Nat) (c : Int) : Bool := txAttr c || (decide (c = 0) && decide (n ≤ 1))
def goodPc (lines : Bool) (p : Pc) : Bool := txSimple ⟨p.text.toArray⟩ lines && (decide (p.text.length ≤ 500) && (decide (p.codes.length ≤ 4) && p.codes.all (okCode p.codes.length)))
def goodL (lines : Bool) (l : List Pc) : Bool := l.all (goodPc lines) && decide (l.length ≤ 40)
theorem TxGood_calls (lines : Bool) (l : List Pc) (v : Value) (w : World) (h : RdPc w v l) (ht : ∀ p ∈ l, p.text.length ≤ 2147483647) :
    Calls Tryd.prog 14 #[v, .bool lines] w fun e w' => e = .returned (.bool (goodL lines l)) ∧ Below w.heap.size w w' := by
  have HR := hid h
  have hlm := h.1.1
  obtain ⟨A, c, rfl, hcc, _⟩ := RdF.form h.1
  clear h
  have HL := hid ht
  clear ht
  go_enter Tryd.func14, Tryd.ntmps14
  go_wp2_with fail
  go_loopw [11] (fun u wr => ∃ k : Nat, k ≤ l.length ∧ u = .int .i64 k ∧ Hid (((l.drop k).all (goodPc lines) && decide (l.length ≤ 40)) = goodL lines l) ∧ Below w.heap.size w wr) (fun u _ => l.length - (intOf u).toNat)
  case atStart => exact ⟨0, by omega, rfl, hid rfl, Below.refl _ w⟩
  case round =>
    obtain ⟨k, hk, rfl, hT, hbw⟩ := hrel
    by_cases hlt : k < l.length
    · obtain ⟨p, hp⟩ : ∃ p, l[k]? = some p := ⟨_, List.getElem?_eq_getElem hlt⟩
      have hm := List.mem_of_getElem? hp
      have hlt' : (k : Int) < (l.length : Int) := by omega
      obtain ⟨g, o, rfl, hcl⟩ := (HR.out.below hbw).1.at (by omega)
      obtain ⟨q0, q1⟩ := pc_get hp
      have hc0 := hcl _ _ q0
      have hc1 := hcl _ _ q1
      rw [← Nat.add_assoc] at hc1
      have hpl := HL.out p hm
      have KS := hid (fun (W : World) => TxSimple_calls ⟨p.text.toArray⟩ lines W (by rw [S_size]; omega))
      have HA := hid (show (goodPc lines p && ((l.drop (k + 1)).all (goodPc lines) && decide (l.length ≤ 40))) = goodL lines l by
        rw [← hT.out, List.drop_eq_getElem_cons hlt, (List.getElem?_eq_some_iff.1 hp).2, List.all_cons, Bool.and_assoc])
      have HRI := hid ((HR.out.below hbw).2 p hm)
      have HG := hid (show goodPc lines p = (txSimple ⟨p.text.toArray⟩ lines && (decide (p.text.length ≤ 500) && (decide (p.codes.length ≤ 4) && p.codes.all (okCode p.codes.length)))) from rfl)
      obtain ⟨A2, c2, hvv⟩ := (HR.out.2 p hm).form
      generalize goodPc lines p = gp at HA HG
      obtain ⟨cs, tx, vv⟩ := p
      dsimp only at hc0 hc1 hvv KS HRI HG hpl
      subst hvv
      clear hcl hp q0 q1 hT hm
      generalize txSimple ⟨tx.toArray⟩ lines = sb at KS HG
      have hbB : ∀ W', Below wr.heap.size (wr.alloc (.cells #[.slice A2 cs.length c2, .string ⟨tx.toArray⟩] 36)) W' → Below w.heap.size w W' := fun W' h => (hbw.alloc hbw.size _).trans (h.mono hbw.size)
      have hcellB : ∀ W', Below (wr.heap.size + 1) (wr.alloc (.cells #[.slice A2 cs.length c2, .string ⟨tx.toArray⟩] 36)) W' → W'.cell? ⟨wr.heap.size, 0, none⟩ = some (.slice A2 cs.length c2) ∧ W'.cell? ⟨wr.heap.size, 1, none⟩ = some (.string ⟨tx.toArray⟩) := fun W' h =>
        ⟨(h.cell (by show wr.heap.size < _; omega)).trans (blk_cell (alloc_heap_new wr _) 0), (h.cell (by show wr.heap.size < _; omega)).trans (blk_cell (alloc_heap_new wr _) 1)⟩
      have HBB := hid hbB
      have HCB := hid hcellB
      have hzA : (wr.alloc (.cells #[.slice A2 cs.length c2, .string ⟨tx.toArray⟩] 36)).heap.size = wr.heap.size + 1 := by simp
      have HZA := hid hzA
      have HBW := hid hbw
      clear hbB hcellB hzA
      cases sb with
      | false =>
        go_wp2_with (go_at_call 22; (with_reducible refine (KS.out _).mono ?_); rintro e w2 ⟨rfl, hb2⟩)
        go_ret
        exact ⟨ret_bool (by rw [← HA.out, HG.out]; rfl), HBB.out _ (hb2.mono (by have := HZA.out; omega))⟩
      | true =>
        by_cases h5 : tx.length ≤ 500
        · have h5' : ¬ (500 : Int) < (tx.length : Int) := by omega
          by_cases h4 : cs.length ≤ 4
          · have h4' : ¬ (4 : Int) < (cs.length : Int) := by omega
            go_wp2_with (go_at_call 22; (with_reducible refine (KS.out _).mono ?_); rintro e w2 ⟨rfl, hb2⟩; obtain ⟨hd0, hd1⟩ := HCB.out w2 (hb2.mono (by have := HZA.out; omega)))
            have HR2 := hid (HRI.out.below (((Below.refl _ wr).alloc (Nat.le_refl _) _).trans (hb2.mono (by have := HZA.out; omega))))
            have HBQ := hid (HBB.out w2 (hb2.mono (by have := HZA.out; omega)))
            have HG2 := hid (show gp = cs.all (okCode cs.length) by rw [HG.out, decide_eq_true h5, decide_eq_true h4]; simp)
            clear hc0 hc1 hb2 HRI HBB HCB HZA HBW hbw HG KS
            go_loop [35] (fun u => ∃ j : Nat, j ≤ cs.length ∧ u = .int .i64 j ∧ Hid ((cs.drop j).all (okCode cs.length) = cs.all (okCode cs.length))) (fun u => cs.length - (intOf u).toNat)
            case atStart => exact ⟨0, Nat.zero_le _, rfl, hid rfl⟩
            case round =>
              obtain ⟨j, hj, rfl, hac⟩ := hrel
              by_cases hjt : j < cs.length
              · have hjt' : (j : Int) < (cs.length : Int) := by omega
                obtain ⟨g2, o2, c3, hv2, hcl2⟩ := HR2.out.at hjt
                injection hv2 with hA2 _ hc3
                subst hA2 hc3
                obtain ⟨cj, hcj⟩ : ∃ cj, cs[j]? = some cj := ⟨_, List.getElem?_eq_getElem hjt⟩
                have hce := hcl2 j cj hcj
                have HO := hid (show (okCode cs.length cj && (cs.drop (j + 1)).all (okCode cs.length)) = cs.all (okCode cs.length) by
                  rw [← hac.out, List.drop_eq_getElem_cons hjt, (List.getElem?_eq_some_iff.1 hcj).2]; rfl)
                have KT := hid (TxAttribute_calls cj w2)
                have HOK := hid (show okCode cs.length cj = (txAttr cj || (decide (cj = 0) && decide (cs.length ≤ 1))) from rfl)
                generalize okCode cs.length cj = ok at HO HOK
                generalize txAttr cj = at1 at KT HOK
                clear hcl2 hcj hac
                cases at1 with
                | true =>
                  obtain rfl : ok = true := by rw [HOK.out]; rfl
                  go_wp2_with (go_at_call 23; (with_reducible refine KT.out.mono ?_); rintro e w3 ⟨rfl, rfl⟩)
                  go_round
                  case rel => exact ⟨j + 1, by omega, by go_num, hid HO.out⟩
                  case measure => simp [intOf]; omega
                | false =>
                  by_cases hz : cj = 0
                  · subst hz
                    by_cases h1 : cs.length ≤ 1
                    · have h1' : ¬ (1 : Int) < (cs.length : Int) := by omega
                      obtain rfl : ok = true := by rw [HOK.out, decide_eq_true h1]; rfl
                      go_wp2_with (go_at_call 23; (with_reducible refine KT.out.mono ?_); rintro e w3 ⟨rfl, rfl⟩)
                      go_round
                      case rel => exact ⟨j + 1, by omega, by go_num, hid HO.out⟩
                      case measure => simp [intOf]; omega
                    · have h1' : (1 : Int) < (cs.length : Int) := by omega
                      obtain rfl : ok = false := by rw [HOK.out, decide_eq_false h1]; rfl
                      go_wp2_with (go_at_call 23; (with_reducible refine KT.out.mono ?_); rintro e w3 ⟨rfl, rfl⟩)
                      go_ret
                      exact ⟨ret_bool (by rw [← HA.out, HG2.out, ← HO.out]; rfl), HBQ.out⟩
                  · have hzb : (cj == 0) = false := by simpa using hz
                    obtain rfl : ok = false := by rw [HOK.out, decide_eq_false hz]; rfl
                    go_wp2_with (go_at_call 23; (with_reducible refine KT.out.mono ?_); rintro e w3 ⟨rfl, rfl⟩)
                    go_ret
                    exact ⟨ret_bool (by rw [← HA.out, HG2.out, ← HO.out]; rfl), HBQ.out⟩
              · have hjt' : ¬ (j : Int) < (cs.length : Int) := by omega
                have HO := hid (show gp = true by rw [HG2.out, ← hac.out, List.drop_of_length_le (by omega)]; rfl)
                clear hac
                go_wp2_with fail
                go_roundw
                case rel => exact ⟨k + 1, by omega, by go_num, hid (by rw [← HA.out, HO.out]; rfl), HBQ.out⟩
                case measure => simp [intOf]; omega
          · have h4' : (4 : Int) < (cs.length : Int) := by omega
            go_wp2_with (go_at_call 22; (with_reducible refine (KS.out _).mono ?_); rintro e w2 ⟨rfl, hb2⟩; obtain ⟨hd0, hd1⟩ := HCB.out w2 (hb2.mono (by have := HZA.out; omega)))
            go_ret
            exact ⟨ret_bool (by rw [← HA.out, HG.out, decide_eq_false h4]; simp), HBB.out _ (hb2.mono (by have := HZA.out; omega))⟩
        · have h5' : (500 : Int) < (tx.length : Int) := by omega
          go_wp2_with (go_at_call 22; (with_reducible refine (KS.out _).mono ?_); rintro e w2 ⟨rfl, hb2⟩; obtain ⟨hd0, hd1⟩ := HCB.out w2 (hb2.mono (by have := HZA.out; omega)))
          go_ret
          exact ⟨ret_bool (by rw [← HA.out, HG.out, decide_eq_false h5]; simp), HBB.out _ (hb2.mono (by have := HZA.out; omega))⟩
    · have hlt' : ¬ (k : Int) < (l.length : Int) := by omega
      have HS := hid (show decide (l.length ≤ 40) = goodL lines l by rw [← hT.out, List.drop_of_length_le (by omega)]; rfl)
      clear hT
      go_wp2_with fail
      go_ret
      exact ⟨ret_bool (by rw [← HS.out]; simp; omega), hbw⟩
end Go.Proofs.YtfiokjdikhfcaaaDoor
