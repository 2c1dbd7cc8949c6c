import Derived.Test.YtfiokjdikhfcaaaDoorZa
import Derived.Test.YtfiokjdikhfcaaaDoorYw
import Derived.Test.YtfiokjdikhfcaaaDoorI
namespace Go.Proofs.YtfiokjdikhfcaaaDoor
open Go.RowKit Go.Lib
set_option linter.unusedVariables false
set_option linter.unusedSimpArgs false
set_option maxHeartbeats 4000000
set_option maxRecDepth 100000
attribute [local go_sem] S_extract S_append run_cut_S run_head_S run_tail_S Nat.add_sub_cancel_left

theorem rdA_len : ∀ (rs : List Int) (m : Nat) (n : Int) (d : Nat) (on : List Int) (cells : List (Int × List Int)) (on' : List Int), rdA rs m n d on = some (cells, on') → cells.length ≤ rs.length
  | [], m, n, d, on, cells, on', h => by
    unfold rdA at h
    split at h
    · injection h with h
      injection h with h1 h2
      subst h1
      simp
    · cases h
  | r :: t, m, n, d, on, cells, on', h => by
    have ih := rdA_len t
    unfold rdA at h
    rw [List.length_cons]
    split at h
    · split at h
      · exact Nat.le_succ_of_le (ih _ _ _ _ _ _ h)
      · obtain ⟨p, hp, hq⟩ := Option.map_eq_some_iff.1 h
        injection hq with hq1 hq2
        subst hq1 hq2
        rw [List.length_cons]
        exact Nat.succ_le_succ (ih _ _ _ _ p.1 p.2 hp)
    · split at h
      · split at h
        · exact Nat.le_succ_of_le (ih _ _ _ _ _ _ h)
        · cases h
      · split at h
        · exact Nat.le_succ_of_le (ih _ _ _ _ _ _ h)
        · split at h
          · split at h
            · exact Nat.le_succ_of_le (ih _ _ _ _ _ _ h)
            · exact Nat.le_succ_of_le (ih _ _ _ _ _ _ h)
          · cases h
theorem cellsAlike_self : ∀ x : List (Int × List Int), cellsAlike x x = true
  | [] => rfl
  | p :: t => by simp [cellsAlike, cellsAlike_self t, cellsSelf_alike]
theorem fmt2 (l : List UInt8) : fmtF 2 l = mapS tiF (32, false) l := rfl
theorem fmt2_a : fmtF 2 [97] = [65] := by
  rw [fmt2, mapS_step tiF (32, false) [97] (by simp), decodeL_ascii 97 [] (by decide)]
  decide
theorem below_nextT {B : Nat} {w w1 w2 : World} (h : Below B w w1) (k : Below w1.heap.size w1 w2) (hB : B ≤ w1.heap.size) : Below B w w2 := h.trans (k.mono hB)
theorem Title_calls (l : List Pc) (A : Option Addr) (c : Nat) (w : World) (h : RdPj w (.slice A l.length c) l) (hT : Tab w) :
    Calls Tryd.prog 4 #[.slice A l.length c] w fun e w' => e = .returned (.bool true) ∧ Below w.heap.size w w' := by
  have KF := zzFits15_calls l _ w h
  cases hf : fits15B l with
  | false =>
    rw [hf] at KF
    replace KF := hid KF
    clear h hT
    go_enter Tryd.func4, Tryd.ntmps4
    go_wp2_with (go_at_call 5; (with_reducible refine KF.out.mono ?_); rintro e w1 ⟨rfl, hb1⟩)
    go_ret
    exact ⟨rfl, hb1⟩
  | true =>
    rw [hf] at KF
    obtain ⟨hp, hl, hpl⟩ := h.pc hf
    replace KF := hid KF
    cases hg : goodL false l with
    | false =>
      have KC := hid (fun (W : World) (hb : Below w.heap.size w W) => ptCells_bad false l _ W (hp.below hb) (fun p hq => (hpl p hq).2) hg)
      clear h hT hp hpl hf hg
      go_enter Tryd.func4, Tryd.ntmps4
      go_wp2_with (first
        | (go_at_call 5; (with_reducible refine KF.out.mono ?_); rintro e w1 ⟨rfl, hb1⟩)
        | (go_at_call 6; (with_reducible refine (KC.out _ hb1).mono ?_); rintro e w2 ⟨rfl, hb2⟩))
      go_ret
      exact ⟨rfl, below_nextT hb1 hb2 hb1.size⟩
    | true =>
      obtain ⟨h40, hfc⟩ := good_facts hg
      have hwl := written_len l fun p hp => ⟨(hfc p hp).1, (hfc p hp).2.1, (hfc p hp).2.2.1⟩
      have KC := hid (fun (W : World) (hb : Below w.heap.size w W) => ptCells_good false l _ W (hp.below hb) hg (hT.below hb))
      have HW := hid (show (writtenPc l).length ≤ 23480 by omega)
      generalize writtenPc l = W0 at *
      clear h hT hp hpl hf hg hfc hwl h40 hl
      cases hr : txRead (runes ⟨W0.toArray⟩) with
      | none =>
        rw [hr] at KC
        go_enter Tryd.func4, Tryd.ntmps4
        go_wp2_with (first
          | (go_at_call 5; (with_reducible refine KF.out.mono ?_); rintro e w1 ⟨rfl, hb1⟩)
          | (go_at_call 6; (with_reducible refine (KC.out _ hb1).mono ?_); rintro e w2 ⟨hb2, rfl⟩))
        go_ret
        exact ⟨rfl, below_nextT hb1 hb2 hb1.size⟩
      | some q =>
        obtain ⟨cs, on⟩ := q
        rw [hr] at KC
        have KI := hid (fun (v : Value) (W : World) (hv : RdCells W v cs) => ptTitles_calls v cs W hv)
        cases ht : (cs.all fun p => titleOk p.1) with
        | false =>
          rw [ht] at KI
          clear hr ht
          go_enter Tryd.func4, Tryd.ntmps4
          go_wp2_with (first
            | (go_at_call 5; (with_reducible refine KF.out.mono ?_); rintro e w1 ⟨rfl, hb1⟩)
            | (go_at_call 6; (with_reducible refine (KC.out _ hb1).mono ?_); rintro e w2 ⟨hb2, vc, vo, rfl, hrc, hri⟩)
            | (go_at_call 10; (with_reducible refine (KI.out _ _ hrc).mono ?_); rintro e w3 ⟨rfl, hb3⟩))
          go_ret
          exact ⟨rfl, below_nextT (below_nextT hb1 hb2 hb1.size) hb3 (by have := hb1.size; have := hb2.size; omega)⟩
        | true =>
          rw [ht] at KI
          obtain ⟨ha, hr2, hlen⟩ := title_law W0 cs on hr ht
          have hcl : cs.length ≤ 1000000 := by
            rw [runes_L] at hr
            have h1 := rdA_len _ _ _ _ _ _ _ hr
            have h2 : (runesL W0).length ≤ W0.length := by rw [runes_of_ascii W0 ha, List.length_map]; exact Nat.le_refl _
            have := HW.out
            omega
          have hrg : ∀ p ∈ cs, 0 ≤ p.1 ∧ p.1 ≤ 2000000 := fun p hp => by
            have := titleOk_cases (List.all_eq_true.1 ht p hp)
            omega
          have KM := hid (fun (W : World) => textFormat_calls 2 W0 (by have := HW.out; omega) ha W)
          have KA := hid (fun (W : World) => textFormat_calls 2 [97] (by decide) (by intro b hb; simp only [List.mem_singleton] at hb; subst hb; decide) W)
          have KD := hid (fun (v : Value) (W : World) (hv : RdCells W v cs) => PtTitled_calls v cs W hv hcl hrg)
          have KS := hid (fun (u uo : Value) (W : World) (h1 : RdCells W u (titled true cs)) (h2 : RdI W uo on) => ptIs_calls ⟨(fmtF 2 W0).toArray⟩ u uo (titled true cs) on W (by rw [S_size, fmt2, hlen]; have := HW.out; omega) h1 h2)
          rw [show isRead ⟨(fmtF 2 W0).toArray⟩ (titled true cs) on = true by unfold isRead; rw [fmt2, hr2]; dsimp only; rw [cellsAlike_self, cellsSelf_alike]; rfl] at KS
          rw [fmt2_a] at KA
          generalize fmtF 2 W0 = W1 at *
          clear hr ht ha hr2 hlen hcl hrg
          go_enter Tryd.func4, Tryd.ntmps4
          go_wp2_with (first
            | (go_at_call 5; (with_reducible refine KF.out.mono ?_); rintro e w1 ⟨rfl, hb1⟩)
            | (go_at_call 6; (with_reducible refine (KC.out _ hb1).mono ?_); rintro e w2 ⟨hb2, vc, vo, rfl, hrc, hri⟩; have hbb2 := below_nextT hb1 hb2 hb1.size)
            | (go_at_call 10; (with_reducible refine (KI.out _ _ hrc).mono ?_); rintro e w3 ⟨rfl, hb3⟩; have hbb3 := below_nextT hbb2 hb3 hbb2.size)
            | (go_at_call 9; first
                | ((with_reducible refine (KM.out _).mono ?_); rintro e w4 ⟨rfl, hb4⟩; have hbb4 := below_nextT hbb3 hb4 hbb3.size)
                | ((with_reducible refine (KA.out _).mono ?_); rintro e w7 ⟨rfl, hb7⟩))
            | (go_at_call 12; (with_reducible refine (KD.out _ _ ((hrc.below hb3).below hb4)).mono ?_); rintro e w5 ⟨vt, rfl, hrt, hb5⟩; have hbb5 := below_nextT hbb4 hb5 hbb4.size)
            | (go_at_call 11; (with_reducible refine (KS.out _ _ _ hrt (((hri.below hb3).below hb4).below hb5)).mono ?_); rintro e w6 ⟨rfl, hb6⟩; have hbb6 := below_nextT hbb5 hb6 hbb5.size))
          go_ret
          exact ⟨rfl, below_nextT hbb6 hb7 hbb6.size⟩
end Go.Proofs.YtfiokjdikhfcaaaDoor
