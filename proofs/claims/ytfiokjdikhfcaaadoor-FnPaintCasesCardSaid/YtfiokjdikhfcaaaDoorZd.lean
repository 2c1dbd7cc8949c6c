import Derived.Test.YtfiokjdikhfcaaaDoorYz
import Derived.Test.YtfiokjdikhfcaaaDoorZc
namespace Go.Proofs.YtfiokjdikhfcaaaDoor
open Go.RowKit Go.Lib
set_option linter.unusedVariables false
set_option linter.unusedSimpArgs false
set_option maxHeartbeats 4000000
set_option maxRecDepth 100000
attribute [local go_sem] S_extract S_append run_cut_S run_head_S run_tail_S Nat.add_sub_cancel_left

theorem plain_len : ∀ l : List Pc, (∀ p ∈ l, p.text.length ≤ 500) → (plainPc l).length ≤ 500 * l.length
  | [], _ => by simp [plainPc]
  | p :: t, h => by
    have h1 := h p (by simp)
    have h2 := plain_len t fun q hq => h q (by simp [hq])
    have : plainPc (p :: t) = p.text ++ plainPc t := rfl
    rw [this, List.length_append, List.length_cons]
    omega
theorem Cases_calls (a b : Int) (ha0 : 0 ≤ a ∧ a ≤ 255) (hb0 : 0 ≤ b ∧ b ≤ 255) (l : List Pc) (A : Option Addr) (c : Nat) (w : World) (h : RdPj w (.slice A l.length c) l) (hT : Tab w) :
    Calls Tryd.prog 3 #[.int .u8 a, .int .u8 b, .slice A l.length c] w fun e w' => e = .returned (.bool true) ∧ Below w.heap.size w w' := by
  have KF := zzFits15_calls l _ w h
  obtain ⟨x, hx, hx3⟩ : ∃ x : Int, Int.tmod a 4 = x ∧ (x = 0 ∨ x = 1 ∨ x = 2 ∨ x = 3) := ⟨_, rfl, by rw [Int.tmod_eq_emod_of_nonneg ha0.1]; omega⟩
  obtain ⟨y, hy, hy3⟩ : ∃ y : Int, Int.tmod b 4 = y ∧ (y = 0 ∨ y = 1 ∨ y = 2 ∨ y = 3) := ⟨_, rfl, by rw [Int.tmod_eq_emod_of_nonneg hb0.1]; omega⟩
  have hxr : 0 ≤ x ∧ x ≤ 3 := by omega
  have hyr : 0 ≤ y ∧ y ≤ 3 := by omega
  cases hf : fits15B l with
  | false =>
    rw [hf] at KF
    replace KF := hid KF
    clear h hT hx3 hy3
    go_enter Tryd.func3, Tryd.ntmps3
    go_wp2_with (go_at_call 5; (with_reducible refine KF.out.mono ?_); rintro e w1 ⟨rfl, hb1⟩)
    go_ret
    exact ⟨rfl, hb1⟩
  | true =>
    rw [hf] at KF
    obtain ⟨hp, hl, hpl⟩ := h.pc hf
    replace KF := hid KF
    cases hg : goodL true l with
    | false =>
      have KC := hid (fun (W : World) (hb : Below w.heap.size w W) => ptCells_bad true l _ W (hp.below hb) (fun p hq => (hpl p hq).2) hg)
      clear h hT hp hpl hf hg hx3 hy3
      go_enter Tryd.func3, Tryd.ntmps3
      go_wp2_with (first
        | (go_at_call 5; (with_reducible refine KF.out.mono ?_); rintro e w1 ⟨rfl, hb1⟩)
        | (go_at_call 6; (with_reducible refine (KC.out _ hb1).mono ?_); rintro e w2 ⟨rfl, hb2⟩))
      go_ret
      exact ⟨rfl, below_nextT hb1 hb2 hb1.size⟩
    | true =>
      obtain ⟨h40, hfc⟩ := good_facts hg
      have hwl := written_len l fun p hp => ⟨(hfc p hp).1, (hfc p hp).2.1, (hfc p hp).2.2.1⟩
      have KC := hid (fun (W : World) (hb : Below w.heap.size w W) => ptCells_good true l _ W (hp.below hb) hg (hT.below hb))
      have KP := hid (fun (W : World) (hb : Below w.heap.size w W) => TxPlain_calls l _ W (hp.below hb) (by omega) (fun p hp => by have := (hfc p hp).2.1; omega))
      have hpn := plain_len l fun p hp => (hfc p hp).2.1
      have KA := hid (fun (W : World) => TxASCII_calls (plainPc l) W (by omega))
      have HW := hid (show (writtenPc l).length ≤ 23480 by omega)
      cases hr : txRead (runes ⟨(writtenPc l).toArray⟩) with
      | none =>
        rw [hr] at KC
        generalize writtenPc l = W0 at *
        clear h hT hp hpl hf hg hfc hwl h40 hl hpn KP KA hx3 hy3
        go_enter Tryd.func3, Tryd.ntmps3
        go_wp2_with (first
          | (go_at_call 5; (with_reducible refine KF.out.mono ?_); rintro e w1 ⟨rfl, hb1⟩)
          | (go_at_call 6; (with_reducible refine (KC.out _ hb1).mono ?_); rintro e w2 ⟨hb2, rfl⟩))
        go_ret
        exact ⟨rfl, below_nextT hb1 hb2 hb1.size⟩
      | some q =>
        obtain ⟨cs, on⟩ := q
        rw [hr] at KC
        cases hs : (plainPc l).all asciiOk with
        | false =>
          rw [hs] at KA
          generalize writtenPc l = W0 at *
          generalize plainPc l = P0 at *
          clear h hT hp hpl hf hg hfc hwl h40 hl hpn hr hs hx3 hy3
          go_enter Tryd.func3, Tryd.ntmps3
          go_wp2_with (first
            | (go_at_call 5; (with_reducible refine KF.out.mono ?_); rintro e w1 ⟨rfl, hb1⟩)
            | (go_at_call 6; (with_reducible refine (KC.out _ hb1).mono ?_); rintro e w2 ⟨hb2, vc, vo, rfl, hrc, hri⟩; have hbb2 := below_nextT hb1 hb2 hb1.size)
            | (go_at_call 8; (with_reducible refine (KP.out _ hbb2).mono ?_); rintro e w3 ⟨rfl, hb3⟩; have hbb3 := below_nextT hbb2 hb3 hbb2.size)
            | (go_at_call 7; (with_reducible refine (KA.out _).mono ?_); rintro e w4 ⟨rfl, rfl⟩))
          go_ret
          exact ⟨rfl, hbb3⟩
        | true =>
          rw [hs] at KA
          have hs' := List.all_eq_true.1 hs
          have hasc : asciiL (writtenPc l) := ascii_written l fun b hb => ascii_ok (hs' b hb)
          have hesc : escOk false (writtenPc l) = true := esc_written l hs'
          generalize writtenPc l = W0 at *
          generalize plainPc l = P0 at *
          clear h hT hp hpl hf hg hfc hwl h40 hl hpn hr hs hs'
          by_cases hxo : x = 2
          · subst hxo
            clear hx3 hy3
            go_enter Tryd.func3, Tryd.ntmps3
            go_wp2_with (first
              | (go_at_call 5; (with_reducible refine KF.out.mono ?_); rintro e w1 ⟨rfl, hb1⟩)
              | (go_at_call 6; (with_reducible refine (KC.out _ hb1).mono ?_); rintro e w2 ⟨hb2, vc, vo, rfl, hrc, hri⟩; have hbb2 := below_nextT hb1 hb2 hb1.size)
              | (go_at_call 8; (with_reducible refine (KP.out _ hbb2).mono ?_); rintro e w3 ⟨rfl, hb3⟩; have hbb3 := below_nextT hbb2 hb3 hbb2.size)
              | (go_at_call 7; (with_reducible refine (KA.out _).mono ?_); rintro e w4 ⟨rfl, rfl⟩))
            go_ret
            exact ⟨rfl, hbb3⟩
          · have hx4 : x = 0 ∨ x = 1 ∨ x = 3 := by omega
            clear hx3
            by_cases hyo : y = 2 ∨ y = 0
            · rcases hyo with rfl | rfl <;> clear hy3 <;> rcases hx4 with rfl | rfl | rfl
              all_goals
                go_enter Tryd.func3, Tryd.ntmps3
                go_wp2_with (first
                  | (go_at_call 5; (with_reducible refine KF.out.mono ?_); rintro e w1 ⟨rfl, hb1⟩)
                  | (go_at_call 6; (with_reducible refine (KC.out _ hb1).mono ?_); rintro e w2 ⟨hb2, vc, vo, rfl, hrc, hri⟩; have hbb2 := below_nextT hb1 hb2 hb1.size)
                  | (go_at_call 8; (with_reducible refine (KP.out _ hbb2).mono ?_); rintro e w3 ⟨rfl, hb3⟩; have hbb3 := below_nextT hbb2 hb3 hbb2.size)
                  | (go_at_call 7; (with_reducible refine (KA.out _).mono ?_); rintro e w4 ⟨rfl, rfl⟩))
                go_ret
                exact ⟨rfl, hbb3⟩
            · have hy4 : y = 1 ∨ y = 3 := by omega
              clear hy3 hyo
              have hlaw := cases_law W0 hasc hesc x y hx4 hy4
              obtain ⟨hasc1, hlen1⟩ := cases_ascii W0 hasc x hx4
              have hone := fmt_one x hx4
              have KX := hid (fun (W : World) => textFormat_calls x W0 (by have := HW.out; omega) hasc W)
              have KY := hid (fun (W : World) => textFormat_calls y W0 (by have := HW.out; omega) hasc W)
              have KZ := hid (fun (W : World) => textFormat_calls y (fmtF x W0) (by rw [hlen1]; have := HW.out; omega) hasc1 W)
              have KO := hid (fun (W : World) => textFormat_calls x [49] (by decide) (by intro b hb; simp only [List.mem_singleton] at hb; subst hb; decide) W)
              rw [hlaw] at KZ
              rw [hone] at KO
              generalize fmtF x W0 = W1 at *
              generalize fmtF y W0 = W2 at *
              clear hlaw hasc1 hlen1 hone hesc hasc
              rcases hy4 with rfl | rfl <;> rcases hx4 with rfl | rfl | rfl
              all_goals
                go_enter Tryd.func3, Tryd.ntmps3
                go_wp2_with (first
                  | (go_at_call 5; (with_reducible refine KF.out.mono ?_); rintro e w1 ⟨rfl, hb1⟩)
                  | (go_at_call 6; (with_reducible refine (KC.out _ hb1).mono ?_); rintro e w2 ⟨hb2, vc, vo, rfl, hrc, hri⟩; have hbb2 := below_nextT hb1 hb2 hb1.size)
                  | (go_at_call 8; (with_reducible refine (KP.out _ hbb2).mono ?_); rintro e w3 ⟨rfl, hb3⟩; have hbb3 := below_nextT hbb2 hb3 hbb2.size)
                  | (go_at_call 7; (with_reducible refine (KA.out _).mono ?_); rintro e w4 ⟨rfl, rfl⟩)
                  | (go_at_call 9; first
                      | ((with_reducible refine (KO.out _).mono ?_); rintro e w8 ⟨rfl, hb8⟩)
                      | ((with_reducible refine (KZ.out _).mono ?_); rintro e w6 ⟨rfl, hb6⟩; have hbb6 := below_nextT hbb5 hb6 hbb5.size)
                      | ((with_reducible refine (KX.out _).mono ?_); rintro e w5 ⟨rfl, hb5⟩; have hbb5 := below_nextT hbb3 hb5 hbb3.size)
                      | ((with_reducible refine (KY.out _).mono ?_); rintro e w7 ⟨rfl, hb7⟩; have hbb7 := below_nextT hbb6 hb7 hbb6.size)))
                go_ret
                exact ⟨rfl, below_nextT hbb7 hb8 hbb7.size⟩
end Go.Proofs.YtfiokjdikhfcaaaDoor
