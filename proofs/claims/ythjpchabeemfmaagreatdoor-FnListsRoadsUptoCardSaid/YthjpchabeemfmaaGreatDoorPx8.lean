/- Printed by a program of this session (pf.sh): Go functions as Lean functions, with their contracts. -/
import Derived.Test.YthjpchabeemfmaaGreatDoorPx0
import Derived.Test.YthjpchabeemfmaaGreatDoorFf
import Derived.Test.YthjpchabeemfmaaGreatDoorFz
namespace Go.Proofs.YthjpchabeemfmaaGreatDoor.P
open Go.RowKit Go.Proofs.YthjpchabeemfmaaGreatDoorW.PrintWords Go.Proofs.YthjpchabeemfmaaGreatDoorW.PrintLast Go.Proofs.YthjpchabeemfmaaGreatDoorW.PrintMore
attribute [local go_sem] max2_int min2_int max_two min_two max_three min_three max_four min_four   -- for this text's walks alone
set_option linter.unusedVariables false
set_option linter.unusedSimpArgs false

/-! ### spec_LtMarkdownBack: function 13 -/
mutual
def spec_LtMarkdownBack.l0 : Nat → List (S42) → List ByteArray → Int → Int → Option ((List (S42)) × Bool)
  | 0, _, _, _, _ => none
  | k + 1, x4, x11, x12, x13 => if x13 < x12 then (if 0 ≤ x13 then (if x13 < (x11.length : Int) then (spec_LtMarkdownBack.l1 k x4 (rdOf ByteArray.empty x11 x13) 0 x11 x12 x13) else (none)) else (none)) else (some (x4, true))
def spec_LtMarkdownBack.l1 : Nat → List (S42) → ByteArray → Int → List ByteArray → Int → Int → Option ((List (S42)) × Bool)
  | 0, _, _, _, _, _, _ => none
  | k + 1, x4, x6, x7, x11, x12, x13 => if x7 < (x6.size : Int) then (if 0 ≤ x7 then (if (bt x6 x7) = 32 then (spec_LtMarkdownBack.l1 k x4 x6 (wrap64 (x7 + 1)) x11 x12 x13) else (if x7 ≤ (x6.size : Int) then ((spec_LsBegins.f (x6.extract (x7 : Int).toNat x6.size) (⟨#[42, 32]⟩ : ByteArray)).bind fun bt162 => (if bt162.2 = true then (if x7 < 2 then (some (([] : List (S42)), false)) else (if (Int.tmod x7 2) = 1 then (some (([] : List (S42)), false)) else (if x4.length < 5864062014805 then (spec_LtMarkdownBack.l0 k (x4 ++ [(⟨bt162.1, wrap64 ((wrap64 (Int.tdiv x7 2)) - 1)⟩ : S42)]) x11 x12 (wrap64 (x13 + 1))) else (none)))) else (some (([] : List (S42)), false)))) else (none))) else (none)) else (if 0 ≤ x7 then (if x7 ≤ (x6.size : Int) then ((spec_LsBegins.f (x6.extract (x7 : Int).toNat x6.size) (⟨#[42, 32]⟩ : ByteArray)).bind fun bt167 => (if bt167.2 = true then (if x7 < 2 then (some (([] : List (S42)), false)) else (if (Int.tmod x7 2) = 1 then (some (([] : List (S42)), false)) else (if x4.length < 5864062014805 then (spec_LtMarkdownBack.l0 k (x4 ++ [(⟨bt167.1, wrap64 ((wrap64 (Int.tdiv x7 2)) - 1)⟩ : S42)]) x11 x12 (wrap64 (x13 + 1))) else (none)))) else (some (([] : List (S42)), false)))) else (none)) else (none))
end
def spec_LtMarkdownBack.f (k : Nat) (a0 : ByteArray) : Option ((List (S42)) × Bool) := (spec_TxLines.f a0).bind fun t158 => (spec_LtMarkdownBack.l0 k ([] : List (S42)) t158 (t158.length : Int) 0)
theorem spec_LtMarkdownBack.mono_l : ∀ k, (∀ y0 y1 y2 y3, LeO (spec_LtMarkdownBack.l0 k y0 y1 y2 y3) (spec_LtMarkdownBack.l0 (k + 1) y0 y1 y2 y3)) ∧ (∀ y0 y1 y2 y3 y4 y5, LeO (spec_LtMarkdownBack.l1 k y0 y1 y2 y3 y4 y5) (spec_LtMarkdownBack.l1 (k + 1) y0 y1 y2 y3 y4 y5))
  | 0 => ⟨fun _ _ _ _ r h => by simp [spec_LtMarkdownBack.l0] at h, fun _ _ _ _ _ _ r h => by simp [spec_LtMarkdownBack.l1] at h⟩
  | k + 1 => by
    obtain ⟨ih0, ih1⟩ := spec_LtMarkdownBack.mono_l k
    refine ⟨?_, ?_⟩
    · intro y0 y1 y2 y3
      unfold spec_LtMarkdownBack.l0
      repeat' first
      | (with_reducible exact ih0 _ _ _ _)
      | (with_reducible exact ih1 _ _ _ _ _ _)
      | (with_reducible exact LeO.refl _)
      | (with_reducible exact LeO.none _)
      | (with_reducible refine LeO.ite ?_ ?_)
      | (with_reducible refine LeO.bind ?_ (fun _ => ?_))
      | exact ih0 _ _ _ _
      | exact ih1 _ _ _ _ _ _
      | exact LeO.none _
      | refine LeO.ite ?_ ?_
      | refine LeO.bind ?_ (fun _ => ?_)
    · intro y0 y1 y2 y3 y4 y5
      unfold spec_LtMarkdownBack.l1
      repeat' first
      | (with_reducible exact ih0 _ _ _ _)
      | (with_reducible exact ih1 _ _ _ _ _ _)
      | (with_reducible exact LeO.refl _)
      | (with_reducible exact LeO.none _)
      | (with_reducible refine LeO.ite ?_ ?_)
      | (with_reducible refine LeO.bind ?_ (fun _ => ?_))
      | exact ih0 _ _ _ _
      | exact ih1 _ _ _ _ _ _
      | exact LeO.none _
      | refine LeO.ite ?_ ?_
      | refine LeO.bind ?_ (fun _ => ?_)
theorem spec_LtMarkdownBack.mono : ∀ a0 k, LeO (spec_LtMarkdownBack.f k a0) (spec_LtMarkdownBack.f (k + 1) a0) := by
  intro a0 k
  obtain ⟨ih0, ih1⟩ := spec_LtMarkdownBack.mono_l k
  unfold spec_LtMarkdownBack.f
  repeat' first
      | (with_reducible exact ih0 _ _ _ _)
      | (with_reducible exact ih1 _ _ _ _ _ _)
      | (with_reducible exact LeO.refl _)
      | (with_reducible exact LeO.none _)
      | (with_reducible refine LeO.ite ?_ ?_)
      | (with_reducible refine LeO.bind ?_ (fun _ => ?_))
      | exact ih0 _ _ _ _
      | exact ih1 _ _ _ _ _ _
      | exact LeO.none _
      | refine LeO.ite ?_ ?_
      | refine LeO.bind ?_ (fun _ => ?_)
set_option maxHeartbeats 8000000 in
set_option maxRecDepth 100000 in
theorem spec_LtMarkdownBack.calls (k : Nat) (a0 : ByteArray) (r1 : List (S42)) (r2 : Bool) (w : World) (h : spec_LtMarkdownBack.f k a0 = some (r1, r2)) :
    Calls Tryz.prog 13 #[.string a0] w fun e w' => ∃ v0_ : Value, e = .returned (.tuple #[v0_, .bool r2]) ∧ Kd.R k42 42 w' w.heap.size (fun _ => True) v0_ r1 ∧ Below w.heap.size w w' := by
  have hu42 := Tryz.underlying42
  have HB := Aside0.mk (Below.refl w.heap.size w)
  have H : ((spec_TxLines.f a0).bind fun t158 => (spec_LtMarkdownBack.l0 k ([] : List (S42)) t158 (t158.length : Int) 0)) = some (r1, r2) := h
  clear h
  replace H := Option.bind_eq_some_iff.mp H
  obtain ⟨t158, A20, H⟩ := H
  replace H : (spec_LtMarkdownBack.l0 k ([] : List (S42)) t158 (t158.length : Int) 0) = some (r1, r2) := H
  have A2 := Aside0.mk A20
  clear A20
  have H' := Aside0.mk H
  clear H
  go_enter Tryz.func13, Tryz.ntmps13
  go_wp2_with (first | ((with_reducible refine gate_callee (f := 25) rfl ?_); refine goesL_ (some 11) rfl rfl Tryz.func25 (by kernel_rfl) rfl #[.string a0] rfl (by (try simp only [List.map_toArray, List.map_cons, List.map_nil]); first | done | rfl | (simp only [List.length_drop, List.length_take]; rfl)) ?_; (with_reducible refine (spec_TxLines.calls a0 t158 _ A2.out).mono ?_); rintro e w3 ⟨v159, rfl, ho0, hb⟩; refine ⟨_, rfl, ?_⟩; have n0_ := Aside0.mk (Kd.R_lower ho0 (below_size (by repeat (first | (with_reducible first | exact HB.out | apply below_alloc | apply pw_below_drewN | apply below_drew1) | exact HB.out)))); have n1_ := Aside0.mk (below_step (by repeat (first | (with_reducible first | exact HB.out | apply below_alloc | apply pw_below_drewN | apply below_drew1) | exact HB.out)) hb); clear HB; have HO160 := n0_; have HB := n1_; clear n0_ n1_; (try clear hb); (try clear hb2); (try clear hk); (try clear hi); (try clear ho0); obtain ⟨Ao4, co4, eo4⟩ := Kd.R_slice HO160.out; subst eo4))
  go_loopg [4, 13] k (fun kq v4 v13 w' => ∃ (x4_1 : List (S42)) (x13_1 : Int), v13 = .int .i64 x13_1 ∧ Aside0 (spec_LtMarkdownBack.l0 kq x4_1 t158 (t158.length : Int) x13_1 = some (r1, r2)) ∧ Aside0 (kq ≤ k) ∧ Aside0 (Kd.R k42 42 w' w.heap.size (fun _ => True) v4 x4_1) ∧ Aside0 (Kd.R Kd.string 9 w' w.heap.size (fun _ => True) (.slice Ao4 t158.length co4) t158) ∧ Aside0 (Below w.heap.size w w'))
  case atStart => exact ⟨(([] : List (S42))), (0), (by first | rfl | (simp; done) | (simp [*]; done)), H', ⟨Nat.le_refl _⟩, ⟨by first | exact Kd.R_nil _ _ _ _ _ | exact Kd.N_nil _ _ _ _ _ | exact Kd.V_nil _ _ _ _ _ | exact Kd.Q_nil _ _ _ _ _ | exact Kd.S_nil _ _ _ _ _⟩, ⟨by (with_reducible repeat (first | apply Kd.R_alloc | apply Kd.R_drewN | apply Kd.R_drew)); exact HO160.out⟩, ⟨by repeat (first | (with_reducible first | exact HB.out | apply below_alloc | apply pw_below_drewN | apply below_drew1) | exact HB.out)⟩⟩
  case round =>
    clear H'
    try clear c1
    try clear c2
    try clear p2
    obtain ⟨x4_1, x13_1, rfl, HA, HK1, HO_4, HO_11, HB⟩ := hrel
    cases gk with
    | zero => exact absurd HA.out (by simp [spec_LtMarkdownBack.l0])
    | succ k1 =>
      have H := HA.out
      clear HA
      simp only [spec_LtMarkdownBack.l0] at H
      by_cases c5 : x13_1 < (t158.length : Int)
      · rw [if_pos c5] at H
        have c5b0 : decide (x13_1 < (t158.length : Int)) = true := decide_eq_true c5
        clear c5
        by_cases c6 : 0 ≤ x13_1
        · rw [if_pos c6] at H
          have c6b0 : decide (0 ≤ x13_1) = true := decide_eq_true c6
          clear c6
          by_cases c7 : x13_1 < (t158.length : Int)
          · rw [if_pos c7] at H
            have c7b0 : decide (x13_1 < (t158.length : Int)) = true := decide_eq_true c7
            clear c7
            have H' := Aside0.mk H
            clear H
            have p161 : 0 ≤ (x13_1 : Int) := of_decide_eq_true (by first | (with_reducible assumption) | assumption)
            have q161 : x13_1 < (t158.length : Int) := of_decide_eq_true (by first | (with_reducible assumption) | assumption)
            obtain ⟨ad161, e161, hx161_0⟩ := Kd.at_string (Kd.R_reads' HO_11.out).2.2 x13_1 p161 q161
            cases e161
            replace p161 := eq_true p161
            replace q161 := eq_true q161
            go_wp2
            go_loopg [7] k1 (fun kq v7 w' => ∃ (x7_2 : Int), v7 = .int .i64 x7_2 ∧ Aside0 (spec_LtMarkdownBack.l1 kq x4_1 (rdOf ByteArray.empty t158 x13_1) x7_2 t158 (t158.length : Int) x13_1 = some (r1, r2)) ∧ Aside0 (kq ≤ k1) ∧ Aside0 (Kd.R k42 42 w' w.heap.size (fun _ => True) u4 x4_1) ∧ Aside0 (Kd.R Kd.string 9 w' w.heap.size (fun _ => True) (.slice (some ad161) t158.length co4) t158) ∧ Aside0 (Below w.heap.size w w'))
            case atStart => exact ⟨(0), (by first | rfl | (simp; done) | (simp [*]; done)), H', ⟨Nat.le_refl _⟩, ⟨by (with_reducible repeat (first | apply Kd.R_alloc | apply Kd.R_drewN | apply Kd.R_drew)); exact HO_4.out⟩, ⟨by (with_reducible repeat (first | apply Kd.R_alloc | apply Kd.R_drewN | apply Kd.R_drew)); exact HO_11.out⟩, ⟨by repeat (first | (with_reducible first | exact HB.out | apply below_alloc | apply pw_below_drewN | apply below_drew1) | exact HB.out)⟩⟩
            case round =>
              clear H'
              try clear c1
              try clear p1
              try clear q1
              try clear hx1
              try clear c2
              try clear p2
              try clear c5
              try clear c5b0
              try clear c6
              try clear c6b0
              try clear c7
              try clear c7b0
              try clear hx161_0
              try clear p161
              try clear p2
              try clear q161
              obtain ⟨x7_2, rfl, HA, HK2, HO_4, HO_11, HB⟩ := hrel
              cases gk with
              | zero => exact absurd HA.out (by simp [spec_LtMarkdownBack.l1])
              | succ k2 =>
                have H := HA.out
                clear HA
                simp only [spec_LtMarkdownBack.l1] at H
                by_cases c8 : x7_2 < ((rdOf ByteArray.empty t158 x13_1).size : Int)
                · rw [if_pos c8] at H
                  have c8b0 : decide (x7_2 < ((rdOf ByteArray.empty t158 x13_1).size : Int)) = true := decide_eq_true c8
                  clear c8
                  by_cases c9 : 0 ≤ x7_2
                  · rw [if_pos c9] at H
                    have c9b0 : decide (0 ≤ x7_2) = true := decide_eq_true c9
                    clear c9
                    by_cases c11 : (bt (rdOf ByteArray.empty t158 x13_1) x7_2) = 32
                    · rw [if_pos c11] at H
                      have c11b0 : ((bt (rdOf ByteArray.empty t158 x13_1) x7_2) == 32) = true := beq_iff_eq.mpr c11
                      have c11b1 : ((bt (rdOf ByteArray.empty t158 x13_1) x7_2) != 32) = false := bne_eq_false_iff_eq.mpr c11
                      clear c11
                      have H' := Aside0.mk H
                      clear H
                      have p10 : 0 ≤ (x7_2 : Int) := of_decide_eq_true (by first | (with_reducible assumption) | assumption)
                      have q10 : x7_2 < ((rdOf ByteArray.empty t158 x13_1).size : Int) := of_decide_eq_true (by first | (with_reducible assumption) | assumption)
                      have hx10 := bt_at (rdOf ByteArray.empty t158 x13_1) x7_2
                      replace p10 := eq_true p10
                      replace q10 := eq_true q10
                      go_wp2
                      go_roundg k2
                      case measure => have := HK1.out; have := HK2.out; omega
                      case rel => exact ⟨(wrap64 (x7_2 + 1)), (by first | rfl | (simp; done) | (simp [*]; done)), H', ⟨by have := HK1.out; have := HK2.out; omega⟩, ⟨by (with_reducible repeat (first | apply Kd.R_alloc | apply Kd.R_drewN | apply Kd.R_drew)); exact HO_4.out⟩, ⟨by (with_reducible repeat (first | apply Kd.R_alloc | apply Kd.R_drewN | apply Kd.R_drew)); exact HO_11.out⟩, ⟨by repeat (first | (with_reducible first | exact HB.out | apply below_alloc | apply pw_below_drewN | apply below_drew1) | exact HB.out)⟩⟩
                    · rw [if_neg c11] at H
                      have c11b0 : ((bt (rdOf ByteArray.empty t158 x13_1) x7_2) == 32) = false := beq_eq_false_iff_ne.mpr c11
                      have c11b1 : ((bt (rdOf ByteArray.empty t158 x13_1) x7_2) != 32) = true := bne_iff_ne.mpr c11
                      have c12b0 := eq_true (of_decide_eq_true (by first | (with_reducible assumption) | assumption) : 0 ≤ x7_2)
                      by_cases c13 : x7_2 ≤ ((rdOf ByteArray.empty t158 x13_1).size : Int)
                      · rw [if_pos c13] at H
                        have c13b0 := eq_true c13
                        have c13b1 : decide (x7_2 ≤ ((rdOf ByteArray.empty t158 x13_1).size : Int)) = true := decide_eq_true c13
                        clear c13
                        replace H := Option.bind_eq_some_iff.mp H
                        obtain ⟨⟨t162, t163⟩, A140, H⟩ := H
                        replace H : (if t163 = true then (if x7_2 < 2 then (some (([] : List (S42)), false)) else (if (Int.tmod x7_2 2) = 1 then (some (([] : List (S42)), false)) else (if x4_1.length < 5864062014805 then (spec_LtMarkdownBack.l0 k2 (x4_1 ++ [(⟨t162, wrap64 ((wrap64 (Int.tdiv x7_2 2)) - 1)⟩ : S42)]) t158 (t158.length : Int) (wrap64 (x13_1 + 1))) else (none)))) else (some (([] : List (S42)), false))) = some (r1, r2) := H
                        have A14 := Aside0.mk A140
                        clear A140
                        by_cases c15 : t163 = true
                        · subst c15
                          have H1 : (if x7_2 < 2 then (some (([] : List (S42)), false)) else (if (Int.tmod x7_2 2) = 1 then (some (([] : List (S42)), false)) else (if x4_1.length < 5864062014805 then (spec_LtMarkdownBack.l0 k2 (x4_1 ++ [(⟨t162, wrap64 ((wrap64 (Int.tdiv x7_2 2)) - 1)⟩ : S42)]) t158 (t158.length : Int) (wrap64 (x13_1 + 1))) else (none)))) = some (r1, r2) := by rw [if_pos rfl] at H; exact H
                          clear H
                          have H := H1
                          clear H1
                          by_cases c16 : x7_2 < 2
                          · rw [if_pos c16] at H
                            have c16b0 : decide (x7_2 < 2) = true := decide_eq_true c16
                            clear c16
                            simp only [Option.some.injEq, Prod.mk.injEq] at H
                            obtain ⟨rfl, rfl⟩ := H
                            have p10 : 0 ≤ (x7_2 : Int) := of_decide_eq_true (by first | (with_reducible assumption) | assumption)
                            have q10 : x7_2 < ((rdOf ByteArray.empty t158 x13_1).size : Int) := of_decide_eq_true (by first | (with_reducible assumption) | assumption)
                            have hx10 := bt_at (rdOf ByteArray.empty t158 x13_1) x7_2
                            replace p10 := eq_true p10
                            replace q10 := eq_true q10
                            go_wp2_with (first | ((with_reducible refine gate_callee (f := 22) rfl ?_); refine goesL_ (some 33) rfl rfl Tryz.func22 (by kernel_rfl) rfl #[.string ((rdOf ByteArray.empty t158 x13_1).extract (x7_2 : Int).toNat (rdOf ByteArray.empty t158 x13_1).size), .string (⟨#[42, 32]⟩ : ByteArray)] rfl (by (try simp only [List.map_toArray, List.map_cons, List.map_nil]); first | done | rfl | (simp only [List.length_drop, List.length_take]; rfl)) ?_; (with_reducible refine (spec_LsBegins.calls ((rdOf ByteArray.empty t158 x13_1).extract (x7_2 : Int).toNat (rdOf ByteArray.empty t158 x13_1).size) (⟨#[42, 32]⟩ : ByteArray) t162 true _ A14.out).mono ?_); rintro e w' ⟨rfl, ⟨nd, rfl⟩⟩; refine ⟨_, rfl, ?_⟩))
                            go_ret2
                            exact ⟨_, by first | rfl | (simp [errW_none, errW_some] <;> rfl) | (simp [*, errW_none, errW_some] <;> rfl), by first | exact Kd.R_nil _ _ _ _ _ | exact Kd.N_nil _ _ _ _ _ | exact Kd.V_nil _ _ _ _ _ | exact Kd.Q_nil _ _ _ _ _ | exact Kd.S_nil _ _ _ _ _, by repeat (first | (with_reducible first | exact HB.out | apply below_alloc | apply pw_below_drewN | apply below_drew1) | exact HB.out)⟩
                          · rw [if_neg c16] at H
                            have c16b0 : decide (x7_2 < 2) = false := decide_eq_false c16
                            clear c16
                            by_cases c17 : (Int.tmod x7_2 2) = 1
                            · rw [if_pos c17] at H
                              have c17b0 : ((Int.tmod x7_2 2) == 1) = true := beq_iff_eq.mpr c17
                              have c17b1 : ((Int.tmod x7_2 2) != 1) = false := bne_eq_false_iff_eq.mpr c17
                              clear c17
                              simp only [Option.some.injEq, Prod.mk.injEq] at H
                              obtain ⟨rfl, rfl⟩ := H
                              have p10 : 0 ≤ (x7_2 : Int) := of_decide_eq_true (by first | (with_reducible assumption) | assumption)
                              have q10 : x7_2 < ((rdOf ByteArray.empty t158 x13_1).size : Int) := of_decide_eq_true (by first | (with_reducible assumption) | assumption)
                              have hx10 := bt_at (rdOf ByteArray.empty t158 x13_1) x7_2
                              replace p10 := eq_true p10
                              replace q10 := eq_true q10
                              go_wp2_with (first | ((with_reducible refine gate_callee (f := 22) rfl ?_); refine goesL_ (some 33) rfl rfl Tryz.func22 (by kernel_rfl) rfl #[.string ((rdOf ByteArray.empty t158 x13_1).extract (x7_2 : Int).toNat (rdOf ByteArray.empty t158 x13_1).size), .string (⟨#[42, 32]⟩ : ByteArray)] rfl (by (try simp only [List.map_toArray, List.map_cons, List.map_nil]); first | done | rfl | (simp only [List.length_drop, List.length_take]; rfl)) ?_; (with_reducible refine (spec_LsBegins.calls ((rdOf ByteArray.empty t158 x13_1).extract (x7_2 : Int).toNat (rdOf ByteArray.empty t158 x13_1).size) (⟨#[42, 32]⟩ : ByteArray) t162 true _ A14.out).mono ?_); rintro e w' ⟨rfl, ⟨nd, rfl⟩⟩; refine ⟨_, rfl, ?_⟩))
                              go_ret2
                              exact ⟨_, by first | rfl | (simp [errW_none, errW_some] <;> rfl) | (simp [*, errW_none, errW_some] <;> rfl), by first | exact Kd.R_nil _ _ _ _ _ | exact Kd.N_nil _ _ _ _ _ | exact Kd.V_nil _ _ _ _ _ | exact Kd.Q_nil _ _ _ _ _ | exact Kd.S_nil _ _ _ _ _, by repeat (first | (with_reducible first | exact HB.out | apply below_alloc | apply pw_below_drewN | apply below_drew1) | exact HB.out)⟩
                            · rw [if_neg c17] at H
                              have c17b0 : ((Int.tmod x7_2 2) == 1) = false := beq_eq_false_iff_ne.mpr c17
                              have c17b1 : ((Int.tmod x7_2 2) != 1) = true := bne_iff_ne.mpr c17
                              by_cases c18 : x4_1.length < 5864062014805
                              · rw [if_pos c18] at H
                                have LMc18 := Aside0.mk c18
                                clear c18
                                obtain ⟨y164, hy164⟩ : ∃ y_ : List (S42), y_ = (x4_1 ++ [(⟨t162, wrap64 ((wrap64 (Int.tdiv x7_2 2)) - 1)⟩ : S42)]) := ⟨_, rfl⟩
                                replace H : (spec_LtMarkdownBack.l0 k2 y164 t158 (t158.length : Int) (wrap64 (x13_1 + 1))) = some (r1, r2) := by first | (rw [hy164]; with_reducible exact H) | (have H2_ := (Option.bind_some _ _).symm.trans H; rw [hy164]; with_reducible exact H2_) | (have H2_ := (Option.bind_some _ _).symm.trans H; with_reducible exact H2_) | with_reducible exact H | (rw [hy164]; exact H) | exact H
                                have Ny164 := Aside0.mk hy164
                                clear hy164
                                have H' := Aside0.mk H
                                clear H
                                have p10 : 0 ≤ (x7_2 : Int) := of_decide_eq_true (by first | (with_reducible assumption) | assumption)
                                have q10 : x7_2 < ((rdOf ByteArray.empty t158 x13_1).size : Int) := of_decide_eq_true (by first | (with_reducible assumption) | assumption)
                                have hx10 := bt_at (rdOf ByteArray.empty t158 x13_1) x7_2
                                replace p10 := eq_true p10
                                replace q10 := eq_true q10
                                go_wp2_with (first | ((with_reducible refine gate_callee (f := 22) rfl ?_); refine goesL_ (some 33) rfl rfl Tryz.func22 (by kernel_rfl) rfl #[.string ((rdOf ByteArray.empty t158 x13_1).extract (x7_2 : Int).toNat (rdOf ByteArray.empty t158 x13_1).size), .string (⟨#[42, 32]⟩ : ByteArray)] rfl (by (try simp only [List.map_toArray, List.map_cons, List.map_nil]); first | done | rfl | (simp only [List.length_drop, List.length_take]; rfl)) ?_; (with_reducible refine (spec_LsBegins.calls ((rdOf ByteArray.empty t158 x13_1).extract (x7_2 : Int).toNat (rdOf ByteArray.empty t158 x13_1).size) (⟨#[42, 32]⟩ : ByteArray) t162 true _ A14.out).mono ?_); rintro e w' ⟨rfl, ⟨nd, rfl⟩⟩; refine ⟨_, rfl, ?_⟩) | ((with_reducible refine gate_builtin (b := .append) (xs := #[.tmp 47, .tmp 53]) rfl ?_); at_builtin; refine Kd.R_append k42 (w0 := w) w.heap.size rfl (.tmp 47) (.tmp 53) 27 42 (.agg #[(.string ⟨#[]⟩), (.int .i64 0)]) 24 rfl Tryz.underlying27 info42 rfl (by decide) (by omega) u4 x4_1 (⟨t162, wrap64 ((wrap64 (Int.tdiv x7_2 2)) - 1)⟩ : S42) [.string t162, .int .i64 (wrap64 ((wrap64 (Int.tdiv x7_2 2)) - 1))] (fun _ => True) (fun _ => False) rfl rfl ?aP (fun _ hk => hk.elim) ?aF ?aO ?aB ?aS ?aL ?_; (case aP => exact k42_mkM _ _ _ (⟨t162, wrap64 ((wrap64 (Int.tdiv x7_2 2)) - 1)⟩ : S42)); (case aB => exact (by repeat (first | (with_reducible first | exact HB.out | apply below_alloc | apply pw_below_drewN | apply below_drew1) | exact HB.out))); (case aF => exact (fun _ _ => trivial)); (case aO => exact (by (with_reducible repeat (first | apply Kd.R_alloc | apply Kd.R_drewN | apply Kd.R_drew)); exact HO_4.out)); (case aS => exact (below_size (by repeat (first | (with_reducible first | exact HB.out | apply below_alloc | apply pw_below_drewN | apply below_drew1) | exact HB.out)))); (case aL => have := LMc18.out; omega); intro v165 w19 ho hb hg hat; rw [← Ny164.out] at ho; have n0_ := Aside0.mk (Kd.R_over' (by (with_reducible repeat (first | apply Kd.R_alloc | apply Kd.R_drewN | apply Kd.R_drew)); exact HO_11.out) (Kd.R_typed (by (with_reducible repeat (first | apply Kd.R_alloc | apply Kd.R_drewN | apply Kd.R_drew)); exact HO_4.out)) (by decide) hg); have n1_ := Aside0.mk (hb); have n2_ := Aside0.mk (ho); clear HO_11; clear HB; clear HO_4; have HO_11 := n0_; have HB := n1_; have HO166 := n2_; clear n0_ n1_ n2_; clear ho hb hg hat))
                                go_roundg k2
                                case measure => have := HK1.out; have := HK2.out; omega
                                case rel => exact ⟨(y164), (wrap64 (x13_1 + 1)), (by first | rfl | (simp; done) | (simp [*]; done)), H', ⟨by have := HK1.out; have := HK2.out; omega⟩, ⟨by (with_reducible repeat (first | apply Kd.R_alloc | apply Kd.R_drewN | apply Kd.R_drew)); exact HO166.out⟩, ⟨by (with_reducible repeat (first | apply Kd.R_alloc | apply Kd.R_drewN | apply Kd.R_drew)); exact HO_11.out⟩, ⟨by repeat (first | (with_reducible first | exact HB.out | apply below_alloc | apply pw_below_drewN | apply below_drew1) | exact HB.out)⟩⟩
                              · rw [if_neg c18] at H
                                exact absurd H (by simp)
                        · replace c15 := Bool.eq_false_iff.mpr c15
                          subst c15
                          have H1 : (some (([] : List (S42)), false)) = some (r1, r2) := by rw [if_neg (show ¬ (false = true) by decide)] at H; exact H
                          clear H
                          have H := H1
                          clear H1
                          simp only [Option.some.injEq, Prod.mk.injEq] at H
                          obtain ⟨rfl, rfl⟩ := H
                          have p10 : 0 ≤ (x7_2 : Int) := of_decide_eq_true (by first | (with_reducible assumption) | assumption)
                          have q10 : x7_2 < ((rdOf ByteArray.empty t158 x13_1).size : Int) := of_decide_eq_true (by first | (with_reducible assumption) | assumption)
                          have hx10 := bt_at (rdOf ByteArray.empty t158 x13_1) x7_2
                          replace p10 := eq_true p10
                          replace q10 := eq_true q10
                          go_wp2_with (first | ((with_reducible refine gate_callee (f := 22) rfl ?_); refine goesL_ (some 33) rfl rfl Tryz.func22 (by kernel_rfl) rfl #[.string ((rdOf ByteArray.empty t158 x13_1).extract (x7_2 : Int).toNat (rdOf ByteArray.empty t158 x13_1).size), .string (⟨#[42, 32]⟩ : ByteArray)] rfl (by (try simp only [List.map_toArray, List.map_cons, List.map_nil]); first | done | rfl | (simp only [List.length_drop, List.length_take]; rfl)) ?_; (with_reducible refine (spec_LsBegins.calls ((rdOf ByteArray.empty t158 x13_1).extract (x7_2 : Int).toNat (rdOf ByteArray.empty t158 x13_1).size) (⟨#[42, 32]⟩ : ByteArray) t162 false _ A14.out).mono ?_); rintro e w' ⟨rfl, ⟨nd, rfl⟩⟩; refine ⟨_, rfl, ?_⟩))
                          go_ret2
                          exact ⟨_, by first | rfl | (simp [errW_none, errW_some] <;> rfl) | (simp [*, errW_none, errW_some] <;> rfl), by first | exact Kd.R_nil _ _ _ _ _ | exact Kd.N_nil _ _ _ _ _ | exact Kd.V_nil _ _ _ _ _ | exact Kd.Q_nil _ _ _ _ _ | exact Kd.S_nil _ _ _ _ _, by repeat (first | (with_reducible first | exact HB.out | apply below_alloc | apply pw_below_drewN | apply below_drew1) | exact HB.out)⟩
                      · rw [if_neg c13] at H
                        exact absurd H (by simp)
                  · rw [if_neg c9] at H
                    exact absurd H (by simp)
                · rw [if_neg c8] at H
                  have c8b0 : decide (x7_2 < ((rdOf ByteArray.empty t158 x13_1).size : Int)) = false := decide_eq_false c8
                  clear c8
                  by_cases c20 : 0 ≤ x7_2
                  · rw [if_pos c20] at H
                    have c20b0 := eq_true c20
                    have c20b1 : decide (0 ≤ x7_2) = true := decide_eq_true c20
                    clear c20
                    by_cases c21 : x7_2 ≤ ((rdOf ByteArray.empty t158 x13_1).size : Int)
                    · rw [if_pos c21] at H
                      have c21b0 := eq_true c21
                      have c21b1 : decide (x7_2 ≤ ((rdOf ByteArray.empty t158 x13_1).size : Int)) = true := decide_eq_true c21
                      clear c21
                      replace H := Option.bind_eq_some_iff.mp H
                      obtain ⟨⟨t167, t168⟩, A220, H⟩ := H
                      replace H : (if t168 = true then (if x7_2 < 2 then (some (([] : List (S42)), false)) else (if (Int.tmod x7_2 2) = 1 then (some (([] : List (S42)), false)) else (if x4_1.length < 5864062014805 then (spec_LtMarkdownBack.l0 k2 (x4_1 ++ [(⟨t167, wrap64 ((wrap64 (Int.tdiv x7_2 2)) - 1)⟩ : S42)]) t158 (t158.length : Int) (wrap64 (x13_1 + 1))) else (none)))) else (some (([] : List (S42)), false))) = some (r1, r2) := H
                      have A22 := Aside0.mk A220
                      clear A220
                      by_cases c23 : t168 = true
                      · subst c23
                        have H1 : (if x7_2 < 2 then (some (([] : List (S42)), false)) else (if (Int.tmod x7_2 2) = 1 then (some (([] : List (S42)), false)) else (if x4_1.length < 5864062014805 then (spec_LtMarkdownBack.l0 k2 (x4_1 ++ [(⟨t167, wrap64 ((wrap64 (Int.tdiv x7_2 2)) - 1)⟩ : S42)]) t158 (t158.length : Int) (wrap64 (x13_1 + 1))) else (none)))) = some (r1, r2) := by rw [if_pos rfl] at H; exact H
                        clear H
                        have H := H1
                        clear H1
                        by_cases c24 : x7_2 < 2
                        · rw [if_pos c24] at H
                          have c24b0 : decide (x7_2 < 2) = true := decide_eq_true c24
                          clear c24
                          simp only [Option.some.injEq, Prod.mk.injEq] at H
                          obtain ⟨rfl, rfl⟩ := H
                          go_wp2_with (first | ((with_reducible refine gate_callee (f := 22) rfl ?_); refine goesL_ (some 33) rfl rfl Tryz.func22 (by kernel_rfl) rfl #[.string ((rdOf ByteArray.empty t158 x13_1).extract (x7_2 : Int).toNat (rdOf ByteArray.empty t158 x13_1).size), .string (⟨#[42, 32]⟩ : ByteArray)] rfl (by (try simp only [List.map_toArray, List.map_cons, List.map_nil]); first | done | rfl | (simp only [List.length_drop, List.length_take]; rfl)) ?_; (with_reducible refine (spec_LsBegins.calls ((rdOf ByteArray.empty t158 x13_1).extract (x7_2 : Int).toNat (rdOf ByteArray.empty t158 x13_1).size) (⟨#[42, 32]⟩ : ByteArray) t167 true _ A22.out).mono ?_); rintro e w' ⟨rfl, ⟨nd, rfl⟩⟩; refine ⟨_, rfl, ?_⟩))
                          go_ret2
                          exact ⟨_, by first | rfl | (simp [errW_none, errW_some] <;> rfl) | (simp [*, errW_none, errW_some] <;> rfl), by first | exact Kd.R_nil _ _ _ _ _ | exact Kd.N_nil _ _ _ _ _ | exact Kd.V_nil _ _ _ _ _ | exact Kd.Q_nil _ _ _ _ _ | exact Kd.S_nil _ _ _ _ _, by repeat (first | (with_reducible first | exact HB.out | apply below_alloc | apply pw_below_drewN | apply below_drew1) | exact HB.out)⟩
                        · rw [if_neg c24] at H
                          have c24b0 : decide (x7_2 < 2) = false := decide_eq_false c24
                          clear c24
                          by_cases c25 : (Int.tmod x7_2 2) = 1
                          · rw [if_pos c25] at H
                            have c25b0 : ((Int.tmod x7_2 2) == 1) = true := beq_iff_eq.mpr c25
                            have c25b1 : ((Int.tmod x7_2 2) != 1) = false := bne_eq_false_iff_eq.mpr c25
                            clear c25
                            simp only [Option.some.injEq, Prod.mk.injEq] at H
                            obtain ⟨rfl, rfl⟩ := H
                            go_wp2_with (first | ((with_reducible refine gate_callee (f := 22) rfl ?_); refine goesL_ (some 33) rfl rfl Tryz.func22 (by kernel_rfl) rfl #[.string ((rdOf ByteArray.empty t158 x13_1).extract (x7_2 : Int).toNat (rdOf ByteArray.empty t158 x13_1).size), .string (⟨#[42, 32]⟩ : ByteArray)] rfl (by (try simp only [List.map_toArray, List.map_cons, List.map_nil]); first | done | rfl | (simp only [List.length_drop, List.length_take]; rfl)) ?_; (with_reducible refine (spec_LsBegins.calls ((rdOf ByteArray.empty t158 x13_1).extract (x7_2 : Int).toNat (rdOf ByteArray.empty t158 x13_1).size) (⟨#[42, 32]⟩ : ByteArray) t167 true _ A22.out).mono ?_); rintro e w' ⟨rfl, ⟨nd, rfl⟩⟩; refine ⟨_, rfl, ?_⟩))
                            go_ret2
                            exact ⟨_, by first | rfl | (simp [errW_none, errW_some] <;> rfl) | (simp [*, errW_none, errW_some] <;> rfl), by first | exact Kd.R_nil _ _ _ _ _ | exact Kd.N_nil _ _ _ _ _ | exact Kd.V_nil _ _ _ _ _ | exact Kd.Q_nil _ _ _ _ _ | exact Kd.S_nil _ _ _ _ _, by repeat (first | (with_reducible first | exact HB.out | apply below_alloc | apply pw_below_drewN | apply below_drew1) | exact HB.out)⟩
                          · rw [if_neg c25] at H
                            have c25b0 : ((Int.tmod x7_2 2) == 1) = false := beq_eq_false_iff_ne.mpr c25
                            have c25b1 : ((Int.tmod x7_2 2) != 1) = true := bne_iff_ne.mpr c25
                            by_cases c26 : x4_1.length < 5864062014805
                            · rw [if_pos c26] at H
                              have LMc26 := Aside0.mk c26
                              clear c26
                              obtain ⟨y169, hy169⟩ : ∃ y_ : List (S42), y_ = (x4_1 ++ [(⟨t167, wrap64 ((wrap64 (Int.tdiv x7_2 2)) - 1)⟩ : S42)]) := ⟨_, rfl⟩
                              replace H : (spec_LtMarkdownBack.l0 k2 y169 t158 (t158.length : Int) (wrap64 (x13_1 + 1))) = some (r1, r2) := by first | (rw [hy169]; with_reducible exact H) | (have H2_ := (Option.bind_some _ _).symm.trans H; rw [hy169]; with_reducible exact H2_) | (have H2_ := (Option.bind_some _ _).symm.trans H; with_reducible exact H2_) | with_reducible exact H | (rw [hy169]; exact H) | exact H
                              have Ny169 := Aside0.mk hy169
                              clear hy169
                              have H' := Aside0.mk H
                              clear H
                              go_wp2_with (first | ((with_reducible refine gate_callee (f := 22) rfl ?_); refine goesL_ (some 33) rfl rfl Tryz.func22 (by kernel_rfl) rfl #[.string ((rdOf ByteArray.empty t158 x13_1).extract (x7_2 : Int).toNat (rdOf ByteArray.empty t158 x13_1).size), .string (⟨#[42, 32]⟩ : ByteArray)] rfl (by (try simp only [List.map_toArray, List.map_cons, List.map_nil]); first | done | rfl | (simp only [List.length_drop, List.length_take]; rfl)) ?_; (with_reducible refine (spec_LsBegins.calls ((rdOf ByteArray.empty t158 x13_1).extract (x7_2 : Int).toNat (rdOf ByteArray.empty t158 x13_1).size) (⟨#[42, 32]⟩ : ByteArray) t167 true _ A22.out).mono ?_); rintro e w' ⟨rfl, ⟨nd, rfl⟩⟩; refine ⟨_, rfl, ?_⟩) | ((with_reducible refine gate_builtin (b := .append) (xs := #[.tmp 47, .tmp 53]) rfl ?_); at_builtin; refine Kd.R_append k42 (w0 := w) w.heap.size rfl (.tmp 47) (.tmp 53) 27 42 (.agg #[(.string ⟨#[]⟩), (.int .i64 0)]) 24 rfl Tryz.underlying27 info42 rfl (by decide) (by omega) u4 x4_1 (⟨t167, wrap64 ((wrap64 (Int.tdiv x7_2 2)) - 1)⟩ : S42) [.string t167, .int .i64 (wrap64 ((wrap64 (Int.tdiv x7_2 2)) - 1))] (fun _ => True) (fun _ => False) rfl rfl ?aP (fun _ hk => hk.elim) ?aF ?aO ?aB ?aS ?aL ?_; (case aP => exact k42_mkM _ _ _ (⟨t167, wrap64 ((wrap64 (Int.tdiv x7_2 2)) - 1)⟩ : S42)); (case aB => exact (by repeat (first | (with_reducible first | exact HB.out | apply below_alloc | apply pw_below_drewN | apply below_drew1) | exact HB.out))); (case aF => exact (fun _ _ => trivial)); (case aO => exact (by (with_reducible repeat (first | apply Kd.R_alloc | apply Kd.R_drewN | apply Kd.R_drew)); exact HO_4.out)); (case aS => exact (below_size (by repeat (first | (with_reducible first | exact HB.out | apply below_alloc | apply pw_below_drewN | apply below_drew1) | exact HB.out)))); (case aL => have := LMc26.out; omega); intro v170 w27 ho hb hg hat; rw [← Ny169.out] at ho; have n0_ := Aside0.mk (Kd.R_over' (by (with_reducible repeat (first | apply Kd.R_alloc | apply Kd.R_drewN | apply Kd.R_drew)); exact HO_11.out) (Kd.R_typed (by (with_reducible repeat (first | apply Kd.R_alloc | apply Kd.R_drewN | apply Kd.R_drew)); exact HO_4.out)) (by decide) hg); have n1_ := Aside0.mk (hb); have n2_ := Aside0.mk (ho); clear HO_11; clear HB; clear HO_4; have HO_11 := n0_; have HB := n1_; have HO171 := n2_; clear n0_ n1_ n2_; clear ho hb hg hat))
                              go_roundg k2
                              case measure => have := HK1.out; have := HK2.out; omega
                              case rel => exact ⟨(y169), (wrap64 (x13_1 + 1)), (by first | rfl | (simp; done) | (simp [*]; done)), H', ⟨by have := HK1.out; have := HK2.out; omega⟩, ⟨by (with_reducible repeat (first | apply Kd.R_alloc | apply Kd.R_drewN | apply Kd.R_drew)); exact HO171.out⟩, ⟨by (with_reducible repeat (first | apply Kd.R_alloc | apply Kd.R_drewN | apply Kd.R_drew)); exact HO_11.out⟩, ⟨by repeat (first | (with_reducible first | exact HB.out | apply below_alloc | apply pw_below_drewN | apply below_drew1) | exact HB.out)⟩⟩
                            · rw [if_neg c26] at H
                              exact absurd H (by simp)
                      · replace c23 := Bool.eq_false_iff.mpr c23
                        subst c23
                        have H1 : (some (([] : List (S42)), false)) = some (r1, r2) := by rw [if_neg (show ¬ (false = true) by decide)] at H; exact H
                        clear H
                        have H := H1
                        clear H1
                        simp only [Option.some.injEq, Prod.mk.injEq] at H
                        obtain ⟨rfl, rfl⟩ := H
                        go_wp2_with (first | ((with_reducible refine gate_callee (f := 22) rfl ?_); refine goesL_ (some 33) rfl rfl Tryz.func22 (by kernel_rfl) rfl #[.string ((rdOf ByteArray.empty t158 x13_1).extract (x7_2 : Int).toNat (rdOf ByteArray.empty t158 x13_1).size), .string (⟨#[42, 32]⟩ : ByteArray)] rfl (by (try simp only [List.map_toArray, List.map_cons, List.map_nil]); first | done | rfl | (simp only [List.length_drop, List.length_take]; rfl)) ?_; (with_reducible refine (spec_LsBegins.calls ((rdOf ByteArray.empty t158 x13_1).extract (x7_2 : Int).toNat (rdOf ByteArray.empty t158 x13_1).size) (⟨#[42, 32]⟩ : ByteArray) t167 false _ A22.out).mono ?_); rintro e w' ⟨rfl, ⟨nd, rfl⟩⟩; refine ⟨_, rfl, ?_⟩))
                        go_ret2
                        exact ⟨_, by first | rfl | (simp [errW_none, errW_some] <;> rfl) | (simp [*, errW_none, errW_some] <;> rfl), by first | exact Kd.R_nil _ _ _ _ _ | exact Kd.N_nil _ _ _ _ _ | exact Kd.V_nil _ _ _ _ _ | exact Kd.Q_nil _ _ _ _ _ | exact Kd.S_nil _ _ _ _ _, by repeat (first | (with_reducible first | exact HB.out | apply below_alloc | apply pw_below_drewN | apply below_drew1) | exact HB.out)⟩
                    · rw [if_neg c21] at H
                      exact absurd H (by simp)
                  · rw [if_neg c20] at H
                    exact absurd H (by simp)
          · rw [if_neg c7] at H
            exact absurd H (by simp)
        · rw [if_neg c6] at H
          exact absurd H (by simp)
      · rw [if_neg c5] at H
        have c5b0 : decide (x13_1 < (t158.length : Int)) = false := decide_eq_false c5
        clear c5
        simp only [Option.some.injEq, Prod.mk.injEq] at H
        obtain ⟨rfl, rfl⟩ := H
        go_wp2
        go_ret2
        exact ⟨_, by first | rfl | (simp [errW_none, errW_some] <;> rfl) | (simp [*, errW_none, errW_some] <;> rfl), by (with_reducible repeat (first | apply Kd.R_alloc | apply Kd.R_drewN | apply Kd.R_drew)); exact HO_4.out, by repeat (first | (with_reducible first | exact HB.out | apply below_alloc | apply pw_below_drewN | apply below_drew1) | exact HB.out)⟩

-- FOREIGN: function 14 (impl_ListMarkdown)

/-! ### spec_LtHTMLBack: function 15 -/
mutual
def spec_LtHTMLBack.l0 : Nat → List (S42) → Int → List ByteArray → Int → Int → Option ((List (S42)) × Bool)
  | 0, _, _, _, _, _ => none
  | k + 1, x4, x5, x14, x15, x16 => if x16 < x15 then (if 0 ≤ x16 then (if x16 < (x14.length : Int) then (spec_LtHTMLBack.l1 k x4 x5 (rdOf ByteArray.empty x14 x16) x14 x15 x16) else (none)) else (none)) else (some (x4, (x5 == (-1))))
def spec_LtHTMLBack.j2 : Nat → List (S42) → Int → ByteArray → List ByteArray → Int → Int → Option ((List (S42)) × Bool)
  | 0, _, _, _, _, _, _ => none
  | k + 1, x4, x5, x8, x14, x15, x16 => (spec_LsBegins.f x8 (⟨#[60, 117, 108, 32]⟩ : ByteArray)).bind fun bt176 => (if bt176.2 = true then (spec_LtHTMLBack.l0 k x4 (wrap64 (x5 + 1)) x14 x15 (wrap64 (x16 + 1))) else (if x8.toList = ([60, 47, 117, 108, 62] : List UInt8) then (spec_LtHTMLBack.l0 k x4 (wrap64 (x5 - 1)) x14 x15 (wrap64 (x16 + 1))) else ((spec_LsBegins.f x8 (⟨#[60, 108, 105, 62]⟩ : ByteArray)).bind fun bt178 => (if bt178.2 = true then (if (bt178.1.size : Int) < 5 then (some (([] : List (S42)), false)) else (if 0 ≤ (wrap64 ((bt178.1.size : Int) - 5)) then (if (wrap64 ((bt178.1.size : Int) - 5)) ≤ (bt178.1.size : Int) then (if (bt178.1.extract ((wrap64 ((bt178.1.size : Int) - 5)) : Int).toNat bt178.1.size).toList = ([60, 47, 108, 105, 62] : List UInt8) then (if x4.length < 5864062014805 then (spec_LtHTMLBack.l0 k (x4 ++ [(⟨bt178.1.extract 0 ((wrap64 ((bt178.1.size : Int) - 5)) : Int).toNat, x5⟩ : S42)]) x5 x14 x15 (wrap64 (x16 + 1))) else (none)) else (some (([] : List (S42)), false))) else (none)) else (none))) else (some (([] : List (S42)), false))))))
def spec_LtHTMLBack.l1 : Nat → List (S42) → Int → ByteArray → List ByteArray → Int → Int → Option ((List (S42)) × Bool)
  | 0, _, _, _, _, _, _ => none
  | k + 1, x4, x5, x8, x14, x15, x16 => if x8.toList = ([] : List UInt8) then (spec_LtHTMLBack.j2 k x4 x5 x8 x14 x15 x16) else (if 0 < (x8.size : Int) then (if (bt x8 0) = 32 then (if 1 ≤ (x8.size : Int) then (spec_LtHTMLBack.l1 k x4 x5 (x8.extract 1 x8.size) x14 x15 x16) else (none)) else (spec_LtHTMLBack.j2 k x4 x5 x8 x14 x15 x16)) else (none))
end
def spec_LtHTMLBack.f (k : Nat) (a0 : ByteArray) : Option ((List (S42)) × Bool) := (spec_TxLines.f a0).bind fun t172 => (spec_LtHTMLBack.l0 k ([] : List (S42)) (-1) t172 (t172.length : Int) 0)
theorem spec_LtHTMLBack.mono_l : ∀ k, (∀ y0 y1 y2 y3 y4, LeO (spec_LtHTMLBack.l0 k y0 y1 y2 y3 y4) (spec_LtHTMLBack.l0 (k + 1) y0 y1 y2 y3 y4)) ∧ (∀ y0 y1 y2 y3 y4 y5, LeO (spec_LtHTMLBack.j2 k y0 y1 y2 y3 y4 y5) (spec_LtHTMLBack.j2 (k + 1) y0 y1 y2 y3 y4 y5)) ∧ (∀ y0 y1 y2 y3 y4 y5, LeO (spec_LtHTMLBack.l1 k y0 y1 y2 y3 y4 y5) (spec_LtHTMLBack.l1 (k + 1) y0 y1 y2 y3 y4 y5))
  | 0 => ⟨fun _ _ _ _ _ r h => by simp [spec_LtHTMLBack.l0] at h, fun _ _ _ _ _ _ r h => by simp [spec_LtHTMLBack.j2] at h, fun _ _ _ _ _ _ r h => by simp [spec_LtHTMLBack.l1] at h⟩
  | k + 1 => by
    obtain ⟨ih0, ih1, ih2⟩ := spec_LtHTMLBack.mono_l k
    refine ⟨?_, ?_, ?_⟩
    · intro y0 y1 y2 y3 y4
      unfold spec_LtHTMLBack.l0
      repeat' first
      | (with_reducible exact ih0 _ _ _ _ _)
      | (with_reducible exact ih1 _ _ _ _ _ _)
      | (with_reducible exact ih2 _ _ _ _ _ _)
      | (with_reducible exact LeO.refl _)
      | (with_reducible exact LeO.none _)
      | (with_reducible refine LeO.ite ?_ ?_)
      | (with_reducible refine LeO.bind ?_ (fun _ => ?_))
      | exact ih0 _ _ _ _ _
      | exact ih1 _ _ _ _ _ _
      | exact ih2 _ _ _ _ _ _
      | exact LeO.none _
      | refine LeO.ite ?_ ?_
      | refine LeO.bind ?_ (fun _ => ?_)
    · intro y0 y1 y2 y3 y4 y5
      unfold spec_LtHTMLBack.j2
      repeat' first
      | (with_reducible exact ih0 _ _ _ _ _)
      | (with_reducible exact ih1 _ _ _ _ _ _)
      | (with_reducible exact ih2 _ _ _ _ _ _)
      | (with_reducible exact LeO.refl _)
      | (with_reducible exact LeO.none _)
      | (with_reducible refine LeO.ite ?_ ?_)
      | (with_reducible refine LeO.bind ?_ (fun _ => ?_))
      | exact ih0 _ _ _ _ _
      | exact ih1 _ _ _ _ _ _
      | exact ih2 _ _ _ _ _ _
      | exact LeO.none _
      | refine LeO.ite ?_ ?_
      | refine LeO.bind ?_ (fun _ => ?_)
    · intro y0 y1 y2 y3 y4 y5
      unfold spec_LtHTMLBack.l1
      repeat' first
      | (with_reducible exact ih0 _ _ _ _ _)
      | (with_reducible exact ih1 _ _ _ _ _ _)
      | (with_reducible exact ih2 _ _ _ _ _ _)
      | (with_reducible exact LeO.refl _)
      | (with_reducible exact LeO.none _)
      | (with_reducible refine LeO.ite ?_ ?_)
      | (with_reducible refine LeO.bind ?_ (fun _ => ?_))
      | exact ih0 _ _ _ _ _
      | exact ih1 _ _ _ _ _ _
      | exact ih2 _ _ _ _ _ _
      | exact LeO.none _
      | refine LeO.ite ?_ ?_
      | refine LeO.bind ?_ (fun _ => ?_)
theorem spec_LtHTMLBack.mono : ∀ a0 k, LeO (spec_LtHTMLBack.f k a0) (spec_LtHTMLBack.f (k + 1) a0) := by
  intro a0 k
  obtain ⟨ih0, ih1, ih2⟩ := spec_LtHTMLBack.mono_l k
  unfold spec_LtHTMLBack.f
  repeat' first
      | (with_reducible exact ih0 _ _ _ _ _)
      | (with_reducible exact ih1 _ _ _ _ _ _)
      | (with_reducible exact ih2 _ _ _ _ _ _)
      | (with_reducible exact LeO.refl _)
      | (with_reducible exact LeO.none _)
      | (with_reducible refine LeO.ite ?_ ?_)
      | (with_reducible refine LeO.bind ?_ (fun _ => ?_))
      | exact ih0 _ _ _ _ _
      | exact ih1 _ _ _ _ _ _
      | exact ih2 _ _ _ _ _ _
      | exact LeO.none _
      | refine LeO.ite ?_ ?_
      | refine LeO.bind ?_ (fun _ => ?_)
set_option maxHeartbeats 8000000 in
set_option maxRecDepth 100000 in
theorem spec_LtHTMLBack.calls (k : Nat) (a0 : ByteArray) (r1 : List (S42)) (r2 : Bool) (w : World) (h : spec_LtHTMLBack.f k a0 = some (r1, r2)) :
    Calls Tryz.prog 15 #[.string a0] w fun e w' => ∃ v0_ : Value, e = .returned (.tuple #[v0_, .bool r2]) ∧ Kd.R k42 42 w' w.heap.size (fun _ => True) v0_ r1 ∧ Below w.heap.size w w' := by
  have hu42 := Tryz.underlying42
  have HB := Aside0.mk (Below.refl w.heap.size w)
  have H : ((spec_TxLines.f a0).bind fun t172 => (spec_LtHTMLBack.l0 k ([] : List (S42)) (-1) t172 (t172.length : Int) 0)) = some (r1, r2) := h
  clear h
  replace H := Option.bind_eq_some_iff.mp H
  obtain ⟨t172, A20, H⟩ := H
  replace H : (spec_LtHTMLBack.l0 k ([] : List (S42)) (-1) t172 (t172.length : Int) 0) = some (r1, r2) := H
  have A2 := Aside0.mk A20
  clear A20
  have H' := Aside0.mk H
  clear H
  go_enter Tryz.func15, Tryz.ntmps15
  go_wp2_with (first | ((with_reducible refine gate_callee (f := 25) rfl ?_); refine goesL_ (some 14) rfl rfl Tryz.func25 (by kernel_rfl) rfl #[.string a0] rfl (by (try simp only [List.map_toArray, List.map_cons, List.map_nil]); first | done | rfl | (simp only [List.length_drop, List.length_take]; rfl)) ?_; (with_reducible refine (spec_TxLines.calls a0 t172 _ A2.out).mono ?_); rintro e w3 ⟨v173, rfl, ho0, hb⟩; refine ⟨_, rfl, ?_⟩; have n0_ := Aside0.mk (Kd.R_lower ho0 (below_size (by repeat (first | (with_reducible first | exact HB.out | apply below_alloc | apply pw_below_drewN | apply below_drew1) | exact HB.out)))); have n1_ := Aside0.mk (below_step (by repeat (first | (with_reducible first | exact HB.out | apply below_alloc | apply pw_below_drewN | apply below_drew1) | exact HB.out)) hb); clear HB; have HO174 := n0_; have HB := n1_; clear n0_ n1_; (try clear hb); (try clear hb2); (try clear hk); (try clear hi); (try clear ho0); obtain ⟨Ao4, co4, eo4⟩ := Kd.R_slice HO174.out; subst eo4))
  go_loopg [4, 5, 16] k (fun kq v4 v5 v16 w' => ∃ (x4_1 : List (S42)) (x5_1 : Int) (x16_1 : Int), v5 = .int .i64 x5_1 ∧ v16 = .int .i64 x16_1 ∧ Aside0 (spec_LtHTMLBack.l0 kq x4_1 x5_1 t172 (t172.length : Int) x16_1 = some (r1, r2)) ∧ Aside0 (kq ≤ k) ∧ Aside0 (Kd.R k42 42 w' w.heap.size (fun _ => True) v4 x4_1) ∧ Aside0 (Kd.R Kd.string 9 w' w.heap.size (fun _ => True) (.slice Ao4 t172.length co4) t172) ∧ Aside0 (Below w.heap.size w w'))
  case atStart => exact ⟨(([] : List (S42))), ((-1)), (0), (by first | rfl | (simp; done) | (simp [*]; done)), (by first | rfl | (simp; done) | (simp [*]; done)), H', ⟨Nat.le_refl _⟩, ⟨by first | exact Kd.R_nil _ _ _ _ _ | exact Kd.N_nil _ _ _ _ _ | exact Kd.V_nil _ _ _ _ _ | exact Kd.Q_nil _ _ _ _ _ | exact Kd.S_nil _ _ _ _ _⟩, ⟨by (with_reducible repeat (first | apply Kd.R_alloc | apply Kd.R_drewN | apply Kd.R_drew)); exact HO174.out⟩, ⟨by repeat (first | (with_reducible first | exact HB.out | apply below_alloc | apply pw_below_drewN | apply below_drew1) | exact HB.out)⟩⟩
  case round =>
    clear H'
    try clear c1
    try clear c2
    try clear p2
    obtain ⟨x4_1, x5_1, x16_1, rfl, rfl, HA, HK1, HO_4, HO_14, HB⟩ := hrel
    cases gk with
    | zero => exact absurd HA.out (by simp [spec_LtHTMLBack.l0])
    | succ k1 =>
      have H := HA.out
      clear HA
      simp only [spec_LtHTMLBack.l0] at H
      by_cases c5 : x16_1 < (t172.length : Int)
      · rw [if_pos c5] at H
        have c5b0 : decide (x16_1 < (t172.length : Int)) = true := decide_eq_true c5
        clear c5
        by_cases c6 : 0 ≤ x16_1
        · rw [if_pos c6] at H
          have c6b0 : decide (0 ≤ x16_1) = true := decide_eq_true c6
          clear c6
          by_cases c7 : x16_1 < (t172.length : Int)
          · rw [if_pos c7] at H
            have c7b0 : decide (x16_1 < (t172.length : Int)) = true := decide_eq_true c7
            clear c7
            have HC8 := Aside0.mk H
            clear H
            have p175 : 0 ≤ (x16_1 : Int) := of_decide_eq_true (by first | (with_reducible assumption) | assumption)
            have q175 : x16_1 < (t172.length : Int) := of_decide_eq_true (by first | (with_reducible assumption) | assumption)
            obtain ⟨ad175, e175, hx175_0⟩ := Kd.at_string (Kd.R_reads' HO_14.out).2.2 x16_1 p175 q175
            cases e175
            replace p175 := eq_true p175
            replace q175 := eq_true q175
            go_upto_block 2 with (fail)
            go_cut [8] (fun v8 wc => ∃ (kq : Nat) (x8_7 : ByteArray), v8 = .string x8_7 ∧ Aside0 (spec_LtHTMLBack.j2 kq x4_1 x5_1 x8_7 t172 (t172.length : Int) x16_1 = some (r1, r2)) ∧ Aside0 (kq ≤ k1) ∧ Aside0 (Kd.R k42 42 wc w.heap.size (fun _ => True) u4 x4_1) ∧ Aside0 (Kd.R Kd.string 9 wc w.heap.size (fun _ => True) (.slice (some ad175) t172.length co4) t172) ∧ Aside0 (Below w.heap.size w wc))
            case first =>
              have H := HC8.out
              clear HC8
              have H' := Aside0.mk H
              clear H
              go_wp2
              go_loopg [8] k1 (fun kq v8 w' => ∃ (x8_2 : ByteArray), v8 = .string x8_2 ∧ Aside0 (spec_LtHTMLBack.l1 kq x4_1 x5_1 x8_2 t172 (t172.length : Int) x16_1 = some (r1, r2)) ∧ Aside0 (kq ≤ k1) ∧ Aside0 (Kd.R k42 42 w' w.heap.size (fun _ => True) u4 x4_1) ∧ Aside0 (Kd.R Kd.string 9 w' w.heap.size (fun _ => True) (.slice (some ad175) t172.length co4) t172) ∧ Aside0 (Below w.heap.size w w'))
              case atStart => exact ⟨(rdOf ByteArray.empty t172 x16_1), (by first | rfl | (simp; done) | (simp [*]; done)), H', ⟨Nat.le_refl _⟩, ⟨by (with_reducible repeat (first | apply Kd.R_alloc | apply Kd.R_drewN | apply Kd.R_drew)); exact HO_4.out⟩, ⟨by (with_reducible repeat (first | apply Kd.R_alloc | apply Kd.R_drewN | apply Kd.R_drew)); exact HO_14.out⟩, ⟨by repeat (first | (with_reducible first | exact HB.out | apply below_alloc | apply pw_below_drewN | apply below_drew1) | exact HB.out)⟩⟩
              case round =>
                clear H'
                try clear c1
                try clear p1
                try clear q1
                try clear hx1
                try clear c2
                try clear p2
                try clear c5
                try clear c5b0
                try clear c6
                try clear c6b0
                try clear c7
                try clear c7b0
                try clear hx175_0
                try clear p175
                try clear p2
                try clear q175
                obtain ⟨x8_2, rfl, HA, HK2, HO_4, HO_14, HB⟩ := hrel
                cases gk with
                | zero => exact absurd HA.out (by simp [spec_LtHTMLBack.l1])
                | succ k2 =>
                  have H := HA.out
                  clear HA
                  simp only [spec_LtHTMLBack.l1] at H
                  by_cases c9 : x8_2.toList = ([] : List UInt8)
                  · rw [if_pos c9] at H
                    have c9b0 : (x8_2.toList == ([] : List UInt8)) = true := beq_iff_eq.mpr c9
                    have c9b7 : x8_2.toList.isEmpty = true := by simpa using c9
                    have c9b1 : (x8_2.toList != ([] : List UInt8)) = false := bne_eq_false_iff_eq.mpr c9
                    clear c9
                    (first | rw [c9b0] | rw [c9b7] | (simp only [i64_w, i32_w]; rw [c9b0]) | skip)
                    have H' := Aside0.mk H
                    clear H
                    go_wp2
                    go_meet
                    case rel => exact ⟨_, (x8_2), (by first | rfl | (simp; done) | (simp [*]; done)), H', ⟨by have := HK1.out; have := HK2.out; first | omega | exact Nat.le_refl _⟩, ⟨by (with_reducible repeat (first | apply Kd.R_alloc | apply Kd.R_drewN | apply Kd.R_drew)); exact HO_4.out⟩, ⟨by (with_reducible repeat (first | apply Kd.R_alloc | apply Kd.R_drewN | apply Kd.R_drew)); exact HO_14.out⟩, ⟨by repeat (first | (with_reducible first | exact HB.out | apply below_alloc | apply pw_below_drewN | apply below_drew1) | exact HB.out)⟩⟩
                  · rw [if_neg c9] at H
                    have c9b0 : (x8_2.toList == ([] : List UInt8)) = false := beq_eq_false_iff_ne.mpr c9
                    have c9b7 : x8_2.toList.isEmpty = false := by simpa using c9
                    have c9b1 : (x8_2.toList != ([] : List UInt8)) = true := bne_iff_ne.mpr c9
                    (first | rw [c9b0] | rw [c9b7] | (simp only [i64_w, i32_w]; rw [c9b0]) | skip)
                    by_cases c10 : 0 < (x8_2.size : Int)
                    · rw [if_pos c10] at H
                      have c10b0 : decide (0 < (x8_2.size : Int)) = true := decide_eq_true c10
                      have c10b1 : decide (0 < x8_2.size) = true := decide_eq_true (by omega)
                      clear c10
                      by_cases c12 : (bt x8_2 0) = 32
                      · rw [if_pos c12] at H
                        have c12b0 : ((bt x8_2 0) == 32) = true := beq_iff_eq.mpr c12
                        have c12b1 : ((bt x8_2 0) != 32) = false := bne_eq_false_iff_eq.mpr c12
                        clear c12
                        by_cases c13 : 1 ≤ (x8_2.size : Int)
                        · rw [if_pos c13] at H
                          have c13b0 := eq_true c13
                          have c13b1 : decide (1 ≤ (x8_2.size : Int)) = true := decide_eq_true c13
                          clear c13
                          have H' := Aside0.mk H
                          clear H
                          have p11 : 0 ≤ (0 : Int) := (by omega)
                          have q11 : 0 < x8_2.size := (by have : (0 : Int) < (x8_2.size : Int) := of_decide_eq_true (by first | (with_reducible assumption) | assumption); omega)
                          have hx11 : ∀ h : 0 < x8_2.size, ((x8_2[0]'h).toNat : Int) = bt x8_2 0 := bt_at x8_2 0
                          clear p11
                          have qi11 : (0 < (x8_2.size : Int)) = True := eq_true (of_decide_eq_true (by first | (with_reducible assumption) | assumption))
                          replace q11 := eq_true q11
                          go_wp2
                          go_roundg k2
                          case measure => have := HK1.out; have := HK2.out; omega
                          case rel => exact ⟨(x8_2.extract 1 x8_2.size), (by first | rfl | (simp; done) | (simp [*]; done)), H', ⟨by have := HK1.out; have := HK2.out; omega⟩, ⟨by (with_reducible repeat (first | apply Kd.R_alloc | apply Kd.R_drewN | apply Kd.R_drew)); exact HO_4.out⟩, ⟨by (with_reducible repeat (first | apply Kd.R_alloc | apply Kd.R_drewN | apply Kd.R_drew)); exact HO_14.out⟩, ⟨by repeat (first | (with_reducible first | exact HB.out | apply below_alloc | apply pw_below_drewN | apply below_drew1) | exact HB.out)⟩⟩
                        · rw [if_neg c13] at H
                          exact absurd H (by simp)
                      · rw [if_neg c12] at H
                        have c12b0 : ((bt x8_2 0) == 32) = false := beq_eq_false_iff_ne.mpr c12
                        have c12b1 : ((bt x8_2 0) != 32) = true := bne_iff_ne.mpr c12
                        have H' := Aside0.mk H
                        clear H
                        have p11 : 0 ≤ (0 : Int) := (by omega)
                        have q11 : 0 < x8_2.size := (by have : (0 : Int) < (x8_2.size : Int) := of_decide_eq_true (by first | (with_reducible assumption) | assumption); omega)
                        have hx11 : ∀ h : 0 < x8_2.size, ((x8_2[0]'h).toNat : Int) = bt x8_2 0 := bt_at x8_2 0
                        clear p11
                        have qi11 : (0 < (x8_2.size : Int)) = True := eq_true (of_decide_eq_true (by first | (with_reducible assumption) | assumption))
                        replace q11 := eq_true q11
                        go_wp2
                        go_meet
                        case rel => exact ⟨_, (x8_2), (by first | rfl | (simp; done) | (simp [*]; done)), H', ⟨by have := HK1.out; have := HK2.out; first | omega | exact Nat.le_refl _⟩, ⟨by (with_reducible repeat (first | apply Kd.R_alloc | apply Kd.R_drewN | apply Kd.R_drew)); exact HO_4.out⟩, ⟨by (with_reducible repeat (first | apply Kd.R_alloc | apply Kd.R_drewN | apply Kd.R_drew)); exact HO_14.out⟩, ⟨by repeat (first | (with_reducible first | exact HB.out | apply below_alloc | apply pw_below_drewN | apply below_drew1) | exact HB.out)⟩⟩
                    · rw [if_neg c10] at H
                      exact absurd H (by simp)
            case rest =>
              clear HC8
              try clear c1
              try clear p1
              try clear q1
              try clear hx1
              try clear qi1
              try clear c2
              try clear p2
              try clear c5
              try clear c5b0
              try clear c6
              try clear c6b0
              try clear c7
              try clear c7b0
              try clear c9
              try clear c9b0
              try clear c9b1
              try clear c10
              try clear c10b0
              try clear c10b1
              try clear p11
              try clear q11
              try clear hx11
              try clear qi11
              try clear c12
              try clear c12b0
              try clear c12b1
              try clear c13
              try clear c13b0
              try clear c13b1
              try clear hx175_0
              try clear p1
              try clear p11
              try clear p175
              try clear p2
              try clear q1
              try clear q11
              try clear q175
              obtain ⟨kq, x8_7, rfl, HA, HJ7, HO_4, HO_14, HB⟩ := hcut
              cases kq with
              | zero => exact absurd HA.out (by simp [spec_LtHTMLBack.j2])
              | succ kj7 =>
                have H := HA.out
                clear HA
                simp only [spec_LtHTMLBack.j2] at H
                replace H := Option.bind_eq_some_iff.mp H
                obtain ⟨⟨t176, t177⟩, A140, H⟩ := H
                replace H : (if t177 = true then (spec_LtHTMLBack.l0 kj7 x4_1 (wrap64 (x5_1 + 1)) t172 (t172.length : Int) (wrap64 (x16_1 + 1))) else (if x8_7.toList = ([60, 47, 117, 108, 62] : List UInt8) then (spec_LtHTMLBack.l0 kj7 x4_1 (wrap64 (x5_1 - 1)) t172 (t172.length : Int) (wrap64 (x16_1 + 1))) else ((spec_LsBegins.f x8_7 (⟨#[60, 108, 105, 62]⟩ : ByteArray)).bind fun bt178 => (if bt178.2 = true then (if (bt178.1.size : Int) < 5 then (some (([] : List (S42)), false)) else (if 0 ≤ (wrap64 ((bt178.1.size : Int) - 5)) then (if (wrap64 ((bt178.1.size : Int) - 5)) ≤ (bt178.1.size : Int) then (if (bt178.1.extract ((wrap64 ((bt178.1.size : Int) - 5)) : Int).toNat bt178.1.size).toList = ([60, 47, 108, 105, 62] : List UInt8) then (if x4_1.length < 5864062014805 then (spec_LtHTMLBack.l0 kj7 (x4_1 ++ [(⟨bt178.1.extract 0 ((wrap64 ((bt178.1.size : Int) - 5)) : Int).toNat, x5_1⟩ : S42)]) x5_1 t172 (t172.length : Int) (wrap64 (x16_1 + 1))) else (none)) else (some (([] : List (S42)), false))) else (none)) else (none))) else (some (([] : List (S42)), false)))))) = some (r1, r2) := H
                have A14 := Aside0.mk A140
                clear A140
                by_cases c15 : t177 = true
                · subst c15
                  have H1 : (spec_LtHTMLBack.l0 kj7 x4_1 (wrap64 (x5_1 + 1)) t172 (t172.length : Int) (wrap64 (x16_1 + 1))) = some (r1, r2) := by rw [if_pos rfl] at H; exact H
                  clear H
                  have H := H1
                  clear H1
                  have H' := Aside0.mk H
                  clear H
                  go_wp2_with (first | ((with_reducible refine gate_callee (f := 22) rfl ?_); refine goesL_ (some 32) rfl rfl Tryz.func22 (by kernel_rfl) rfl #[.string x8_7, .string (⟨#[60, 117, 108, 32]⟩ : ByteArray)] rfl (by (try simp only [List.map_toArray, List.map_cons, List.map_nil]); first | done | rfl | (simp only [List.length_drop, List.length_take]; rfl)) ?_; (with_reducible refine (spec_LsBegins.calls x8_7 (⟨#[60, 117, 108, 32]⟩ : ByteArray) t176 true _ A14.out).mono ?_); rintro e w' ⟨rfl, ⟨nd, rfl⟩⟩; refine ⟨_, rfl, ?_⟩))
                  go_roundg kj7
                  case measure => have := HK1.out; have := HJ7.out; omega
                  case rel => exact ⟨(x4_1), (wrap64 (x5_1 + 1)), (wrap64 (x16_1 + 1)), (by first | rfl | (simp; done) | (simp [*]; done)), (by first | rfl | (simp; done) | (simp [*]; done)), H', ⟨by have := HK1.out; have := HJ7.out; omega⟩, ⟨by (with_reducible repeat (first | apply Kd.R_alloc | apply Kd.R_drewN | apply Kd.R_drew)); exact HO_4.out⟩, ⟨by (with_reducible repeat (first | apply Kd.R_alloc | apply Kd.R_drewN | apply Kd.R_drew)); exact HO_14.out⟩, ⟨by repeat (first | (with_reducible first | exact HB.out | apply below_alloc | apply pw_below_drewN | apply below_drew1) | exact HB.out)⟩⟩
                · replace c15 := Bool.eq_false_iff.mpr c15
                  subst c15
                  have H1 : (if x8_7.toList = ([60, 47, 117, 108, 62] : List UInt8) then (spec_LtHTMLBack.l0 kj7 x4_1 (wrap64 (x5_1 - 1)) t172 (t172.length : Int) (wrap64 (x16_1 + 1))) else ((spec_LsBegins.f x8_7 (⟨#[60, 108, 105, 62]⟩ : ByteArray)).bind fun bt178 => (if bt178.2 = true then (if (bt178.1.size : Int) < 5 then (some (([] : List (S42)), false)) else (if 0 ≤ (wrap64 ((bt178.1.size : Int) - 5)) then (if (wrap64 ((bt178.1.size : Int) - 5)) ≤ (bt178.1.size : Int) then (if (bt178.1.extract ((wrap64 ((bt178.1.size : Int) - 5)) : Int).toNat bt178.1.size).toList = ([60, 47, 108, 105, 62] : List UInt8) then (if x4_1.length < 5864062014805 then (spec_LtHTMLBack.l0 kj7 (x4_1 ++ [(⟨bt178.1.extract 0 ((wrap64 ((bt178.1.size : Int) - 5)) : Int).toNat, x5_1⟩ : S42)]) x5_1 t172 (t172.length : Int) (wrap64 (x16_1 + 1))) else (none)) else (some (([] : List (S42)), false))) else (none)) else (none))) else (some (([] : List (S42)), false))))) = some (r1, r2) := by rw [if_neg (show ¬ (false = true) by decide)] at H; exact H
                  clear H
                  have H := H1
                  clear H1
                  by_cases c16 : x8_7.toList = ([60, 47, 117, 108, 62] : List UInt8)
                  · rw [if_pos c16] at H
                    have c16b0 : (x8_7.toList == ([60, 47, 117, 108, 62] : List UInt8)) = true := beq_iff_eq.mpr c16
                    have c16b1 : (x8_7.toList != ([60, 47, 117, 108, 62] : List UInt8)) = false := bne_eq_false_iff_eq.mpr c16
                    clear c16
                    have H' := Aside0.mk H
                    clear H
                    go_wp2_with (first | ((with_reducible refine gate_callee (f := 22) rfl ?_); refine goesL_ (some 32) rfl rfl Tryz.func22 (by kernel_rfl) rfl #[.string x8_7, .string (⟨#[60, 117, 108, 32]⟩ : ByteArray)] rfl (by (try simp only [List.map_toArray, List.map_cons, List.map_nil]); first | done | rfl | (simp only [List.length_drop, List.length_take]; rfl)) ?_; (with_reducible refine (spec_LsBegins.calls x8_7 (⟨#[60, 117, 108, 32]⟩ : ByteArray) t176 false _ A14.out).mono ?_); rintro e w' ⟨rfl, ⟨nd, rfl⟩⟩; refine ⟨_, rfl, ?_⟩))
                    go_roundg kj7
                    case measure => have := HK1.out; have := HJ7.out; omega
                    case rel => exact ⟨(x4_1), (wrap64 (x5_1 - 1)), (wrap64 (x16_1 + 1)), (by first | rfl | (simp; done) | (simp [*]; done)), (by first | rfl | (simp; done) | (simp [*]; done)), H', ⟨by have := HK1.out; have := HJ7.out; omega⟩, ⟨by (with_reducible repeat (first | apply Kd.R_alloc | apply Kd.R_drewN | apply Kd.R_drew)); exact HO_4.out⟩, ⟨by (with_reducible repeat (first | apply Kd.R_alloc | apply Kd.R_drewN | apply Kd.R_drew)); exact HO_14.out⟩, ⟨by repeat (first | (with_reducible first | exact HB.out | apply below_alloc | apply pw_below_drewN | apply below_drew1) | exact HB.out)⟩⟩
                  · rw [if_neg c16] at H
                    have c16b0 : (x8_7.toList == ([60, 47, 117, 108, 62] : List UInt8)) = false := beq_eq_false_iff_ne.mpr c16
                    have c16b1 : (x8_7.toList != ([60, 47, 117, 108, 62] : List UInt8)) = true := bne_iff_ne.mpr c16
                    replace H := Option.bind_eq_some_iff.mp H
                    obtain ⟨⟨t178, t179⟩, A170, H⟩ := H
                    replace H : (if t179 = true then (if (t178.size : Int) < 5 then (some (([] : List (S42)), false)) else (if 0 ≤ (wrap64 ((t178.size : Int) - 5)) then (if (wrap64 ((t178.size : Int) - 5)) ≤ (t178.size : Int) then (if (t178.extract ((wrap64 ((t178.size : Int) - 5)) : Int).toNat t178.size).toList = ([60, 47, 108, 105, 62] : List UInt8) then (if x4_1.length < 5864062014805 then (spec_LtHTMLBack.l0 kj7 (x4_1 ++ [(⟨t178.extract 0 ((wrap64 ((t178.size : Int) - 5)) : Int).toNat, x5_1⟩ : S42)]) x5_1 t172 (t172.length : Int) (wrap64 (x16_1 + 1))) else (none)) else (some (([] : List (S42)), false))) else (none)) else (none))) else (some (([] : List (S42)), false))) = some (r1, r2) := H
                    have A17 := Aside0.mk A170
                    clear A170
                    by_cases c18 : t179 = true
                    · subst c18
                      have H1 : (if (t178.size : Int) < 5 then (some (([] : List (S42)), false)) else (if 0 ≤ (wrap64 ((t178.size : Int) - 5)) then (if (wrap64 ((t178.size : Int) - 5)) ≤ (t178.size : Int) then (if (t178.extract ((wrap64 ((t178.size : Int) - 5)) : Int).toNat t178.size).toList = ([60, 47, 108, 105, 62] : List UInt8) then (if x4_1.length < 5864062014805 then (spec_LtHTMLBack.l0 kj7 (x4_1 ++ [(⟨t178.extract 0 ((wrap64 ((t178.size : Int) - 5)) : Int).toNat, x5_1⟩ : S42)]) x5_1 t172 (t172.length : Int) (wrap64 (x16_1 + 1))) else (none)) else (some (([] : List (S42)), false))) else (none)) else (none))) = some (r1, r2) := by rw [if_pos rfl] at H; exact H
                      clear H
                      have H := H1
                      clear H1
                      by_cases c19 : (t178.size : Int) < 5
                      · rw [if_pos c19] at H
                        have c19b0 : decide ((t178.size : Int) < 5) = true := decide_eq_true c19
                        have c19b1 : decide (t178.size < 5) = true := decide_eq_true (by omega)
                        clear c19
                        simp only [Option.some.injEq, Prod.mk.injEq] at H
                        obtain ⟨rfl, rfl⟩ := H
                        go_wp2_with (first | ((with_reducible refine gate_callee (f := 22) rfl ?_); refine goesL_ (some 32) rfl rfl Tryz.func22 (by kernel_rfl) rfl #[.string x8_7, .string (⟨#[60, 117, 108, 32]⟩ : ByteArray)] rfl (by (try simp only [List.map_toArray, List.map_cons, List.map_nil]); first | done | rfl | (simp only [List.length_drop, List.length_take]; rfl)) ?_; (with_reducible refine (spec_LsBegins.calls x8_7 (⟨#[60, 117, 108, 32]⟩ : ByteArray) t176 false _ A14.out).mono ?_); rintro e w' ⟨rfl, ⟨nd, rfl⟩⟩; refine ⟨_, rfl, ?_⟩) | ((with_reducible refine gate_callee (f := 22) rfl ?_); refine goesL_ (some 44) rfl rfl Tryz.func22 (by kernel_rfl) rfl #[.string x8_7, .string (⟨#[60, 108, 105, 62]⟩ : ByteArray)] rfl (by (try simp only [List.map_toArray, List.map_cons, List.map_nil]); first | done | rfl | (simp only [List.length_drop, List.length_take]; rfl)) ?_; (with_reducible refine (spec_LsBegins.calls x8_7 (⟨#[60, 108, 105, 62]⟩ : ByteArray) t178 true _ A17.out).mono ?_); rintro e w' ⟨rfl, ⟨nd, rfl⟩⟩; refine ⟨_, rfl, ?_⟩))
                        go_ret2
                        exact ⟨_, by first | rfl | (simp [errW_none, errW_some] <;> rfl) | (simp [*, errW_none, errW_some] <;> rfl), by first | exact Kd.R_nil _ _ _ _ _ | exact Kd.N_nil _ _ _ _ _ | exact Kd.V_nil _ _ _ _ _ | exact Kd.Q_nil _ _ _ _ _ | exact Kd.S_nil _ _ _ _ _, by repeat (first | (with_reducible first | exact HB.out | apply below_alloc | apply pw_below_drewN | apply below_drew1) | exact HB.out)⟩
                      · rw [if_neg c19] at H
                        have c19b0 : decide ((t178.size : Int) < 5) = false := decide_eq_false c19
                        have c19b1 : decide (t178.size < 5) = false := decide_eq_false (by omega)
                        clear c19
                        obtain ⟨ji20, hji20⟩ : ∃ j_ : Int, (wrap64 ((t178.size : Int) - 5)) = j_ := ⟨_, rfl⟩
                        replace H : (if 0 ≤ (ji20) then (if (ji20) ≤ (t178.size : Int) then (if (t178.extract ((ji20) : Int).toNat t178.size).toList = ([60, 47, 108, 105, 62] : List UInt8) then (if x4_1.length < 5864062014805 then (spec_LtHTMLBack.l0 kj7 (x4_1 ++ [(⟨t178.extract 0 ((ji20) : Int).toNat, x5_1⟩ : S42)]) x5_1 t172 (t172.length : Int) (wrap64 (x16_1 + 1))) else (none)) else (some (([] : List (S42)), false))) else (none)) else (none)) = some (r1, r2) := by first | (rw [hji20] at H; exact H) | (simp only [hji20] at H ⊢; exact H)
                        (try rw [hji20] at A14)
                        (try rw [hji20] at A17)
                        have hji20w : (IntKind.i64.wrap ((t178.size : Int) - 5)) = ji20 := (i64_w _).trans hji20
                        by_cases c21 : 0 ≤ (ji20)
                        · rw [if_pos c21] at H
                          have c21b0 := eq_true c21
                          have c21b1 : decide (0 ≤ (ji20)) = true := decide_eq_true c21
                          clear c21
                          by_cases c22 : (ji20) ≤ (t178.size : Int)
                          · rw [if_pos c22] at H
                            have c22b0 := eq_true c22
                            have c22b1 : decide ((ji20) ≤ (t178.size : Int)) = true := decide_eq_true c22
                            clear c22
                            by_cases c23 : (t178.extract ((ji20) : Int).toNat t178.size).toList = ([60, 47, 108, 105, 62] : List UInt8)
                            · rw [if_pos c23] at H
                              have c23b0 : ((t178.extract ((ji20) : Int).toNat t178.size).toList == ([60, 47, 108, 105, 62] : List UInt8)) = true := beq_iff_eq.mpr c23
                              have c23b1 : ((t178.extract ((ji20) : Int).toNat t178.size).toList != ([60, 47, 108, 105, 62] : List UInt8)) = false := bne_eq_false_iff_eq.mpr c23
                              clear c23
                              have c24b0 := eq_true (of_decide_eq_true (by first | (with_reducible assumption) | assumption) : 0 ≤ (ji20))
                              have c25b0 := eq_true (of_decide_eq_true (by first | (with_reducible assumption) | assumption) : (ji20) ≤ (t178.size : Int))
                              by_cases c26 : x4_1.length < 5864062014805
                              · rw [if_pos c26] at H
                                have LMc26 := Aside0.mk c26
                                clear c26
                                obtain ⟨y180, hy180⟩ : ∃ y_ : List (S42), y_ = (x4_1 ++ [(⟨t178.extract 0 ((ji20) : Int).toNat, x5_1⟩ : S42)]) := ⟨_, rfl⟩
                                replace H : (spec_LtHTMLBack.l0 kj7 y180 x5_1 t172 (t172.length : Int) (wrap64 (x16_1 + 1))) = some (r1, r2) := by first | (rw [hy180]; with_reducible exact H) | (have H2_ := (Option.bind_some _ _).symm.trans H; rw [hy180]; with_reducible exact H2_) | (have H2_ := (Option.bind_some _ _).symm.trans H; with_reducible exact H2_) | with_reducible exact H | (rw [hy180]; exact H) | exact H
                                have Ny180 := Aside0.mk hy180
                                clear hy180
                                have H' := Aside0.mk H
                                clear H
                                go_wp2_with (first | ((with_reducible refine gate_callee (f := 22) rfl ?_); refine goesL_ (some 32) rfl rfl Tryz.func22 (by kernel_rfl) rfl #[.string x8_7, .string (⟨#[60, 117, 108, 32]⟩ : ByteArray)] rfl (by (try simp only [List.map_toArray, List.map_cons, List.map_nil]); first | done | rfl | (simp only [List.length_drop, List.length_take]; rfl)) ?_; (with_reducible refine (spec_LsBegins.calls x8_7 (⟨#[60, 117, 108, 32]⟩ : ByteArray) t176 false _ A14.out).mono ?_); rintro e w' ⟨rfl, ⟨nd, rfl⟩⟩; refine ⟨_, rfl, ?_⟩) | ((with_reducible refine gate_callee (f := 22) rfl ?_); refine goesL_ (some 44) rfl rfl Tryz.func22 (by kernel_rfl) rfl #[.string x8_7, .string (⟨#[60, 108, 105, 62]⟩ : ByteArray)] rfl (by (try simp only [List.map_toArray, List.map_cons, List.map_nil]); first | done | rfl | (simp only [List.length_drop, List.length_take]; rfl)) ?_; (with_reducible refine (spec_LsBegins.calls x8_7 (⟨#[60, 108, 105, 62]⟩ : ByteArray) t178 true _ A17.out).mono ?_); rintro e w' ⟨rfl, ⟨nd, rfl⟩⟩; refine ⟨_, rfl, ?_⟩) | ((with_reducible refine gate_builtin (b := .append) (xs := #[.tmp 62, .tmp 70]) rfl ?_); (try (refine gate_guard (by rfl) ?_; dsimp only)); at_builtin; refine Kd.R_append k42 (w0 := w) w.heap.size rfl (.tmp 62) (.tmp 70) 27 42 (.agg #[(.string ⟨#[]⟩), (.int .i64 0)]) 24 rfl Tryz.underlying27 info42 rfl (by decide) (by omega) u4 x4_1 (⟨t178.extract 0 ((ji20) : Int).toNat, x5_1⟩ : S42) [.string (t178.extract 0 ((ji20) : Int).toNat), .int .i64 x5_1] (fun _ => True) (fun _ => False) rfl rfl ?aP (fun _ hk => hk.elim) ?aF ?aO ?aB ?aS ?aL ?_; (case aP => exact k42_mkM _ _ _ (⟨t178.extract 0 ((ji20) : Int).toNat, x5_1⟩ : S42)); (case aB => exact (by repeat (first | (with_reducible first | exact HB.out | apply below_alloc | apply pw_below_drewN | apply below_drew1) | exact HB.out))); (case aF => exact (fun _ _ => trivial)); (case aO => exact (by (with_reducible repeat (first | apply Kd.R_alloc | apply Kd.R_drewN | apply Kd.R_drew)); exact HO_4.out)); (case aS => exact (below_size (by repeat (first | (with_reducible first | exact HB.out | apply below_alloc | apply pw_below_drewN | apply below_drew1) | exact HB.out)))); (case aL => have := LMc26.out; omega); intro v181 w27 ho hb hg hat; rw [← Ny180.out] at ho; have n0_ := Aside0.mk (Kd.R_over' (by (with_reducible repeat (first | apply Kd.R_alloc | apply Kd.R_drewN | apply Kd.R_drew)); exact HO_14.out) (Kd.R_typed (by (with_reducible repeat (first | apply Kd.R_alloc | apply Kd.R_drewN | apply Kd.R_drew)); exact HO_4.out)) (by decide) hg); have n1_ := Aside0.mk (hb); have n2_ := Aside0.mk (ho); clear HO_14; clear HB; clear HO_4; have HO_14 := n0_; have HB := n1_; have HO182 := n2_; clear n0_ n1_ n2_; clear ho hb hg hat))
                                go_roundg kj7
                                case measure => have := HK1.out; have := HJ7.out; omega
                                case rel => exact ⟨(y180), (x5_1), (wrap64 (x16_1 + 1)), (by first | rfl | (simp; done) | (simp [*]; done)), (by first | rfl | (simp; done) | (simp [*]; done)), H', ⟨by have := HK1.out; have := HJ7.out; omega⟩, ⟨by (with_reducible repeat (first | apply Kd.R_alloc | apply Kd.R_drewN | apply Kd.R_drew)); exact HO182.out⟩, ⟨by (with_reducible repeat (first | apply Kd.R_alloc | apply Kd.R_drewN | apply Kd.R_drew)); exact HO_14.out⟩, ⟨by repeat (first | (with_reducible first | exact HB.out | apply below_alloc | apply pw_below_drewN | apply below_drew1) | exact HB.out)⟩⟩
                              · rw [if_neg c26] at H
                                exact absurd H (by simp)
                            · rw [if_neg c23] at H
                              have c23b0 : ((t178.extract ((ji20) : Int).toNat t178.size).toList == ([60, 47, 108, 105, 62] : List UInt8)) = false := beq_eq_false_iff_ne.mpr c23
                              have c23b1 : ((t178.extract ((ji20) : Int).toNat t178.size).toList != ([60, 47, 108, 105, 62] : List UInt8)) = true := bne_iff_ne.mpr c23
                              simp only [Option.some.injEq, Prod.mk.injEq] at H
                              obtain ⟨rfl, rfl⟩ := H
                              go_wp2_with (first | ((with_reducible refine gate_callee (f := 22) rfl ?_); refine goesL_ (some 32) rfl rfl Tryz.func22 (by kernel_rfl) rfl #[.string x8_7, .string (⟨#[60, 117, 108, 32]⟩ : ByteArray)] rfl (by (try simp only [List.map_toArray, List.map_cons, List.map_nil]); first | done | rfl | (simp only [List.length_drop, List.length_take]; rfl)) ?_; (with_reducible refine (spec_LsBegins.calls x8_7 (⟨#[60, 117, 108, 32]⟩ : ByteArray) t176 false _ A14.out).mono ?_); rintro e w' ⟨rfl, ⟨nd, rfl⟩⟩; refine ⟨_, rfl, ?_⟩) | ((with_reducible refine gate_callee (f := 22) rfl ?_); refine goesL_ (some 44) rfl rfl Tryz.func22 (by kernel_rfl) rfl #[.string x8_7, .string (⟨#[60, 108, 105, 62]⟩ : ByteArray)] rfl (by (try simp only [List.map_toArray, List.map_cons, List.map_nil]); first | done | rfl | (simp only [List.length_drop, List.length_take]; rfl)) ?_; (with_reducible refine (spec_LsBegins.calls x8_7 (⟨#[60, 108, 105, 62]⟩ : ByteArray) t178 true _ A17.out).mono ?_); rintro e w' ⟨rfl, ⟨nd, rfl⟩⟩; refine ⟨_, rfl, ?_⟩))
                              go_ret2
                              exact ⟨_, by first | rfl | (simp [errW_none, errW_some] <;> rfl) | (simp only [← hji20]; first | rfl | (simp [errW_none, errW_some] <;> rfl)) | (simp [*, errW_none, errW_some] <;> rfl), by first | exact Kd.R_nil _ _ _ _ _ | exact Kd.N_nil _ _ _ _ _ | exact Kd.V_nil _ _ _ _ _ | exact Kd.Q_nil _ _ _ _ _ | exact Kd.S_nil _ _ _ _ _, by repeat (first | (with_reducible first | exact HB.out | apply below_alloc | apply pw_below_drewN | apply below_drew1) | exact HB.out)⟩
                          · rw [if_neg c22] at H
                            exact absurd H (by simp)
                        · rw [if_neg c21] at H
                          exact absurd H (by simp)
                    · replace c18 := Bool.eq_false_iff.mpr c18
                      subst c18
                      have H1 : (some (([] : List (S42)), false)) = some (r1, r2) := by rw [if_neg (show ¬ (false = true) by decide)] at H; exact H
                      clear H
                      have H := H1
                      clear H1
                      simp only [Option.some.injEq, Prod.mk.injEq] at H
                      obtain ⟨rfl, rfl⟩ := H
                      go_wp2_with (first | ((with_reducible refine gate_callee (f := 22) rfl ?_); refine goesL_ (some 32) rfl rfl Tryz.func22 (by kernel_rfl) rfl #[.string x8_7, .string (⟨#[60, 117, 108, 32]⟩ : ByteArray)] rfl (by (try simp only [List.map_toArray, List.map_cons, List.map_nil]); first | done | rfl | (simp only [List.length_drop, List.length_take]; rfl)) ?_; (with_reducible refine (spec_LsBegins.calls x8_7 (⟨#[60, 117, 108, 32]⟩ : ByteArray) t176 false _ A14.out).mono ?_); rintro e w' ⟨rfl, ⟨nd, rfl⟩⟩; refine ⟨_, rfl, ?_⟩) | ((with_reducible refine gate_callee (f := 22) rfl ?_); refine goesL_ (some 44) rfl rfl Tryz.func22 (by kernel_rfl) rfl #[.string x8_7, .string (⟨#[60, 108, 105, 62]⟩ : ByteArray)] rfl (by (try simp only [List.map_toArray, List.map_cons, List.map_nil]); first | done | rfl | (simp only [List.length_drop, List.length_take]; rfl)) ?_; (with_reducible refine (spec_LsBegins.calls x8_7 (⟨#[60, 108, 105, 62]⟩ : ByteArray) t178 false _ A17.out).mono ?_); rintro e w' ⟨rfl, ⟨nd, rfl⟩⟩; refine ⟨_, rfl, ?_⟩))
                      go_ret2
                      exact ⟨_, by first | rfl | (simp [errW_none, errW_some] <;> rfl) | (simp [*, errW_none, errW_some] <;> rfl), by first | exact Kd.R_nil _ _ _ _ _ | exact Kd.N_nil _ _ _ _ _ | exact Kd.V_nil _ _ _ _ _ | exact Kd.Q_nil _ _ _ _ _ | exact Kd.S_nil _ _ _ _ _, by repeat (first | (with_reducible first | exact HB.out | apply below_alloc | apply pw_below_drewN | apply below_drew1) | exact HB.out)⟩
          · rw [if_neg c7] at H
            exact absurd H (by simp)
        · rw [if_neg c6] at H
          exact absurd H (by simp)
      · rw [if_neg c5] at H
        have c5b0 : decide (x16_1 < (t172.length : Int)) = false := decide_eq_false c5
        clear c5
        simp only [Option.some.injEq, Prod.mk.injEq] at H
        obtain ⟨rfl, rfl⟩ := H
        go_wp2
        go_ret2
        exact ⟨_, by first | rfl | (simp [errW_none, errW_some] <;> rfl) | (simp [*, errW_none, errW_some] <;> rfl), by (with_reducible repeat (first | apply Kd.R_alloc | apply Kd.R_drewN | apply Kd.R_drew)); exact HO_4.out, by repeat (first | (with_reducible first | exact HB.out | apply below_alloc | apply pw_below_drewN | apply below_drew1) | exact HB.out)⟩

-- FOREIGN: function 16 (impl_ListHTML)

end Go.Proofs.YthjpchabeemfmaaGreatDoor.P
