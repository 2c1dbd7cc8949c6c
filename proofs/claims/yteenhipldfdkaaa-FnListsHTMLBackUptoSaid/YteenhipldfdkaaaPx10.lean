/- Printed by a program of this session (pf.sh): Go functions as Lean functions, with their contracts. -/
import Derived.Test.YteenhipldfdkaaaPx0
import Derived.Test.YteenhipldfdkaaaPx1
import Derived.Test.YteenhipldfdkaaaFf
namespace Go.Proofs.Yteenhipldfdkaaa.P
open Go.RowKit Go.Proofs.YteenhipldfdkaaaW.PrintWords Go.Proofs.YteenhipldfdkaaaW.PrintLast Go.Proofs.YteenhipldfdkaaaW.PrintMore
attribute [local go_sem] max2_int min2_int max_two min_two max_three min_three max_four min_four   -- for this text's walks alone
set_option linter.unusedVariables false
set_option linter.unusedSimpArgs false

attribute [local go_sem high] eqA43
/-! ### spec_LtHTMLBack: function 15 -/
mutual
def spec_LtHTMLBack.l0 : Nat → List (S43) → Int → List ByteArray → Int → Int → Option ((List (S43)) × Bool)
  | 0, _, _, _, _, _ => none
  | k + 1, x4, x5, x14, x15, x16 => if x16 < x15 then (if 0 ≤ x16 then (if x16 < (x14.length : Int) then (spec_LtHTMLBack.l1 k x4 x5 (rdOf ByteArray.empty x14 x16) x14 x15 x16) else (none)) else (none)) else (some (x4, (x5 == (-1))))
def spec_LtHTMLBack.j2 : Nat → List (S43) → Int → ByteArray → List ByteArray → Int → Int → Option ((List (S43)) × Bool)
  | 0, _, _, _, _, _, _ => none
  | k + 1, x4, x5, x8, x14, x15, x16 => (spec_LsBegins.f x8 (⟨#[60, 117, 108, 32]⟩ : ByteArray)).bind fun bt199 => (if bt199.2 = true then (spec_LtHTMLBack.l0 k x4 (wrap64 (x5 + 1)) x14 x15 (wrap64 (x16 + 1))) else (if x8.toList = ([60, 47, 117, 108, 62] : List UInt8) then (spec_LtHTMLBack.l0 k x4 (wrap64 (x5 - 1)) x14 x15 (wrap64 (x16 + 1))) else ((spec_LsBegins.f x8 (⟨#[60, 108, 105, 62]⟩ : ByteArray)).bind fun bt201 => (if bt201.2 = true then (if (bt201.1.size : Int) < 5 then (some (([] : List (S43)), false)) else (if 0 ≤ (wrap64 ((bt201.1.size : Int) - 5)) then (if (wrap64 ((bt201.1.size : Int) - 5)) ≤ (bt201.1.size : Int) then (if (bt201.1.extract ((wrap64 ((bt201.1.size : Int) - 5)) : Int).toNat bt201.1.size).toList = ([60, 47, 108, 105, 62] : List UInt8) then (if x4.length < 5864062014805 then (spec_LtHTMLBack.l0 k (x4 ++ [(⟨bt201.1.extract 0 ((wrap64 ((bt201.1.size : Int) - 5)) : Int).toNat, x5⟩ : S43)]) x5 x14 x15 (wrap64 (x16 + 1))) else (none)) else (some (([] : List (S43)), false))) else (none)) else (none))) else (some (([] : List (S43)), false))))))
def spec_LtHTMLBack.l1 : Nat → List (S43) → Int → ByteArray → List ByteArray → Int → Int → Option ((List (S43)) × Bool)
  | 0, _, _, _, _, _, _ => none
  | k + 1, x4, x5, x8, x14, x15, x16 => if x8.toList = ([] : List UInt8) then (spec_LtHTMLBack.j2 k x4 x5 x8 x14 x15 x16) else (if 0 < (x8.size : Int) then (if (bt x8 0) = 32 then (if 1 ≤ (x8.size : Int) then (spec_LtHTMLBack.l1 k x4 x5 (x8.extract 1 x8.size) x14 x15 x16) else (none)) else (spec_LtHTMLBack.j2 k x4 x5 x8 x14 x15 x16)) else (none))
end
def spec_LtHTMLBack.f (k : Nat) (a0 : ByteArray) : Option ((List (S43)) × Bool) := (spec_TxLines.f a0).bind fun t195 => (spec_LtHTMLBack.l0 k ([] : List (S43)) (-1) t195 (t195.length : Int) 0)
theorem spec_LtHTMLBack.mono_l : ∀ k, (∀ y0 y1 y2 y3 y4, LeO (spec_LtHTMLBack.l0 k y0 y1 y2 y3 y4) (spec_LtHTMLBack.l0 (k + 1) y0 y1 y2 y3 y4)) ∧ (∀ y0 y1 y2 y3 y4 y5, LeO (spec_LtHTMLBack.j2 k y0 y1 y2 y3 y4 y5) (spec_LtHTMLBack.j2 (k + 1) y0 y1 y2 y3 y4 y5)) ∧ (∀ y0 y1 y2 y3 y4 y5, LeO (spec_LtHTMLBack.l1 k y0 y1 y2 y3 y4 y5) (spec_LtHTMLBack.l1 (k + 1) y0 y1 y2 y3 y4 y5))
  | 0 => ⟨fun _ _ _ _ _ r h => by simp [spec_LtHTMLBack.l0] at h, fun _ _ _ _ _ _ r h => by simp [spec_LtHTMLBack.j2] at h, fun _ _ _ _ _ _ r h => by simp [spec_LtHTMLBack.l1] at h⟩
  | k + 1 => by
    obtain ⟨ih0, ih1, ih2⟩ := spec_LtHTMLBack.mono_l k
    refine ⟨?_, ?_, ?_⟩
    · intro y0 y1 y2 y3 y4
      unfold spec_LtHTMLBack.l0
      repeat' first
      | (with_reducible exact ih0 _ _ _ _ _)
      | (with_reducible exact ih1 _ _ _ _ _ _)
      | (with_reducible exact ih2 _ _ _ _ _ _)
      | (with_reducible exact LeO.refl _)
      | (with_reducible exact LeO.none _)
      | (with_reducible refine LeO.ite ?_ ?_)
      | (with_reducible refine LeO.bind ?_ (fun _ => ?_))
      | exact ih0 _ _ _ _ _
      | exact ih1 _ _ _ _ _ _
      | exact ih2 _ _ _ _ _ _
      | exact LeO.none _
      | refine LeO.ite ?_ ?_
      | refine LeO.bind ?_ (fun _ => ?_)
    · intro y0 y1 y2 y3 y4 y5
      unfold spec_LtHTMLBack.j2
      repeat' first
      | (with_reducible exact ih0 _ _ _ _ _)
      | (with_reducible exact ih1 _ _ _ _ _ _)
      | (with_reducible exact ih2 _ _ _ _ _ _)
      | (with_reducible exact LeO.refl _)
      | (with_reducible exact LeO.none _)
      | (with_reducible refine LeO.ite ?_ ?_)
      | (with_reducible refine LeO.bind ?_ (fun _ => ?_))
      | exact ih0 _ _ _ _ _
      | exact ih1 _ _ _ _ _ _
      | exact ih2 _ _ _ _ _ _
      | exact LeO.none _
      | refine LeO.ite ?_ ?_
      | refine LeO.bind ?_ (fun _ => ?_)
    · intro y0 y1 y2 y3 y4 y5
      unfold spec_LtHTMLBack.l1
      repeat' first
      | (with_reducible exact ih0 _ _ _ _ _)
      | (with_reducible exact ih1 _ _ _ _ _ _)
      | (with_reducible exact ih2 _ _ _ _ _ _)
      | (with_reducible exact LeO.refl _)
      | (with_reducible exact LeO.none _)
      | (with_reducible refine LeO.ite ?_ ?_)
      | (with_reducible refine LeO.bind ?_ (fun _ => ?_))
      | exact ih0 _ _ _ _ _
      | exact ih1 _ _ _ _ _ _
      | exact ih2 _ _ _ _ _ _
      | exact LeO.none _
      | refine LeO.ite ?_ ?_
      | refine LeO.bind ?_ (fun _ => ?_)
theorem spec_LtHTMLBack.mono : ∀ a0 k, LeO (spec_LtHTMLBack.f k a0) (spec_LtHTMLBack.f (k + 1) a0) := by
  intro a0 k
  obtain ⟨ih0, ih1, ih2⟩ := spec_LtHTMLBack.mono_l k
  unfold spec_LtHTMLBack.f
  repeat' first
      | (with_reducible exact ih0 _ _ _ _ _)
      | (with_reducible exact ih1 _ _ _ _ _ _)
      | (with_reducible exact ih2 _ _ _ _ _ _)
      | (with_reducible exact LeO.refl _)
      | (with_reducible exact LeO.none _)
      | (with_reducible refine LeO.ite ?_ ?_)
      | (with_reducible refine LeO.bind ?_ (fun _ => ?_))
      | exact ih0 _ _ _ _ _
      | exact ih1 _ _ _ _ _ _
      | exact ih2 _ _ _ _ _ _
      | exact LeO.none _
      | refine LeO.ite ?_ ?_
      | refine LeO.bind ?_ (fun _ => ?_)
set_option maxHeartbeats 8000000 in
set_option maxRecDepth 100000 in
theorem spec_LtHTMLBack.calls (k : Nat) (a0 : ByteArray) (r1 : List (S43)) (r2 : Bool) (w : World) (h : spec_LtHTMLBack.f k a0 = some (r1, r2)) :
    Calls Try.prog 15 #[.string a0] w fun e w' => ∃ v0_ : Value, e = .returned (.tuple #[v0_, .bool r2]) ∧ Kd.R k43 43 w' w.heap.size (fun _ => True) v0_ r1 ∧ Below w.heap.size w w' := by
  have hu43 := Try.underlying43
  have HB := Aside0.mk (Below.refl w.heap.size w)
  have H : ((spec_TxLines.f a0).bind fun t195 => (spec_LtHTMLBack.l0 k ([] : List (S43)) (-1) t195 (t195.length : Int) 0)) = some (r1, r2) := h
  clear h
  replace H := Option.bind_eq_some_iff.mp H
  obtain ⟨t195, A20, H⟩ := H
  replace H : (spec_LtHTMLBack.l0 k ([] : List (S43)) (-1) t195 (t195.length : Int) 0) = some (r1, r2) := H
  have A2 := Aside0.mk A20
  clear A20
  have H' := Aside0.mk H
  clear H
  go_enter Try.func15, Try.ntmps15
  go_wp2_with (first | ((with_reducible refine gate_callee (f := 11) rfl ?_); refine goesL_ (some 14) rfl rfl Try.func11 (by kernel_rfl) rfl #[.string a0] rfl (by (try simp only [List.map_toArray, List.map_cons, List.map_nil]); first | done | rfl | (simp only [List.length_drop, List.length_take]; rfl)) ?_; (with_reducible refine (spec_TxLines.calls a0 t195 _ A2.out).mono ?_); rintro e w3 ⟨v196, rfl, ho0, hb⟩; refine ⟨_, rfl, ?_⟩; have n0_ := Aside0.mk (Kd.R_lower ho0 (below_size (by repeat (first | (with_reducible first | exact HB.out | apply below_alloc | apply pw_below_drewN | apply below_drew1) | exact HB.out)))); have n1_ := Aside0.mk (below_step (by repeat (first | (with_reducible first | exact HB.out | apply below_alloc | apply pw_below_drewN | apply below_drew1) | exact HB.out)) hb); clear HB; have HO197 := n0_; have HB := n1_; clear n0_ n1_; (try clear hb); (try clear hb2); (try clear hk); (try clear hi); (try clear ho0); obtain ⟨Ao4, co4, eo4⟩ := Kd.R_slice HO197.out; subst eo4))
  go_loopg [4, 5, 16] k (fun kq v4 v5 v16 w' => ∃ (x4_1 : List (S43)) (x5_1 : Int) (x16_1 : Int), v5 = .int .i64 x5_1 ∧ v16 = .int .i64 x16_1 ∧ Aside0 (spec_LtHTMLBack.l0 kq x4_1 x5_1 t195 (t195.length : Int) x16_1 = some (r1, r2)) ∧ Aside0 (kq ≤ k) ∧ Aside0 (Kd.R k43 43 w' w.heap.size (fun _ => True) v4 x4_1) ∧ Aside0 (Kd.R Kd.string 9 w' w.heap.size (fun _ => True) (.slice Ao4 t195.length co4) t195) ∧ Aside0 (Below w.heap.size w w'))
  case atStart => exact ⟨(([] : List (S43))), ((-1)), (0), (by first | rfl | (simp; done) | (simp [*]; done)), (by first | rfl | (simp; done) | (simp [*]; done)), H', ⟨Nat.le_refl _⟩, ⟨by first | exact Kd.R_nil _ _ _ _ _ | exact Kd.N_nil _ _ _ _ _ | exact Kd.V_nil _ _ _ _ _ | exact Kd.Q_nil _ _ _ _ _ | exact Kd.S_nil _ _ _ _ _⟩, ⟨by (with_reducible repeat (first | apply Kd.R_alloc | apply Kd.R_drewN | apply Kd.R_drew)); exact HO197.out⟩, ⟨by repeat (first | (with_reducible first | exact HB.out | apply below_alloc | apply pw_below_drewN | apply below_drew1) | exact HB.out)⟩⟩
  case round =>
    clear H'
    try clear c1
    try clear p2
    obtain ⟨x4_1, x5_1, x16_1, rfl, rfl, HA, HK1, HO_4, HO_14, HB⟩ := hrel
    cases gk with
    | zero => exact absurd HA.out (by simp [spec_LtHTMLBack.l0])
    | succ k1 =>
      have H := HA.out
      clear HA
      simp only [spec_LtHTMLBack.l0] at H
      by_cases c5 : x16_1 < (t195.length : Int)
      · rw [if_pos c5] at H
        have c5b0 : decide (x16_1 < (t195.length : Int)) = true := decide_eq_true c5
        clear c5
        by_cases c6 : 0 ≤ x16_1
        · rw [if_pos c6] at H
          have c6b0 : decide (0 ≤ x16_1) = true := decide_eq_true c6
          clear c6
          by_cases c7 : x16_1 < (t195.length : Int)
          · rw [if_pos c7] at H
            have c7b0 : decide (x16_1 < (t195.length : Int)) = true := decide_eq_true c7
            clear c7
            have HC8 := Aside0.mk H
            clear H
            have p198 : 0 ≤ (x16_1 : Int) := of_decide_eq_true (by first | (with_reducible assumption) | assumption)
            have q198 : x16_1 < (t195.length : Int) := of_decide_eq_true (by first | (with_reducible assumption) | assumption)
            obtain ⟨ad198, e198, hx198_0⟩ := Kd.at_string (Kd.R_reads' HO_14.out).2.2 x16_1 p198 q198
            cases e198
            replace p198 := eq_true p198
            replace q198 := eq_true q198
            go_upto_block 2 with (fail)
            go_cut [8] (fun v8 wc => ∃ (kq : Nat) (x8_7 : ByteArray), v8 = .string x8_7 ∧ Aside0 (spec_LtHTMLBack.j2 kq x4_1 x5_1 x8_7 t195 (t195.length : Int) x16_1 = some (r1, r2)) ∧ Aside0 (kq ≤ k1) ∧ Aside0 (Kd.R k43 43 wc w.heap.size (fun _ => True) u4 x4_1) ∧ Aside0 (Kd.R Kd.string 9 wc w.heap.size (fun _ => True) (.slice (some ad198) t195.length co4) t195) ∧ Aside0 (Below w.heap.size w wc))
            case first =>
              have H := HC8.out
              clear HC8
              have H' := Aside0.mk H
              clear H
              go_wp2
              go_loopg [8] k1 (fun kq v8 w' => ∃ (x8_2 : ByteArray), v8 = .string x8_2 ∧ Aside0 (spec_LtHTMLBack.l1 kq x4_1 x5_1 x8_2 t195 (t195.length : Int) x16_1 = some (r1, r2)) ∧ Aside0 (kq ≤ k1) ∧ Aside0 (Kd.R k43 43 w' w.heap.size (fun _ => True) u4 x4_1) ∧ Aside0 (Kd.R Kd.string 9 w' w.heap.size (fun _ => True) (.slice (some ad198) t195.length co4) t195) ∧ Aside0 (Below w.heap.size w w'))
              case atStart => exact ⟨(rdOf ByteArray.empty t195 x16_1), (by first | rfl | (simp; done) | (simp [*]; done)), H', ⟨Nat.le_refl _⟩, ⟨by (with_reducible repeat (first | apply Kd.R_alloc | apply Kd.R_drewN | apply Kd.R_drew)); exact HO_4.out⟩, ⟨by (with_reducible repeat (first | apply Kd.R_alloc | apply Kd.R_drewN | apply Kd.R_drew)); exact HO_14.out⟩, ⟨by repeat (first | (with_reducible first | exact HB.out | apply below_alloc | apply pw_below_drewN | apply below_drew1) | exact HB.out)⟩⟩
              case round =>
                clear H'
                try clear c1
                try clear p1
                try clear q1
                try clear hx1
                try clear p2
                try clear c5
                try clear c5b0
                try clear c6
                try clear c6b0
                try clear c7
                try clear c7b0
                try clear hx198_0
                try clear p198
                try clear p2
                try clear q198
                obtain ⟨x8_2, rfl, HA, HK2, HO_4, HO_14, HB⟩ := hrel
                cases gk with
                | zero => exact absurd HA.out (by simp [spec_LtHTMLBack.l1])
                | succ k2 =>
                  have H := HA.out
                  clear HA
                  simp only [spec_LtHTMLBack.l1] at H
                  by_cases c9 : x8_2.toList = ([] : List UInt8)
                  · rw [if_pos c9] at H
                    have c9b0 : (x8_2.toList == ([] : List UInt8)) = true := beq_iff_eq.mpr c9
                    have c9b7 : x8_2.toList.isEmpty = true := by simpa using c9
                    have c9b1 : (x8_2.toList != ([] : List UInt8)) = false := bne_eq_false_iff_eq.mpr c9
                    clear c9
                    (first | rw [c9b0] | rw [c9b7] | (simp only [i64_w, i32_w]; rw [c9b0]) | skip)
                    have H' := Aside0.mk H
                    clear H
                    go_wp2
                    go_meet
                    case rel => exact ⟨_, (x8_2), (by first | rfl | (simp; done) | (simp [*]; done)), H', ⟨by have := HK1.out; have := HK2.out; first | omega | exact Nat.le_refl _⟩, ⟨by (with_reducible repeat (first | apply Kd.R_alloc | apply Kd.R_drewN | apply Kd.R_drew)); exact HO_4.out⟩, ⟨by (with_reducible repeat (first | apply Kd.R_alloc | apply Kd.R_drewN | apply Kd.R_drew)); exact HO_14.out⟩, ⟨by repeat (first | (with_reducible first | exact HB.out | apply below_alloc | apply pw_below_drewN | apply below_drew1) | exact HB.out)⟩⟩
                  · rw [if_neg c9] at H
                    have c9b0 : (x8_2.toList == ([] : List UInt8)) = false := beq_eq_false_iff_ne.mpr c9
                    have c9b7 : x8_2.toList.isEmpty = false := by simpa using c9
                    have c9b1 : (x8_2.toList != ([] : List UInt8)) = true := bne_iff_ne.mpr c9
                    (first | rw [c9b0] | rw [c9b7] | (simp only [i64_w, i32_w]; rw [c9b0]) | skip)
                    by_cases c10 : 0 < (x8_2.size : Int)
                    · rw [if_pos c10] at H
                      have c10b0 : decide (0 < (x8_2.size : Int)) = true := decide_eq_true c10
                      have c10b1 : decide (0 < x8_2.size) = true := decide_eq_true (by omega)
                      clear c10
                      by_cases c12 : (bt x8_2 0) = 32
                      · rw [if_pos c12] at H
                        have c12b0 : ((bt x8_2 0) == 32) = true := beq_iff_eq.mpr c12
                        have c12b1 : ((bt x8_2 0) != 32) = false := bne_eq_false_iff_eq.mpr c12
                        clear c12
                        by_cases c13 : 1 ≤ (x8_2.size : Int)
                        · rw [if_pos c13] at H
                          have c13b0 := eq_true c13
                          have c13b1 : decide (1 ≤ (x8_2.size : Int)) = true := decide_eq_true c13
                          clear c13
                          have H' := Aside0.mk H
                          clear H
                          have p11 : 0 ≤ (0 : Int) := (by omega)
                          have q11 : 0 < x8_2.size := (by have : (0 : Int) < (x8_2.size : Int) := of_decide_eq_true (by first | (with_reducible assumption) | assumption); omega)
                          have hx11 : ∀ h : 0 < x8_2.size, ((x8_2[0]'h).toNat : Int) = bt x8_2 0 := bt_at x8_2 0
                          clear p11
                          have qi11 : (0 < (x8_2.size : Int)) = True := eq_true (of_decide_eq_true (by first | (with_reducible assumption) | assumption))
                          replace q11 := eq_true q11
                          go_wp2
                          go_roundg k2
                          case measure => have := HK1.out; have := HK2.out; omega
                          case rel => exact ⟨(x8_2.extract 1 x8_2.size), (by first | rfl | (simp; done) | (simp [*]; done)), H', ⟨by have := HK1.out; have := HK2.out; omega⟩, ⟨by (with_reducible repeat (first | apply Kd.R_alloc | apply Kd.R_drewN | apply Kd.R_drew)); exact HO_4.out⟩, ⟨by (with_reducible repeat (first | apply Kd.R_alloc | apply Kd.R_drewN | apply Kd.R_drew)); exact HO_14.out⟩, ⟨by repeat (first | (with_reducible first | exact HB.out | apply below_alloc | apply pw_below_drewN | apply below_drew1) | exact HB.out)⟩⟩
                        · rw [if_neg c13] at H
                          exact absurd H (by simp)
                      · rw [if_neg c12] at H
                        have c12b0 : ((bt x8_2 0) == 32) = false := beq_eq_false_iff_ne.mpr c12
                        have c12b1 : ((bt x8_2 0) != 32) = true := bne_iff_ne.mpr c12
                        have H' := Aside0.mk H
                        clear H
                        have p11 : 0 ≤ (0 : Int) := (by omega)
                        have q11 : 0 < x8_2.size := (by have : (0 : Int) < (x8_2.size : Int) := of_decide_eq_true (by first | (with_reducible assumption) | assumption); omega)
                        have hx11 : ∀ h : 0 < x8_2.size, ((x8_2[0]'h).toNat : Int) = bt x8_2 0 := bt_at x8_2 0
                        clear p11
                        have qi11 : (0 < (x8_2.size : Int)) = True := eq_true (of_decide_eq_true (by first | (with_reducible assumption) | assumption))
                        replace q11 := eq_true q11
                        go_wp2
                        go_meet
                        case rel => exact ⟨_, (x8_2), (by first | rfl | (simp; done) | (simp [*]; done)), H', ⟨by have := HK1.out; have := HK2.out; first | omega | exact Nat.le_refl _⟩, ⟨by (with_reducible repeat (first | apply Kd.R_alloc | apply Kd.R_drewN | apply Kd.R_drew)); exact HO_4.out⟩, ⟨by (with_reducible repeat (first | apply Kd.R_alloc | apply Kd.R_drewN | apply Kd.R_drew)); exact HO_14.out⟩, ⟨by repeat (first | (with_reducible first | exact HB.out | apply below_alloc | apply pw_below_drewN | apply below_drew1) | exact HB.out)⟩⟩
                    · rw [if_neg c10] at H
                      exact absurd H (by simp)
            case rest =>
              clear HC8
              try clear c1
              try clear p1
              try clear q1
              try clear hx1
              try clear qi1
              try clear p2
              try clear c5
              try clear c5b0
              try clear c6
              try clear c6b0
              try clear c7
              try clear c7b0
              try clear c9
              try clear c9b0
              try clear c9b1
              try clear c10
              try clear c10b0
              try clear c10b1
              try clear c11
              try clear p11
              try clear q11
              try clear hx11
              try clear qi11
              try clear c12
              try clear c12b0
              try clear c12b1
              try clear c13
              try clear c13b0
              try clear c13b1
              try clear hx198_0
              try clear p1
              try clear p11
              try clear p198
              try clear p2
              try clear q1
              try clear q11
              try clear q198
              obtain ⟨kq, x8_7, rfl, HA, HJ7, HO_4, HO_14, HB⟩ := hcut
              cases kq with
              | zero => exact absurd HA.out (by simp [spec_LtHTMLBack.j2])
              | succ kj7 =>
                have H := HA.out
                clear HA
                simp only [spec_LtHTMLBack.j2] at H
                replace H := Option.bind_eq_some_iff.mp H
                obtain ⟨⟨t199, t200⟩, A140, H⟩ := H
                replace H : (if t200 = true then (spec_LtHTMLBack.l0 kj7 x4_1 (wrap64 (x5_1 + 1)) t195 (t195.length : Int) (wrap64 (x16_1 + 1))) else (if x8_7.toList = ([60, 47, 117, 108, 62] : List UInt8) then (spec_LtHTMLBack.l0 kj7 x4_1 (wrap64 (x5_1 - 1)) t195 (t195.length : Int) (wrap64 (x16_1 + 1))) else ((spec_LsBegins.f x8_7 (⟨#[60, 108, 105, 62]⟩ : ByteArray)).bind fun bt201 => (if bt201.2 = true then (if (bt201.1.size : Int) < 5 then (some (([] : List (S43)), false)) else (if 0 ≤ (wrap64 ((bt201.1.size : Int) - 5)) then (if (wrap64 ((bt201.1.size : Int) - 5)) ≤ (bt201.1.size : Int) then (if (bt201.1.extract ((wrap64 ((bt201.1.size : Int) - 5)) : Int).toNat bt201.1.size).toList = ([60, 47, 108, 105, 62] : List UInt8) then (if x4_1.length < 5864062014805 then (spec_LtHTMLBack.l0 kj7 (x4_1 ++ [(⟨bt201.1.extract 0 ((wrap64 ((bt201.1.size : Int) - 5)) : Int).toNat, x5_1⟩ : S43)]) x5_1 t195 (t195.length : Int) (wrap64 (x16_1 + 1))) else (none)) else (some (([] : List (S43)), false))) else (none)) else (none))) else (some (([] : List (S43)), false)))))) = some (r1, r2) := H
                have A14 := Aside0.mk A140
                clear A140
                by_cases c15 : t200 = true
                · subst c15
                  have H1 : (spec_LtHTMLBack.l0 kj7 x4_1 (wrap64 (x5_1 + 1)) t195 (t195.length : Int) (wrap64 (x16_1 + 1))) = some (r1, r2) := by rw [if_pos rfl] at H; exact H
                  clear H
                  have H := H1
                  clear H1
                  have H' := Aside0.mk H
                  clear H
                  go_wp2_with (first | ((with_reducible refine gate_callee (f := 23) rfl ?_); refine goesL_ (some 32) rfl rfl Try.func23 (by kernel_rfl) rfl #[.string x8_7, .string (⟨#[60, 117, 108, 32]⟩ : ByteArray)] rfl (by (try simp only [List.map_toArray, List.map_cons, List.map_nil]); first | done | rfl | (simp only [List.length_drop, List.length_take]; rfl)) ?_; (with_reducible refine (spec_LsBegins.calls x8_7 (⟨#[60, 117, 108, 32]⟩ : ByteArray) t199 true _ A14.out).mono ?_); rintro e w' ⟨rfl, ⟨nd, rfl⟩⟩; refine ⟨_, rfl, ?_⟩))
                  go_roundg kj7
                  case measure => have := HK1.out; have := HJ7.out; omega
                  case rel => exact ⟨(x4_1), (wrap64 (x5_1 + 1)), (wrap64 (x16_1 + 1)), (by first | rfl | (simp; done) | (simp [*]; done)), (by first | rfl | (simp; done) | (simp [*]; done)), H', ⟨by have := HK1.out; have := HJ7.out; omega⟩, ⟨by (with_reducible repeat (first | apply Kd.R_alloc | apply Kd.R_drewN | apply Kd.R_drew)); exact HO_4.out⟩, ⟨by (with_reducible repeat (first | apply Kd.R_alloc | apply Kd.R_drewN | apply Kd.R_drew)); exact HO_14.out⟩, ⟨by repeat (first | (with_reducible first | exact HB.out | apply below_alloc | apply pw_below_drewN | apply below_drew1) | exact HB.out)⟩⟩
                · replace c15 := Bool.eq_false_iff.mpr c15
                  subst c15
                  have H1 : (if x8_7.toList = ([60, 47, 117, 108, 62] : List UInt8) then (spec_LtHTMLBack.l0 kj7 x4_1 (wrap64 (x5_1 - 1)) t195 (t195.length : Int) (wrap64 (x16_1 + 1))) else ((spec_LsBegins.f x8_7 (⟨#[60, 108, 105, 62]⟩ : ByteArray)).bind fun bt201 => (if bt201.2 = true then (if (bt201.1.size : Int) < 5 then (some (([] : List (S43)), false)) else (if 0 ≤ (wrap64 ((bt201.1.size : Int) - 5)) then (if (wrap64 ((bt201.1.size : Int) - 5)) ≤ (bt201.1.size : Int) then (if (bt201.1.extract ((wrap64 ((bt201.1.size : Int) - 5)) : Int).toNat bt201.1.size).toList = ([60, 47, 108, 105, 62] : List UInt8) then (if x4_1.length < 5864062014805 then (spec_LtHTMLBack.l0 kj7 (x4_1 ++ [(⟨bt201.1.extract 0 ((wrap64 ((bt201.1.size : Int) - 5)) : Int).toNat, x5_1⟩ : S43)]) x5_1 t195 (t195.length : Int) (wrap64 (x16_1 + 1))) else (none)) else (some (([] : List (S43)), false))) else (none)) else (none))) else (some (([] : List (S43)), false))))) = some (r1, r2) := by rw [if_neg (show ¬ (false = true) by decide)] at H; exact H
                  clear H
                  have H := H1
                  clear H1
                  by_cases c16 : x8_7.toList = ([60, 47, 117, 108, 62] : List UInt8)
                  · rw [if_pos c16] at H
                    have c16b0 : (x8_7.toList == ([60, 47, 117, 108, 62] : List UInt8)) = true := beq_iff_eq.mpr c16
                    have c16b1 : (x8_7.toList != ([60, 47, 117, 108, 62] : List UInt8)) = false := bne_eq_false_iff_eq.mpr c16
                    clear c16
                    have H' := Aside0.mk H
                    clear H
                    go_wp2_with (first | ((with_reducible refine gate_callee (f := 23) rfl ?_); refine goesL_ (some 32) rfl rfl Try.func23 (by kernel_rfl) rfl #[.string x8_7, .string (⟨#[60, 117, 108, 32]⟩ : ByteArray)] rfl (by (try simp only [List.map_toArray, List.map_cons, List.map_nil]); first | done | rfl | (simp only [List.length_drop, List.length_take]; rfl)) ?_; (with_reducible refine (spec_LsBegins.calls x8_7 (⟨#[60, 117, 108, 32]⟩ : ByteArray) t199 false _ A14.out).mono ?_); rintro e w' ⟨rfl, ⟨nd, rfl⟩⟩; refine ⟨_, rfl, ?_⟩))
                    go_roundg kj7
                    case measure => have := HK1.out; have := HJ7.out; omega
                    case rel => exact ⟨(x4_1), (wrap64 (x5_1 - 1)), (wrap64 (x16_1 + 1)), (by first | rfl | (simp; done) | (simp [*]; done)), (by first | rfl | (simp; done) | (simp [*]; done)), H', ⟨by have := HK1.out; have := HJ7.out; omega⟩, ⟨by (with_reducible repeat (first | apply Kd.R_alloc | apply Kd.R_drewN | apply Kd.R_drew)); exact HO_4.out⟩, ⟨by (with_reducible repeat (first | apply Kd.R_alloc | apply Kd.R_drewN | apply Kd.R_drew)); exact HO_14.out⟩, ⟨by repeat (first | (with_reducible first | exact HB.out | apply below_alloc | apply pw_below_drewN | apply below_drew1) | exact HB.out)⟩⟩
                  · rw [if_neg c16] at H
                    have c16b0 : (x8_7.toList == ([60, 47, 117, 108, 62] : List UInt8)) = false := beq_eq_false_iff_ne.mpr c16
                    have c16b1 : (x8_7.toList != ([60, 47, 117, 108, 62] : List UInt8)) = true := bne_iff_ne.mpr c16
                    replace H := Option.bind_eq_some_iff.mp H
                    obtain ⟨⟨t201, t202⟩, A170, H⟩ := H
                    replace H : (if t202 = true then (if (t201.size : Int) < 5 then (some (([] : List (S43)), false)) else (if 0 ≤ (wrap64 ((t201.size : Int) - 5)) then (if (wrap64 ((t201.size : Int) - 5)) ≤ (t201.size : Int) then (if (t201.extract ((wrap64 ((t201.size : Int) - 5)) : Int).toNat t201.size).toList = ([60, 47, 108, 105, 62] : List UInt8) then (if x4_1.length < 5864062014805 then (spec_LtHTMLBack.l0 kj7 (x4_1 ++ [(⟨t201.extract 0 ((wrap64 ((t201.size : Int) - 5)) : Int).toNat, x5_1⟩ : S43)]) x5_1 t195 (t195.length : Int) (wrap64 (x16_1 + 1))) else (none)) else (some (([] : List (S43)), false))) else (none)) else (none))) else (some (([] : List (S43)), false))) = some (r1, r2) := H
                    have A17 := Aside0.mk A170
                    clear A170
                    by_cases c18 : t202 = true
                    · subst c18
                      have H1 : (if (t201.size : Int) < 5 then (some (([] : List (S43)), false)) else (if 0 ≤ (wrap64 ((t201.size : Int) - 5)) then (if (wrap64 ((t201.size : Int) - 5)) ≤ (t201.size : Int) then (if (t201.extract ((wrap64 ((t201.size : Int) - 5)) : Int).toNat t201.size).toList = ([60, 47, 108, 105, 62] : List UInt8) then (if x4_1.length < 5864062014805 then (spec_LtHTMLBack.l0 kj7 (x4_1 ++ [(⟨t201.extract 0 ((wrap64 ((t201.size : Int) - 5)) : Int).toNat, x5_1⟩ : S43)]) x5_1 t195 (t195.length : Int) (wrap64 (x16_1 + 1))) else (none)) else (some (([] : List (S43)), false))) else (none)) else (none))) = some (r1, r2) := by rw [if_pos rfl] at H; exact H
                      clear H
                      have H := H1
                      clear H1
                      by_cases c19 : (t201.size : Int) < 5
                      · rw [if_pos c19] at H
                        have c19b0 : decide ((t201.size : Int) < 5) = true := decide_eq_true c19
                        have c19b1 : decide (t201.size < 5) = true := decide_eq_true (by omega)
                        clear c19
                        simp only [Option.some.injEq, Prod.mk.injEq] at H
                        obtain ⟨rfl, rfl⟩ := H
                        go_wp2_with (first | ((with_reducible refine gate_callee (f := 23) rfl ?_); refine goesL_ (some 32) rfl rfl Try.func23 (by kernel_rfl) rfl #[.string x8_7, .string (⟨#[60, 117, 108, 32]⟩ : ByteArray)] rfl (by (try simp only [List.map_toArray, List.map_cons, List.map_nil]); first | done | rfl | (simp only [List.length_drop, List.length_take]; rfl)) ?_; (with_reducible refine (spec_LsBegins.calls x8_7 (⟨#[60, 117, 108, 32]⟩ : ByteArray) t199 false _ A14.out).mono ?_); rintro e w' ⟨rfl, ⟨nd, rfl⟩⟩; refine ⟨_, rfl, ?_⟩) | ((with_reducible refine gate_callee (f := 23) rfl ?_); refine goesL_ (some 44) rfl rfl Try.func23 (by kernel_rfl) rfl #[.string x8_7, .string (⟨#[60, 108, 105, 62]⟩ : ByteArray)] rfl (by (try simp only [List.map_toArray, List.map_cons, List.map_nil]); first | done | rfl | (simp only [List.length_drop, List.length_take]; rfl)) ?_; (with_reducible refine (spec_LsBegins.calls x8_7 (⟨#[60, 108, 105, 62]⟩ : ByteArray) t201 true _ A17.out).mono ?_); rintro e w' ⟨rfl, ⟨nd, rfl⟩⟩; refine ⟨_, rfl, ?_⟩))
                        go_ret2
                        exact ⟨_, by first | rfl | (simp [errW_none, errW_some] <;> rfl) | (simp [*, errW_none, errW_some] <;> rfl), by first | exact Kd.R_nil _ _ _ _ _ | exact Kd.N_nil _ _ _ _ _ | exact Kd.V_nil _ _ _ _ _ | exact Kd.Q_nil _ _ _ _ _ | exact Kd.S_nil _ _ _ _ _, by repeat (first | (with_reducible first | exact HB.out | apply below_alloc | apply pw_below_drewN | apply below_drew1) | exact HB.out)⟩
                      · rw [if_neg c19] at H
                        have c19b0 : decide ((t201.size : Int) < 5) = false := decide_eq_false c19
                        have c19b1 : decide (t201.size < 5) = false := decide_eq_false (by omega)
                        clear c19
                        obtain ⟨ji20, hji20⟩ : ∃ j_ : Int, (wrap64 ((t201.size : Int) - 5)) = j_ := ⟨_, rfl⟩
                        replace H : (if 0 ≤ (ji20) then (if (ji20) ≤ (t201.size : Int) then (if (t201.extract ((ji20) : Int).toNat t201.size).toList = ([60, 47, 108, 105, 62] : List UInt8) then (if x4_1.length < 5864062014805 then (spec_LtHTMLBack.l0 kj7 (x4_1 ++ [(⟨t201.extract 0 ((ji20) : Int).toNat, x5_1⟩ : S43)]) x5_1 t195 (t195.length : Int) (wrap64 (x16_1 + 1))) else (none)) else (some (([] : List (S43)), false))) else (none)) else (none)) = some (r1, r2) := by first | (rw [hji20] at H; exact H) | (simp only [hji20] at H ⊢; exact H)
                        (try rw [hji20] at A14)
                        (try rw [hji20] at A17)
                        have hji20w : (IntKind.i64.wrap ((t201.size : Int) - 5)) = ji20 := (i64_w _).trans hji20
                        by_cases c21 : 0 ≤ (ji20)
                        · rw [if_pos c21] at H
                          have c21b0 := eq_true c21
                          have c21b1 : decide (0 ≤ (ji20)) = true := decide_eq_true c21
                          clear c21
                          by_cases c22 : (ji20) ≤ (t201.size : Int)
                          · rw [if_pos c22] at H
                            have c22b0 := eq_true c22
                            have c22b1 : decide ((ji20) ≤ (t201.size : Int)) = true := decide_eq_true c22
                            clear c22
                            by_cases c23 : (t201.extract ((ji20) : Int).toNat t201.size).toList = ([60, 47, 108, 105, 62] : List UInt8)
                            · rw [if_pos c23] at H
                              have c23b0 : ((t201.extract ((ji20) : Int).toNat t201.size).toList == ([60, 47, 108, 105, 62] : List UInt8)) = true := beq_iff_eq.mpr c23
                              have c23b1 : ((t201.extract ((ji20) : Int).toNat t201.size).toList != ([60, 47, 108, 105, 62] : List UInt8)) = false := bne_eq_false_iff_eq.mpr c23
                              clear c23
                              have c24b0 := eq_true (of_decide_eq_true (by first | (with_reducible assumption) | assumption) : 0 ≤ (ji20))
                              have c25b0 := eq_true (of_decide_eq_true (by first | (with_reducible assumption) | assumption) : (ji20) ≤ (t201.size : Int))
                              by_cases c26 : x4_1.length < 5864062014805
                              · rw [if_pos c26] at H
                                have LMc26 := Aside0.mk c26
                                clear c26
                                obtain ⟨y203, hy203⟩ : ∃ y_ : List (S43), y_ = (x4_1 ++ [(⟨t201.extract 0 ((ji20) : Int).toNat, x5_1⟩ : S43)]) := ⟨_, rfl⟩
                                replace H : (spec_LtHTMLBack.l0 kj7 y203 x5_1 t195 (t195.length : Int) (wrap64 (x16_1 + 1))) = some (r1, r2) := by first | (rw [hy203]; with_reducible exact H) | (have H2_ := (Option.bind_some _ _).symm.trans H; rw [hy203]; with_reducible exact H2_) | (have H2_ := (Option.bind_some _ _).symm.trans H; with_reducible exact H2_) | with_reducible exact H | (rw [hy203]; exact H) | exact H
                                have Ny203 := Aside0.mk hy203
                                clear hy203
                                have H' := Aside0.mk H
                                clear H
                                go_wp2_with (first | ((with_reducible refine gate_callee (f := 23) rfl ?_); refine goesL_ (some 32) rfl rfl Try.func23 (by kernel_rfl) rfl #[.string x8_7, .string (⟨#[60, 117, 108, 32]⟩ : ByteArray)] rfl (by (try simp only [List.map_toArray, List.map_cons, List.map_nil]); first | done | rfl | (simp only [List.length_drop, List.length_take]; rfl)) ?_; (with_reducible refine (spec_LsBegins.calls x8_7 (⟨#[60, 117, 108, 32]⟩ : ByteArray) t199 false _ A14.out).mono ?_); rintro e w' ⟨rfl, ⟨nd, rfl⟩⟩; refine ⟨_, rfl, ?_⟩) | ((with_reducible refine gate_callee (f := 23) rfl ?_); refine goesL_ (some 44) rfl rfl Try.func23 (by kernel_rfl) rfl #[.string x8_7, .string (⟨#[60, 108, 105, 62]⟩ : ByteArray)] rfl (by (try simp only [List.map_toArray, List.map_cons, List.map_nil]); first | done | rfl | (simp only [List.length_drop, List.length_take]; rfl)) ?_; (with_reducible refine (spec_LsBegins.calls x8_7 (⟨#[60, 108, 105, 62]⟩ : ByteArray) t201 true _ A17.out).mono ?_); rintro e w' ⟨rfl, ⟨nd, rfl⟩⟩; refine ⟨_, rfl, ?_⟩) | ((with_reducible refine gate_builtin (b := .append) (xs := #[.tmp 62, .tmp 70]) rfl ?_); (try (refine gate_guard (by rfl) ?_; dsimp only)); at_builtin; refine Kd.R_append k43 (w0 := w) w.heap.size rfl (.tmp 62) (.tmp 70) 24 43 (.agg #[(.string ⟨#[]⟩), (.int .i64 0)]) 24 rfl Try.underlying24 info43 rfl (by decide) (by omega) u4 x4_1 (⟨t201.extract 0 ((ji20) : Int).toNat, x5_1⟩ : S43) [.string (t201.extract 0 ((ji20) : Int).toNat), .int .i64 x5_1] (fun _ => True) (fun _ => False) rfl rfl ?aP (fun _ hk => hk.elim) ?aF ?aO ?aB ?aS ?aL ?_; (case aP => exact k43_mkM _ _ _ (⟨t201.extract 0 ((ji20) : Int).toNat, x5_1⟩ : S43)); (case aB => exact (by repeat (first | (with_reducible first | exact HB.out | apply below_alloc | apply pw_below_drewN | apply below_drew1) | exact HB.out))); (case aF => exact (fun _ _ => trivial)); (case aO => exact (by (with_reducible repeat (first | apply Kd.R_alloc | apply Kd.R_drewN | apply Kd.R_drew)); exact HO_4.out)); (case aS => exact (below_size (by repeat (first | (with_reducible first | exact HB.out | apply below_alloc | apply pw_below_drewN | apply below_drew1) | exact HB.out)))); (case aL => have := LMc26.out; omega); intro v204 w27 ho hb hg hat; rw [← Ny203.out] at ho; have n0_ := Aside0.mk (Kd.R_over' (by (with_reducible repeat (first | apply Kd.R_alloc | apply Kd.R_drewN | apply Kd.R_drew)); exact HO_14.out) (Kd.R_typed (by (with_reducible repeat (first | apply Kd.R_alloc | apply Kd.R_drewN | apply Kd.R_drew)); exact HO_4.out)) (by decide) hg); have n1_ := Aside0.mk (hb); have n2_ := Aside0.mk (ho); clear HO_14; clear HB; clear HO_4; have HO_14 := n0_; have HB := n1_; have HO205 := n2_; clear n0_ n1_ n2_; clear ho hb hg hat))
                                go_roundg kj7
                                case measure => have := HK1.out; have := HJ7.out; omega
                                case rel => exact ⟨(y203), (x5_1), (wrap64 (x16_1 + 1)), (by first | rfl | (simp; done) | (simp [*]; done)), (by first | rfl | (simp; done) | (simp [*]; done)), H', ⟨by have := HK1.out; have := HJ7.out; omega⟩, ⟨by (with_reducible repeat (first | apply Kd.R_alloc | apply Kd.R_drewN | apply Kd.R_drew)); exact HO205.out⟩, ⟨by (with_reducible repeat (first | apply Kd.R_alloc | apply Kd.R_drewN | apply Kd.R_drew)); exact HO_14.out⟩, ⟨by repeat (first | (with_reducible first | exact HB.out | apply below_alloc | apply pw_below_drewN | apply below_drew1) | exact HB.out)⟩⟩
                              · rw [if_neg c26] at H
                                exact absurd H (by simp)
                            · rw [if_neg c23] at H
                              have c23b0 : ((t201.extract ((ji20) : Int).toNat t201.size).toList == ([60, 47, 108, 105, 62] : List UInt8)) = false := beq_eq_false_iff_ne.mpr c23
                              have c23b1 : ((t201.extract ((ji20) : Int).toNat t201.size).toList != ([60, 47, 108, 105, 62] : List UInt8)) = true := bne_iff_ne.mpr c23
                              simp only [Option.some.injEq, Prod.mk.injEq] at H
                              obtain ⟨rfl, rfl⟩ := H
                              go_wp2_with (first | ((with_reducible refine gate_callee (f := 23) rfl ?_); refine goesL_ (some 32) rfl rfl Try.func23 (by kernel_rfl) rfl #[.string x8_7, .string (⟨#[60, 117, 108, 32]⟩ : ByteArray)] rfl (by (try simp only [List.map_toArray, List.map_cons, List.map_nil]); first | done | rfl | (simp only [List.length_drop, List.length_take]; rfl)) ?_; (with_reducible refine (spec_LsBegins.calls x8_7 (⟨#[60, 117, 108, 32]⟩ : ByteArray) t199 false _ A14.out).mono ?_); rintro e w' ⟨rfl, ⟨nd, rfl⟩⟩; refine ⟨_, rfl, ?_⟩) | ((with_reducible refine gate_callee (f := 23) rfl ?_); refine goesL_ (some 44) rfl rfl Try.func23 (by kernel_rfl) rfl #[.string x8_7, .string (⟨#[60, 108, 105, 62]⟩ : ByteArray)] rfl (by (try simp only [List.map_toArray, List.map_cons, List.map_nil]); first | done | rfl | (simp only [List.length_drop, List.length_take]; rfl)) ?_; (with_reducible refine (spec_LsBegins.calls x8_7 (⟨#[60, 108, 105, 62]⟩ : ByteArray) t201 true _ A17.out).mono ?_); rintro e w' ⟨rfl, ⟨nd, rfl⟩⟩; refine ⟨_, rfl, ?_⟩))
                              go_ret2
                              exact ⟨_, by first | rfl | (simp [errW_none, errW_some] <;> rfl) | (simp only [← hji20]; first | rfl | (simp [errW_none, errW_some] <;> rfl)) | (simp [*, errW_none, errW_some] <;> rfl), by first | exact Kd.R_nil _ _ _ _ _ | exact Kd.N_nil _ _ _ _ _ | exact Kd.V_nil _ _ _ _ _ | exact Kd.Q_nil _ _ _ _ _ | exact Kd.S_nil _ _ _ _ _, by repeat (first | (with_reducible first | exact HB.out | apply below_alloc | apply pw_below_drewN | apply below_drew1) | exact HB.out)⟩
                          · rw [if_neg c22] at H
                            exact absurd H (by simp)
                        · rw [if_neg c21] at H
                          exact absurd H (by simp)
                    · replace c18 := Bool.eq_false_iff.mpr c18
                      subst c18
                      have H1 : (some (([] : List (S43)), false)) = some (r1, r2) := by rw [if_neg (show ¬ (false = true) by decide)] at H; exact H
                      clear H
                      have H := H1
                      clear H1
                      simp only [Option.some.injEq, Prod.mk.injEq] at H
                      obtain ⟨rfl, rfl⟩ := H
                      go_wp2_with (first | ((with_reducible refine gate_callee (f := 23) rfl ?_); refine goesL_ (some 32) rfl rfl Try.func23 (by kernel_rfl) rfl #[.string x8_7, .string (⟨#[60, 117, 108, 32]⟩ : ByteArray)] rfl (by (try simp only [List.map_toArray, List.map_cons, List.map_nil]); first | done | rfl | (simp only [List.length_drop, List.length_take]; rfl)) ?_; (with_reducible refine (spec_LsBegins.calls x8_7 (⟨#[60, 117, 108, 32]⟩ : ByteArray) t199 false _ A14.out).mono ?_); rintro e w' ⟨rfl, ⟨nd, rfl⟩⟩; refine ⟨_, rfl, ?_⟩) | ((with_reducible refine gate_callee (f := 23) rfl ?_); refine goesL_ (some 44) rfl rfl Try.func23 (by kernel_rfl) rfl #[.string x8_7, .string (⟨#[60, 108, 105, 62]⟩ : ByteArray)] rfl (by (try simp only [List.map_toArray, List.map_cons, List.map_nil]); first | done | rfl | (simp only [List.length_drop, List.length_take]; rfl)) ?_; (with_reducible refine (spec_LsBegins.calls x8_7 (⟨#[60, 108, 105, 62]⟩ : ByteArray) t201 false _ A17.out).mono ?_); rintro e w' ⟨rfl, ⟨nd, rfl⟩⟩; refine ⟨_, rfl, ?_⟩))
                      go_ret2
                      exact ⟨_, by first | rfl | (simp [errW_none, errW_some] <;> rfl) | (simp [*, errW_none, errW_some] <;> rfl), by first | exact Kd.R_nil _ _ _ _ _ | exact Kd.N_nil _ _ _ _ _ | exact Kd.V_nil _ _ _ _ _ | exact Kd.Q_nil _ _ _ _ _ | exact Kd.S_nil _ _ _ _ _, by repeat (first | (with_reducible first | exact HB.out | apply below_alloc | apply pw_below_drewN | apply below_drew1) | exact HB.out)⟩
          · rw [if_neg c7] at H
            exact absurd H (by simp)
        · rw [if_neg c6] at H
          exact absurd H (by simp)
      · rw [if_neg c5] at H
        have c5b0 : decide (x16_1 < (t195.length : Int)) = false := decide_eq_false c5
        clear c5
        simp only [Option.some.injEq, Prod.mk.injEq] at H
        obtain ⟨rfl, rfl⟩ := H
        go_wp2
        go_ret2
        exact ⟨_, by first | rfl | (simp [errW_none, errW_some] <;> rfl) | (simp [*, errW_none, errW_some] <;> rfl), by (with_reducible repeat (first | apply Kd.R_alloc | apply Kd.R_drewN | apply Kd.R_drew)); exact HO_4.out, by repeat (first | (with_reducible first | exact HB.out | apply below_alloc | apply pw_below_drewN | apply below_drew1) | exact HB.out)⟩

/-! ### spec_LsSame: function 16 -/
def spec_LsSame.l0 : Nat → List (S43) → List (S43) → Int → Int → Option (Bool)
  | 0, _, _, _, _ => none
  | k + 1, x0, x1, x12, x13 => if x13 < x12 then (if 0 ≤ x13 then (if x13 < (x0.length : Int) then (if x13 < (x1.length : Int) then (if (!((((rd_T43 x0 x13).f0).toList) == (((rd_T43 x1 x13).f0).toList)) || (!(((rd_T43 x0 x13).f1) == ((rd_T43 x1 x13).f1)))) = true then (some false) else (spec_LsSame.l0 k x0 x1 x12 (wrap64 (x13 + 1)))) else (none)) else (none)) else (none)) else (some true)
def spec_LsSame.f (k : Nat) (l0 : List (S43)) (l1 : List (S43)) : Option (Bool) := if (l0.length : Int) = (l1.length : Int) then (spec_LsSame.l0 k l0 l1 (l0.length : Int) 0) else (some false)
theorem spec_LsSame.mono_l : ∀ k, (∀ y0 y1 y2 y3, LeO (spec_LsSame.l0 k y0 y1 y2 y3) (spec_LsSame.l0 (k + 1) y0 y1 y2 y3))
  | 0 => fun _ _ _ _ r h => by simp [spec_LsSame.l0] at h
  | k + 1 => by
    have ih0 := spec_LsSame.mono_l k
    · intro y0 y1 y2 y3
      unfold spec_LsSame.l0
      repeat' first
      | (with_reducible exact ih0 _ _ _ _)
      | (with_reducible exact LeO.refl _)
      | (with_reducible exact LeO.none _)
      | (with_reducible refine LeO.ite ?_ ?_)
      | (with_reducible refine LeO.bind ?_ (fun _ => ?_))
      | exact ih0 _ _ _ _
      | exact LeO.none _
      | refine LeO.ite ?_ ?_
      | refine LeO.bind ?_ (fun _ => ?_)
theorem spec_LsSame.mono : ∀ a0 a1 k, LeO (spec_LsSame.f k a0 a1) (spec_LsSame.f (k + 1) a0 a1) := by
  intro a0 a1 k
  have ih0 := spec_LsSame.mono_l k
  unfold spec_LsSame.f
  repeat' first
      | (with_reducible exact ih0 _ _ _ _)
      | (with_reducible exact LeO.refl _)
      | (with_reducible exact LeO.none _)
      | (with_reducible refine LeO.ite ?_ ?_)
      | (with_reducible refine LeO.bind ?_ (fun _ => ?_))
      | exact ih0 _ _ _ _
      | exact LeO.none _
      | refine LeO.ite ?_ ?_
      | refine LeO.bind ?_ (fun _ => ?_)
set_option maxHeartbeats 8000000 in
set_option maxRecDepth 100000 in
theorem spec_LsSame.calls (k : Nat) (A0 : Option Addr) (c0 : Nat) (l0 : List (S43)) (A1 : Option Addr) (c1 : Nat) (l1 : List (S43)) (r : Bool) (w : World) (hr0 : Kd.C k43 w A0 l0.length l0) (hc0 : l0.length ≤ c0) (hr1 : Kd.C k43 w A1 l1.length l1) (hc1 : l1.length ≤ c1) (h : spec_LsSame.f k l0 l1 = some r) :
    Calls Try.prog 16 #[.slice A0 l0.length c0, .slice A1 l1.length c1] w fun e w' => e = .returned (.bool r) ∧ Drawn0 w w' := by
  have hu43 := Try.underlying43
  have HR0 := Aside0.mk hr0
  have HC0 := Aside0.mk hc0
  clear hr0 hc0
  have HR1 := Aside0.mk hr1
  have HC1 := Aside0.mk hc1
  clear hr1 hc1
  have H : (if (l0.length : Int) = (l1.length : Int) then (spec_LsSame.l0 k l0 l1 (l0.length : Int) 0) else (some false)) = some r := h
  clear h
  by_cases c3 : (l0.length : Int) = (l1.length : Int)
  · rw [if_pos c3] at H
    have c3b0 : ((l0.length : Int) == (l1.length : Int)) = true := beq_iff_eq.mpr c3
    have c3b1 : ((l0.length : Int) != (l1.length : Int)) = false := bne_eq_false_iff_eq.mpr c3
    have c3b2 : (l0.length == l1.length) = true := by first | simpa using c3 | (simp at c3 ⊢; omega)
    clear c3
    have H' := Aside0.mk H
    clear H
    go_enter Try.func16, Try.ntmps16
    go_wp2
    repeat (go_quiet (fail); try go_wp2)
    go_loopg [13] k (fun kq v13 w' => ∃ (x13_1 : Int), v13 = .int .i64 x13_1 ∧ Aside0 (spec_LsSame.l0 kq l0 l1 (l0.length : Int) x13_1 = some r) ∧ Aside0 (kq ≤ k) ∧ Drawn0 w w')
    case atStart => exact ⟨(0), (by first | rfl | (simp; done) | (simp [*]; done)), H', ⟨Nat.le_refl _⟩, by repeat (first | exact Drawn0.refl _ | apply Drawn0.step)⟩
    case round =>
      clear H'
      try clear c1
      try clear p2
      try clear c3
      try clear c3b0
      try clear c3b1
      try clear c3b2
      obtain ⟨x13_1, rfl, HA, HK1, ⟨m1, rfl⟩⟩ := hrel
      cases gk with
      | zero => exact absurd HA.out (by simp [spec_LsSame.l0])
      | succ k1 =>
        have H := HA.out
        clear HA
        simp only [spec_LsSame.l0] at H
        by_cases c4 : x13_1 < (l0.length : Int)
        · rw [if_pos c4] at H
          have c4b0 : decide (x13_1 < (l0.length : Int)) = true := decide_eq_true c4
          clear c4
          by_cases c5 : 0 ≤ x13_1
          · rw [if_pos c5] at H
            have c5b0 : decide (0 ≤ x13_1) = true := decide_eq_true c5
            clear c5
            by_cases c6 : x13_1 < (l0.length : Int)
            · rw [if_pos c6] at H
              have c6b0 : decide (x13_1 < (l0.length : Int)) = true := decide_eq_true c6
              clear c6
              by_cases c7 : x13_1 < (l1.length : Int)
              · rw [if_pos c7] at H
                have c7b0 : decide (x13_1 < (l1.length : Int)) = true := decide_eq_true c7
                clear c7
                by_cases c8 : (!((((rd_T43 l0 x13_1).f0).toList) == (((rd_T43 l1 x13_1).f0).toList)) || (!(((rd_T43 l0 x13_1).f1) == ((rd_T43 l1 x13_1).f1)))) = true
                · rw [if_pos c8] at H
                  have c8b0 : (!((((rd_T43 l0 x13_1).f0).toList) == (((rd_T43 l1 x13_1).f0).toList)) || (!(((rd_T43 l0 x13_1).f1) == ((rd_T43 l1 x13_1).f1)))) = true := c8
                  clear c8
                  obtain rfl := Option.some.inj H
                  have p206 : 0 ≤ (x13_1 : Int) := of_decide_eq_true (by first | (with_reducible assumption) | assumption)
                  have q206 : x13_1 < (l0.length : Int) := of_decide_eq_true (by first | (with_reducible assumption) | assumption)
                  obtain ⟨ad206, e206, hx206_0, hx206_1⟩ := at_T43 HR0.out x13_1 p206 q206
                  cases e206
                  replace p206 := eq_true p206
                  replace q206 := eq_true q206
                  have p207 : 0 ≤ (x13_1 : Int) := of_decide_eq_true (by first | (with_reducible assumption) | assumption)
                  have q207 : x13_1 < (l1.length : Int) := of_decide_eq_true (by first | (with_reducible assumption) | assumption)
                  obtain ⟨ad207, e207, hx207_0, hx207_1⟩ := at_T43 HR1.out x13_1 p207 q207
                  cases e207
                  replace p207 := eq_true p207
                  replace q207 := eq_true q207
                  go_wp2
                  repeat (go_quiet (fail); try go_wp2)
                  go_ret
                  exact ⟨by first | rfl | (simp; done) | (simp [*]; done), by repeat (first | exact Drawn0.refl _ | apply Drawn0.step)⟩
                · rw [if_neg c8] at H
                  have c8b0 : (!((((rd_T43 l0 x13_1).f0).toList) == (((rd_T43 l1 x13_1).f0).toList)) || (!(((rd_T43 l0 x13_1).f1) == ((rd_T43 l1 x13_1).f1)))) = false := by simpa using c8
                  clear c8
                  have H' := Aside0.mk H
                  clear H
                  have p206 : 0 ≤ (x13_1 : Int) := of_decide_eq_true (by first | (with_reducible assumption) | assumption)
                  have q206 : x13_1 < (l0.length : Int) := of_decide_eq_true (by first | (with_reducible assumption) | assumption)
                  obtain ⟨ad206, e206, hx206_0, hx206_1⟩ := at_T43 HR0.out x13_1 p206 q206
                  cases e206
                  replace p206 := eq_true p206
                  replace q206 := eq_true q206
                  have p207 : 0 ≤ (x13_1 : Int) := of_decide_eq_true (by first | (with_reducible assumption) | assumption)
                  have q207 : x13_1 < (l1.length : Int) := of_decide_eq_true (by first | (with_reducible assumption) | assumption)
                  obtain ⟨ad207, e207, hx207_0, hx207_1⟩ := at_T43 HR1.out x13_1 p207 q207
                  cases e207
                  replace p207 := eq_true p207
                  replace q207 := eq_true q207
                  go_wp2
                  repeat (go_quiet (fail); try go_wp2)
                  go_roundg k1
                  case measure => have := HK1.out; omega
                  case rel => exact ⟨(wrap64 (x13_1 + 1)), (by first | rfl | (simp; done) | (simp [*]; done)), H', ⟨by have := HK1.out; omega⟩, by repeat (first | exact Drawn0.refl _ | apply Drawn0.step)⟩
              · rw [if_neg c7] at H
                exact absurd H (by simp)
            · rw [if_neg c6] at H
              exact absurd H (by simp)
          · rw [if_neg c5] at H
            exact absurd H (by simp)
        · rw [if_neg c4] at H
          have c4b0 : decide (x13_1 < (l0.length : Int)) = false := decide_eq_false c4
          clear c4
          obtain rfl := Option.some.inj H
          go_wp2
          repeat (go_quiet (fail); try go_wp2)
          go_ret
          exact ⟨by first | rfl | (simp; done) | (simp [*]; done), by repeat (first | exact Drawn0.refl _ | apply Drawn0.step)⟩
  · rw [if_neg c3] at H
    have c3b0 : ((l0.length : Int) == (l1.length : Int)) = false := beq_eq_false_iff_ne.mpr c3
    have c3b1 : ((l0.length : Int) != (l1.length : Int)) = true := bne_iff_ne.mpr c3
    have c3b2 : (l0.length == l1.length) = false := by first | simpa using c3 | (simp at c3 ⊢; omega)
    obtain rfl := Option.some.inj H
    go_enter Try.func16, Try.ntmps16
    go_wp2
    repeat (go_quiet (fail); try go_wp2)
    go_ret
    exact ⟨by first | rfl | (simp; done) | (simp [*]; done), by repeat (first | exact Drawn0.refl _ | apply Drawn0.step)⟩

end Go.Proofs.Yteenhipldfdkaaa.P
