/- Printed by a program of this session (pf.sh): Go functions as Lean functions, with their contracts. -/
import Derived.Test.YthjpchabeemfmaaGreatDoorPx0
import Derived.Test.YthjpchabeemfmaaGreatDoorPx3
import Derived.Test.YthjpchabeemfmaaGreatDoorFf
import Derived.Test.YthjpchabeemfmaaGreatDoorFz
namespace Go.Proofs.YthjpchabeemfmaaGreatDoor.P
open Go.RowKit Go.Proofs.YthjpchabeemfmaaGreatDoorW.PrintWords Go.Proofs.YthjpchabeemfmaaGreatDoorW.PrintLast Go.Proofs.YthjpchabeemfmaaGreatDoorW.PrintMore
attribute [local go_sem] max2_int min2_int max_two min_two max_three min_three max_four min_four   -- for this text's walks alone
set_option linter.unusedVariables false
set_option linter.unusedSimpArgs false

/-! ### spec_LsName: function 20 -/
def spec_LsName.l0 : Nat → ByteArray → Int → Option (Bool)
  | 0, _, _ => none
  | k + 1, x0, x3 => if x3 < (x0.size : Int) then (if 0 ≤ x3 then (if (bt x0 x3) < 97 then (if (bt x0 x3) < 65 then (if (bt x0 x3) < 48 then (if (bt x0 x3) = 32 then (spec_LsName.l0 k x0 (wrap64 (x3 + 1))) else (some false)) else (if (bt x0 x3) > 57 then (if (bt x0 x3) = 32 then (spec_LsName.l0 k x0 (wrap64 (x3 + 1))) else (some false)) else (spec_LsName.l0 k x0 (wrap64 (x3 + 1))))) else (if (bt x0 x3) > 90 then (if (bt x0 x3) < 48 then (if (bt x0 x3) = 32 then (spec_LsName.l0 k x0 (wrap64 (x3 + 1))) else (some false)) else (if (bt x0 x3) > 57 then (if (bt x0 x3) = 32 then (spec_LsName.l0 k x0 (wrap64 (x3 + 1))) else (some false)) else (spec_LsName.l0 k x0 (wrap64 (x3 + 1))))) else (spec_LsName.l0 k x0 (wrap64 (x3 + 1))))) else (if (bt x0 x3) > 122 then (if (bt x0 x3) < 65 then (if (bt x0 x3) < 48 then (if (bt x0 x3) = 32 then (spec_LsName.l0 k x0 (wrap64 (x3 + 1))) else (some false)) else (if (bt x0 x3) > 57 then (if (bt x0 x3) = 32 then (spec_LsName.l0 k x0 (wrap64 (x3 + 1))) else (some false)) else (spec_LsName.l0 k x0 (wrap64 (x3 + 1))))) else (if (bt x0 x3) > 90 then (if (bt x0 x3) < 48 then (if (bt x0 x3) = 32 then (spec_LsName.l0 k x0 (wrap64 (x3 + 1))) else (some false)) else (if (bt x0 x3) > 57 then (if (bt x0 x3) = 32 then (spec_LsName.l0 k x0 (wrap64 (x3 + 1))) else (some false)) else (spec_LsName.l0 k x0 (wrap64 (x3 + 1))))) else (spec_LsName.l0 k x0 (wrap64 (x3 + 1))))) else (spec_LsName.l0 k x0 (wrap64 (x3 + 1))))) else (none)) else ((spec_TxTight.f x0).bind fun t122 => (some t122))
def spec_LsName.f (k : Nat) (a0 : ByteArray) : Option (Bool) := spec_LsName.l0 k a0 0
theorem spec_LsName.mono_l : ∀ k, (∀ y0 y1, LeO (spec_LsName.l0 k y0 y1) (spec_LsName.l0 (k + 1) y0 y1))
  | 0 => fun _ _ r h => by simp [spec_LsName.l0] at h
  | k + 1 => by
    have ih0 := spec_LsName.mono_l k
    · intro y0 y1
      unfold spec_LsName.l0
      repeat' first
      | (with_reducible exact ih0 _ _)
      | (with_reducible exact LeO.refl _)
      | (with_reducible exact LeO.none _)
      | (with_reducible refine LeO.ite ?_ ?_)
      | (with_reducible refine LeO.bind ?_ (fun _ => ?_))
      | exact ih0 _ _
      | exact LeO.none _
      | refine LeO.ite ?_ ?_
      | refine LeO.bind ?_ (fun _ => ?_)
theorem spec_LsName.mono : ∀ a0 k, LeO (spec_LsName.f k a0) (spec_LsName.f (k + 1) a0) := by
  intro a0 k
  have ih0 := spec_LsName.mono_l k
  unfold spec_LsName.f
  repeat' first
      | (with_reducible exact ih0 _ _)
      | (with_reducible exact LeO.refl _)
      | (with_reducible exact LeO.none _)
      | (with_reducible refine LeO.ite ?_ ?_)
      | (with_reducible refine LeO.bind ?_ (fun _ => ?_))
      | exact ih0 _ _
      | exact LeO.none _
      | refine LeO.ite ?_ ?_
      | refine LeO.bind ?_ (fun _ => ?_)
set_option maxHeartbeats 8000000 in
set_option maxRecDepth 100000 in
theorem spec_LsName.calls (k : Nat) (a0 : ByteArray) (r : Bool) (w : World) (h : spec_LsName.f k a0 = some r) :
    Calls Tryz.prog 20 #[.string a0] w fun e w' => e = .returned (.bool r) ∧ Drawn0 w w' := by
  have H : (spec_LsName.l0 k a0 0) = some r := h
  clear h
  have H' := Aside0.mk H
  clear H
  go_enter Tryz.func20, Tryz.ntmps20
  go_wp2
  go_loopg [3] k (fun kq v3 w' => ∃ (x3_1 : Int), v3 = .int .i64 x3_1 ∧ Aside0 (spec_LsName.l0 kq a0 x3_1 = some r) ∧ Aside0 (kq ≤ k) ∧ Drawn0 w w')
  case atStart => exact ⟨(0), (by first | rfl | (simp; done) | (simp [*]; done)), H', ⟨Nat.le_refl _⟩, by repeat (first | exact Drawn0.refl _ | apply Drawn0.step)⟩
  case round =>
    clear H'
    obtain ⟨x3_1, rfl, HA, HK1, ⟨m1, rfl⟩⟩ := hrel
    cases gk with
    | zero => exact absurd HA.out (by simp [spec_LsName.l0])
    | succ k1 =>
      have H := HA.out
      clear HA
      simp only [spec_LsName.l0] at H
      by_cases c2 : x3_1 < (a0.size : Int)
      · rw [if_pos c2] at H
        have c2b0 : decide (x3_1 < (a0.size : Int)) = true := decide_eq_true c2
        clear c2
        by_cases c3 : 0 ≤ x3_1
        · rw [if_pos c3] at H
          have c3b0 : decide (0 ≤ x3_1) = true := decide_eq_true c3
          clear c3
          by_cases c5 : (bt a0 x3_1) < 97
          · rw [if_pos c5] at H
            have c5b0 : decide ((bt a0 x3_1) < 97) = true := decide_eq_true c5
            clear c5
            by_cases c7 : (bt a0 x3_1) < 65
            · rw [if_pos c7] at H
              have c7b0 : decide ((bt a0 x3_1) < 65) = true := decide_eq_true c7
              clear c7
              by_cases c9 : (bt a0 x3_1) < 48
              · rw [if_pos c9] at H
                have c9b0 : decide ((bt a0 x3_1) < 48) = true := decide_eq_true c9
                clear c9
                by_cases c11 : (bt a0 x3_1) = 32
                · rw [if_pos c11] at H
                  have c11b0 : ((bt a0 x3_1) == 32) = true := beq_iff_eq.mpr c11
                  have c11b1 : ((bt a0 x3_1) != 32) = false := bne_eq_false_iff_eq.mpr c11
                  clear c11
                  have H' := Aside0.mk H
                  clear H
                  have p4 : 0 ≤ (x3_1 : Int) := of_decide_eq_true (by first | (with_reducible assumption) | assumption)
                  have q4 : x3_1 < (a0.size : Int) := of_decide_eq_true (by first | (with_reducible assumption) | assumption)
                  have hx4 := bt_at a0 x3_1
                  replace p4 := eq_true p4
                  replace q4 := eq_true q4
                  have p6 : 0 ≤ (x3_1 : Int) := of_decide_eq_true (by first | (with_reducible assumption) | assumption)
                  have q6 : x3_1 < (a0.size : Int) := of_decide_eq_true (by first | (with_reducible assumption) | assumption)
                  have hx6 := bt_at a0 x3_1
                  replace p6 := eq_true p6
                  replace q6 := eq_true q6
                  have p8 : 0 ≤ (x3_1 : Int) := of_decide_eq_true (by first | (with_reducible assumption) | assumption)
                  have q8 : x3_1 < (a0.size : Int) := of_decide_eq_true (by first | (with_reducible assumption) | assumption)
                  have hx8 := bt_at a0 x3_1
                  replace p8 := eq_true p8
                  replace q8 := eq_true q8
                  have p10 : 0 ≤ (x3_1 : Int) := of_decide_eq_true (by first | (with_reducible assumption) | assumption)
                  have q10 : x3_1 < (a0.size : Int) := of_decide_eq_true (by first | (with_reducible assumption) | assumption)
                  have hx10 := bt_at a0 x3_1
                  replace p10 := eq_true p10
                  replace q10 := eq_true q10
                  go_wp2
                  go_roundg k1
                  case measure => have := HK1.out; omega
                  case rel => exact ⟨(wrap64 (x3_1 + 1)), (by first | rfl | (simp; done) | (simp [*]; done)), H', ⟨by have := HK1.out; omega⟩, by repeat (first | exact Drawn0.refl _ | apply Drawn0.step)⟩
                · rw [if_neg c11] at H
                  have c11b0 : ((bt a0 x3_1) == 32) = false := beq_eq_false_iff_ne.mpr c11
                  have c11b1 : ((bt a0 x3_1) != 32) = true := bne_iff_ne.mpr c11
                  obtain rfl := Option.some.inj H
                  have p4 : 0 ≤ (x3_1 : Int) := of_decide_eq_true (by first | (with_reducible assumption) | assumption)
                  have q4 : x3_1 < (a0.size : Int) := of_decide_eq_true (by first | (with_reducible assumption) | assumption)
                  have hx4 := bt_at a0 x3_1
                  replace p4 := eq_true p4
                  replace q4 := eq_true q4
                  have p6 : 0 ≤ (x3_1 : Int) := of_decide_eq_true (by first | (with_reducible assumption) | assumption)
                  have q6 : x3_1 < (a0.size : Int) := of_decide_eq_true (by first | (with_reducible assumption) | assumption)
                  have hx6 := bt_at a0 x3_1
                  replace p6 := eq_true p6
                  replace q6 := eq_true q6
                  have p8 : 0 ≤ (x3_1 : Int) := of_decide_eq_true (by first | (with_reducible assumption) | assumption)
                  have q8 : x3_1 < (a0.size : Int) := of_decide_eq_true (by first | (with_reducible assumption) | assumption)
                  have hx8 := bt_at a0 x3_1
                  replace p8 := eq_true p8
                  replace q8 := eq_true q8
                  have p10 : 0 ≤ (x3_1 : Int) := of_decide_eq_true (by first | (with_reducible assumption) | assumption)
                  have q10 : x3_1 < (a0.size : Int) := of_decide_eq_true (by first | (with_reducible assumption) | assumption)
                  have hx10 := bt_at a0 x3_1
                  replace p10 := eq_true p10
                  replace q10 := eq_true q10
                  go_wp2
                  go_ret
                  exact ⟨by first | rfl | (simp; done) | (simp [*]; done), by repeat (first | exact Drawn0.refl _ | apply Drawn0.step)⟩
              · rw [if_neg c9] at H
                have c9b0 : decide ((bt a0 x3_1) < 48) = false := decide_eq_false c9
                clear c9
                by_cases c13 : (bt a0 x3_1) > 57
                · rw [if_pos c13] at H
                  have c13b0 : decide (57 < (bt a0 x3_1)) = true := decide_eq_true c13
                  clear c13
                  by_cases c15 : (bt a0 x3_1) = 32
                  · rw [if_pos c15] at H
                    have c15b0 : ((bt a0 x3_1) == 32) = true := beq_iff_eq.mpr c15
                    have c15b1 : ((bt a0 x3_1) != 32) = false := bne_eq_false_iff_eq.mpr c15
                    clear c15
                    have H' := Aside0.mk H
                    clear H
                    have p4 : 0 ≤ (x3_1 : Int) := of_decide_eq_true (by first | (with_reducible assumption) | assumption)
                    have q4 : x3_1 < (a0.size : Int) := of_decide_eq_true (by first | (with_reducible assumption) | assumption)
                    have hx4 := bt_at a0 x3_1
                    replace p4 := eq_true p4
                    replace q4 := eq_true q4
                    have p6 : 0 ≤ (x3_1 : Int) := of_decide_eq_true (by first | (with_reducible assumption) | assumption)
                    have q6 : x3_1 < (a0.size : Int) := of_decide_eq_true (by first | (with_reducible assumption) | assumption)
                    have hx6 := bt_at a0 x3_1
                    replace p6 := eq_true p6
                    replace q6 := eq_true q6
                    have p8 : 0 ≤ (x3_1 : Int) := of_decide_eq_true (by first | (with_reducible assumption) | assumption)
                    have q8 : x3_1 < (a0.size : Int) := of_decide_eq_true (by first | (with_reducible assumption) | assumption)
                    have hx8 := bt_at a0 x3_1
                    replace p8 := eq_true p8
                    replace q8 := eq_true q8
                    have p12 : 0 ≤ (x3_1 : Int) := of_decide_eq_true (by first | (with_reducible assumption) | assumption)
                    have q12 : x3_1 < (a0.size : Int) := of_decide_eq_true (by first | (with_reducible assumption) | assumption)
                    have hx12 := bt_at a0 x3_1
                    replace p12 := eq_true p12
                    replace q12 := eq_true q12
                    have p14 : 0 ≤ (x3_1 : Int) := of_decide_eq_true (by first | (with_reducible assumption) | assumption)
                    have q14 : x3_1 < (a0.size : Int) := of_decide_eq_true (by first | (with_reducible assumption) | assumption)
                    have hx14 := bt_at a0 x3_1
                    replace p14 := eq_true p14
                    replace q14 := eq_true q14
                    go_wp2
                    go_roundg k1
                    case measure => have := HK1.out; omega
                    case rel => exact ⟨(wrap64 (x3_1 + 1)), (by first | rfl | (simp; done) | (simp [*]; done)), H', ⟨by have := HK1.out; omega⟩, by repeat (first | exact Drawn0.refl _ | apply Drawn0.step)⟩
                  · rw [if_neg c15] at H
                    have c15b0 : ((bt a0 x3_1) == 32) = false := beq_eq_false_iff_ne.mpr c15
                    have c15b1 : ((bt a0 x3_1) != 32) = true := bne_iff_ne.mpr c15
                    obtain rfl := Option.some.inj H
                    have p4 : 0 ≤ (x3_1 : Int) := of_decide_eq_true (by first | (with_reducible assumption) | assumption)
                    have q4 : x3_1 < (a0.size : Int) := of_decide_eq_true (by first | (with_reducible assumption) | assumption)
                    have hx4 := bt_at a0 x3_1
                    replace p4 := eq_true p4
                    replace q4 := eq_true q4
                    have p6 : 0 ≤ (x3_1 : Int) := of_decide_eq_true (by first | (with_reducible assumption) | assumption)
                    have q6 : x3_1 < (a0.size : Int) := of_decide_eq_true (by first | (with_reducible assumption) | assumption)
                    have hx6 := bt_at a0 x3_1
                    replace p6 := eq_true p6
                    replace q6 := eq_true q6
                    have p8 : 0 ≤ (x3_1 : Int) := of_decide_eq_true (by first | (with_reducible assumption) | assumption)
                    have q8 : x3_1 < (a0.size : Int) := of_decide_eq_true (by first | (with_reducible assumption) | assumption)
                    have hx8 := bt_at a0 x3_1
                    replace p8 := eq_true p8
                    replace q8 := eq_true q8
                    have p12 : 0 ≤ (x3_1 : Int) := of_decide_eq_true (by first | (with_reducible assumption) | assumption)
                    have q12 : x3_1 < (a0.size : Int) := of_decide_eq_true (by first | (with_reducible assumption) | assumption)
                    have hx12 := bt_at a0 x3_1
                    replace p12 := eq_true p12
                    replace q12 := eq_true q12
                    have p14 : 0 ≤ (x3_1 : Int) := of_decide_eq_true (by first | (with_reducible assumption) | assumption)
                    have q14 : x3_1 < (a0.size : Int) := of_decide_eq_true (by first | (with_reducible assumption) | assumption)
                    have hx14 := bt_at a0 x3_1
                    replace p14 := eq_true p14
                    replace q14 := eq_true q14
                    go_wp2
                    go_ret
                    exact ⟨by first | rfl | (simp; done) | (simp [*]; done), by repeat (first | exact Drawn0.refl _ | apply Drawn0.step)⟩
                · rw [if_neg c13] at H
                  have c13b0 : decide (57 < (bt a0 x3_1)) = false := decide_eq_false c13
                  clear c13
                  have H' := Aside0.mk H
                  clear H
                  have p4 : 0 ≤ (x3_1 : Int) := of_decide_eq_true (by first | (with_reducible assumption) | assumption)
                  have q4 : x3_1 < (a0.size : Int) := of_decide_eq_true (by first | (with_reducible assumption) | assumption)
                  have hx4 := bt_at a0 x3_1
                  replace p4 := eq_true p4
                  replace q4 := eq_true q4
                  have p6 : 0 ≤ (x3_1 : Int) := of_decide_eq_true (by first | (with_reducible assumption) | assumption)
                  have q6 : x3_1 < (a0.size : Int) := of_decide_eq_true (by first | (with_reducible assumption) | assumption)
                  have hx6 := bt_at a0 x3_1
                  replace p6 := eq_true p6
                  replace q6 := eq_true q6
                  have p8 : 0 ≤ (x3_1 : Int) := of_decide_eq_true (by first | (with_reducible assumption) | assumption)
                  have q8 : x3_1 < (a0.size : Int) := of_decide_eq_true (by first | (with_reducible assumption) | assumption)
                  have hx8 := bt_at a0 x3_1
                  replace p8 := eq_true p8
                  replace q8 := eq_true q8
                  have p12 : 0 ≤ (x3_1 : Int) := of_decide_eq_true (by first | (with_reducible assumption) | assumption)
                  have q12 : x3_1 < (a0.size : Int) := of_decide_eq_true (by first | (with_reducible assumption) | assumption)
                  have hx12 := bt_at a0 x3_1
                  replace p12 := eq_true p12
                  replace q12 := eq_true q12
                  go_wp2
                  go_roundg k1
                  case measure => have := HK1.out; omega
                  case rel => exact ⟨(wrap64 (x3_1 + 1)), (by first | rfl | (simp; done) | (simp [*]; done)), H', ⟨by have := HK1.out; omega⟩, by repeat (first | exact Drawn0.refl _ | apply Drawn0.step)⟩
            · rw [if_neg c7] at H
              have c7b0 : decide ((bt a0 x3_1) < 65) = false := decide_eq_false c7
              clear c7
              by_cases c17 : (bt a0 x3_1) > 90
              · rw [if_pos c17] at H
                have c17b0 : decide (90 < (bt a0 x3_1)) = true := decide_eq_true c17
                clear c17
                by_cases c19 : (bt a0 x3_1) < 48
                · rw [if_pos c19] at H
                  have c19b0 : decide ((bt a0 x3_1) < 48) = true := decide_eq_true c19
                  clear c19
                  by_cases c21 : (bt a0 x3_1) = 32
                  · rw [if_pos c21] at H
                    have c21b0 : ((bt a0 x3_1) == 32) = true := beq_iff_eq.mpr c21
                    have c21b1 : ((bt a0 x3_1) != 32) = false := bne_eq_false_iff_eq.mpr c21
                    clear c21
                    have H' := Aside0.mk H
                    clear H
                    have p4 : 0 ≤ (x3_1 : Int) := of_decide_eq_true (by first | (with_reducible assumption) | assumption)
                    have q4 : x3_1 < (a0.size : Int) := of_decide_eq_true (by first | (with_reducible assumption) | assumption)
                    have hx4 := bt_at a0 x3_1
                    replace p4 := eq_true p4
                    replace q4 := eq_true q4
                    have p6 : 0 ≤ (x3_1 : Int) := of_decide_eq_true (by first | (with_reducible assumption) | assumption)
                    have q6 : x3_1 < (a0.size : Int) := of_decide_eq_true (by first | (with_reducible assumption) | assumption)
                    have hx6 := bt_at a0 x3_1
                    replace p6 := eq_true p6
                    replace q6 := eq_true q6
                    have p16 : 0 ≤ (x3_1 : Int) := of_decide_eq_true (by first | (with_reducible assumption) | assumption)
                    have q16 : x3_1 < (a0.size : Int) := of_decide_eq_true (by first | (with_reducible assumption) | assumption)
                    have hx16 := bt_at a0 x3_1
                    replace p16 := eq_true p16
                    replace q16 := eq_true q16
                    have p18 : 0 ≤ (x3_1 : Int) := of_decide_eq_true (by first | (with_reducible assumption) | assumption)
                    have q18 : x3_1 < (a0.size : Int) := of_decide_eq_true (by first | (with_reducible assumption) | assumption)
                    have hx18 := bt_at a0 x3_1
                    replace p18 := eq_true p18
                    replace q18 := eq_true q18
                    have p20 : 0 ≤ (x3_1 : Int) := of_decide_eq_true (by first | (with_reducible assumption) | assumption)
                    have q20 : x3_1 < (a0.size : Int) := of_decide_eq_true (by first | (with_reducible assumption) | assumption)
                    have hx20 := bt_at a0 x3_1
                    replace p20 := eq_true p20
                    replace q20 := eq_true q20
                    go_wp2
                    go_roundg k1
                    case measure => have := HK1.out; omega
                    case rel => exact ⟨(wrap64 (x3_1 + 1)), (by first | rfl | (simp; done) | (simp [*]; done)), H', ⟨by have := HK1.out; omega⟩, by repeat (first | exact Drawn0.refl _ | apply Drawn0.step)⟩
                  · rw [if_neg c21] at H
                    have c21b0 : ((bt a0 x3_1) == 32) = false := beq_eq_false_iff_ne.mpr c21
                    have c21b1 : ((bt a0 x3_1) != 32) = true := bne_iff_ne.mpr c21
                    obtain rfl := Option.some.inj H
                    have p4 : 0 ≤ (x3_1 : Int) := of_decide_eq_true (by first | (with_reducible assumption) | assumption)
                    have q4 : x3_1 < (a0.size : Int) := of_decide_eq_true (by first | (with_reducible assumption) | assumption)
                    have hx4 := bt_at a0 x3_1
                    replace p4 := eq_true p4
                    replace q4 := eq_true q4
                    have p6 : 0 ≤ (x3_1 : Int) := of_decide_eq_true (by first | (with_reducible assumption) | assumption)
                    have q6 : x3_1 < (a0.size : Int) := of_decide_eq_true (by first | (with_reducible assumption) | assumption)
                    have hx6 := bt_at a0 x3_1
                    replace p6 := eq_true p6
                    replace q6 := eq_true q6
                    have p16 : 0 ≤ (x3_1 : Int) := of_decide_eq_true (by first | (with_reducible assumption) | assumption)
                    have q16 : x3_1 < (a0.size : Int) := of_decide_eq_true (by first | (with_reducible assumption) | assumption)
                    have hx16 := bt_at a0 x3_1
                    replace p16 := eq_true p16
                    replace q16 := eq_true q16
                    have p18 : 0 ≤ (x3_1 : Int) := of_decide_eq_true (by first | (with_reducible assumption) | assumption)
                    have q18 : x3_1 < (a0.size : Int) := of_decide_eq_true (by first | (with_reducible assumption) | assumption)
                    have hx18 := bt_at a0 x3_1
                    replace p18 := eq_true p18
                    replace q18 := eq_true q18
                    have p20 : 0 ≤ (x3_1 : Int) := of_decide_eq_true (by first | (with_reducible assumption) | assumption)
                    have q20 : x3_1 < (a0.size : Int) := of_decide_eq_true (by first | (with_reducible assumption) | assumption)
                    have hx20 := bt_at a0 x3_1
                    replace p20 := eq_true p20
                    replace q20 := eq_true q20
                    go_wp2
                    go_ret
                    exact ⟨by first | rfl | (simp; done) | (simp [*]; done), by repeat (first | exact Drawn0.refl _ | apply Drawn0.step)⟩
                · rw [if_neg c19] at H
                  have c19b0 : decide ((bt a0 x3_1) < 48) = false := decide_eq_false c19
                  clear c19
                  by_cases c23 : (bt a0 x3_1) > 57
                  · rw [if_pos c23] at H
                    have c23b0 : decide (57 < (bt a0 x3_1)) = true := decide_eq_true c23
                    clear c23
                    by_cases c25 : (bt a0 x3_1) = 32
                    · rw [if_pos c25] at H
                      have c25b0 : ((bt a0 x3_1) == 32) = true := beq_iff_eq.mpr c25
                      have c25b1 : ((bt a0 x3_1) != 32) = false := bne_eq_false_iff_eq.mpr c25
                      clear c25
                      have H' := Aside0.mk H
                      clear H
                      have p4 : 0 ≤ (x3_1 : Int) := of_decide_eq_true (by first | (with_reducible assumption) | assumption)
                      have q4 : x3_1 < (a0.size : Int) := of_decide_eq_true (by first | (with_reducible assumption) | assumption)
                      have hx4 := bt_at a0 x3_1
                      replace p4 := eq_true p4
                      replace q4 := eq_true q4
                      have p6 : 0 ≤ (x3_1 : Int) := of_decide_eq_true (by first | (with_reducible assumption) | assumption)
                      have q6 : x3_1 < (a0.size : Int) := of_decide_eq_true (by first | (with_reducible assumption) | assumption)
                      have hx6 := bt_at a0 x3_1
                      replace p6 := eq_true p6
                      replace q6 := eq_true q6
                      have p16 : 0 ≤ (x3_1 : Int) := of_decide_eq_true (by first | (with_reducible assumption) | assumption)
                      have q16 : x3_1 < (a0.size : Int) := of_decide_eq_true (by first | (with_reducible assumption) | assumption)
                      have hx16 := bt_at a0 x3_1
                      replace p16 := eq_true p16
                      replace q16 := eq_true q16
                      have p18 : 0 ≤ (x3_1 : Int) := of_decide_eq_true (by first | (with_reducible assumption) | assumption)
                      have q18 : x3_1 < (a0.size : Int) := of_decide_eq_true (by first | (with_reducible assumption) | assumption)
                      have hx18 := bt_at a0 x3_1
                      replace p18 := eq_true p18
                      replace q18 := eq_true q18
                      have p22 : 0 ≤ (x3_1 : Int) := of_decide_eq_true (by first | (with_reducible assumption) | assumption)
                      have q22 : x3_1 < (a0.size : Int) := of_decide_eq_true (by first | (with_reducible assumption) | assumption)
                      have hx22 := bt_at a0 x3_1
                      replace p22 := eq_true p22
                      replace q22 := eq_true q22
                      have p24 : 0 ≤ (x3_1 : Int) := of_decide_eq_true (by first | (with_reducible assumption) | assumption)
                      have q24 : x3_1 < (a0.size : Int) := of_decide_eq_true (by first | (with_reducible assumption) | assumption)
                      have hx24 := bt_at a0 x3_1
                      replace p24 := eq_true p24
                      replace q24 := eq_true q24
                      go_wp2
                      go_roundg k1
                      case measure => have := HK1.out; omega
                      case rel => exact ⟨(wrap64 (x3_1 + 1)), (by first | rfl | (simp; done) | (simp [*]; done)), H', ⟨by have := HK1.out; omega⟩, by repeat (first | exact Drawn0.refl _ | apply Drawn0.step)⟩
                    · rw [if_neg c25] at H
                      have c25b0 : ((bt a0 x3_1) == 32) = false := beq_eq_false_iff_ne.mpr c25
                      have c25b1 : ((bt a0 x3_1) != 32) = true := bne_iff_ne.mpr c25
                      obtain rfl := Option.some.inj H
                      have p4 : 0 ≤ (x3_1 : Int) := of_decide_eq_true (by first | (with_reducible assumption) | assumption)
                      have q4 : x3_1 < (a0.size : Int) := of_decide_eq_true (by first | (with_reducible assumption) | assumption)
                      have hx4 := bt_at a0 x3_1
                      replace p4 := eq_true p4
                      replace q4 := eq_true q4
                      have p6 : 0 ≤ (x3_1 : Int) := of_decide_eq_true (by first | (with_reducible assumption) | assumption)
                      have q6 : x3_1 < (a0.size : Int) := of_decide_eq_true (by first | (with_reducible assumption) | assumption)
                      have hx6 := bt_at a0 x3_1
                      replace p6 := eq_true p6
                      replace q6 := eq_true q6
                      have p16 : 0 ≤ (x3_1 : Int) := of_decide_eq_true (by first | (with_reducible assumption) | assumption)
                      have q16 : x3_1 < (a0.size : Int) := of_decide_eq_true (by first | (with_reducible assumption) | assumption)
                      have hx16 := bt_at a0 x3_1
                      replace p16 := eq_true p16
                      replace q16 := eq_true q16
                      have p18 : 0 ≤ (x3_1 : Int) := of_decide_eq_true (by first | (with_reducible assumption) | assumption)
                      have q18 : x3_1 < (a0.size : Int) := of_decide_eq_true (by first | (with_reducible assumption) | assumption)
                      have hx18 := bt_at a0 x3_1
                      replace p18 := eq_true p18
                      replace q18 := eq_true q18
                      have p22 : 0 ≤ (x3_1 : Int) := of_decide_eq_true (by first | (with_reducible assumption) | assumption)
                      have q22 : x3_1 < (a0.size : Int) := of_decide_eq_true (by first | (with_reducible assumption) | assumption)
                      have hx22 := bt_at a0 x3_1
                      replace p22 := eq_true p22
                      replace q22 := eq_true q22
                      have p24 : 0 ≤ (x3_1 : Int) := of_decide_eq_true (by first | (with_reducible assumption) | assumption)
                      have q24 : x3_1 < (a0.size : Int) := of_decide_eq_true (by first | (with_reducible assumption) | assumption)
                      have hx24 := bt_at a0 x3_1
                      replace p24 := eq_true p24
                      replace q24 := eq_true q24
                      go_wp2
                      go_ret
                      exact ⟨by first | rfl | (simp; done) | (simp [*]; done), by repeat (first | exact Drawn0.refl _ | apply Drawn0.step)⟩
                  · rw [if_neg c23] at H
                    have c23b0 : decide (57 < (bt a0 x3_1)) = false := decide_eq_false c23
                    clear c23
                    have H' := Aside0.mk H
                    clear H
                    have p4 : 0 ≤ (x3_1 : Int) := of_decide_eq_true (by first | (with_reducible assumption) | assumption)
                    have q4 : x3_1 < (a0.size : Int) := of_decide_eq_true (by first | (with_reducible assumption) | assumption)
                    have hx4 := bt_at a0 x3_1
                    replace p4 := eq_true p4
                    replace q4 := eq_true q4
                    have p6 : 0 ≤ (x3_1 : Int) := of_decide_eq_true (by first | (with_reducible assumption) | assumption)
                    have q6 : x3_1 < (a0.size : Int) := of_decide_eq_true (by first | (with_reducible assumption) | assumption)
                    have hx6 := bt_at a0 x3_1
                    replace p6 := eq_true p6
                    replace q6 := eq_true q6
                    have p16 : 0 ≤ (x3_1 : Int) := of_decide_eq_true (by first | (with_reducible assumption) | assumption)
                    have q16 : x3_1 < (a0.size : Int) := of_decide_eq_true (by first | (with_reducible assumption) | assumption)
                    have hx16 := bt_at a0 x3_1
                    replace p16 := eq_true p16
                    replace q16 := eq_true q16
                    have p18 : 0 ≤ (x3_1 : Int) := of_decide_eq_true (by first | (with_reducible assumption) | assumption)
                    have q18 : x3_1 < (a0.size : Int) := of_decide_eq_true (by first | (with_reducible assumption) | assumption)
                    have hx18 := bt_at a0 x3_1
                    replace p18 := eq_true p18
                    replace q18 := eq_true q18
                    have p22 : 0 ≤ (x3_1 : Int) := of_decide_eq_true (by first | (with_reducible assumption) | assumption)
                    have q22 : x3_1 < (a0.size : Int) := of_decide_eq_true (by first | (with_reducible assumption) | assumption)
                    have hx22 := bt_at a0 x3_1
                    replace p22 := eq_true p22
                    replace q22 := eq_true q22
                    go_wp2
                    go_roundg k1
                    case measure => have := HK1.out; omega
                    case rel => exact ⟨(wrap64 (x3_1 + 1)), (by first | rfl | (simp; done) | (simp [*]; done)), H', ⟨by have := HK1.out; omega⟩, by repeat (first | exact Drawn0.refl _ | apply Drawn0.step)⟩
              · rw [if_neg c17] at H
                have c17b0 : decide (90 < (bt a0 x3_1)) = false := decide_eq_false c17
                clear c17
                have H' := Aside0.mk H
                clear H
                have p4 : 0 ≤ (x3_1 : Int) := of_decide_eq_true (by first | (with_reducible assumption) | assumption)
                have q4 : x3_1 < (a0.size : Int) := of_decide_eq_true (by first | (with_reducible assumption) | assumption)
                have hx4 := bt_at a0 x3_1
                replace p4 := eq_true p4
                replace q4 := eq_true q4
                have p6 : 0 ≤ (x3_1 : Int) := of_decide_eq_true (by first | (with_reducible assumption) | assumption)
                have q6 : x3_1 < (a0.size : Int) := of_decide_eq_true (by first | (with_reducible assumption) | assumption)
                have hx6 := bt_at a0 x3_1
                replace p6 := eq_true p6
                replace q6 := eq_true q6
                have p16 : 0 ≤ (x3_1 : Int) := of_decide_eq_true (by first | (with_reducible assumption) | assumption)
                have q16 : x3_1 < (a0.size : Int) := of_decide_eq_true (by first | (with_reducible assumption) | assumption)
                have hx16 := bt_at a0 x3_1
                replace p16 := eq_true p16
                replace q16 := eq_true q16
                go_wp2
                go_roundg k1
                case measure => have := HK1.out; omega
                case rel => exact ⟨(wrap64 (x3_1 + 1)), (by first | rfl | (simp; done) | (simp [*]; done)), H', ⟨by have := HK1.out; omega⟩, by repeat (first | exact Drawn0.refl _ | apply Drawn0.step)⟩
          · rw [if_neg c5] at H
            have c5b0 : decide ((bt a0 x3_1) < 97) = false := decide_eq_false c5
            clear c5
            by_cases c27 : (bt a0 x3_1) > 122
            · rw [if_pos c27] at H
              have c27b0 : decide (122 < (bt a0 x3_1)) = true := decide_eq_true c27
              clear c27
              by_cases c29 : (bt a0 x3_1) < 65
              · rw [if_pos c29] at H
                have c29b0 : decide ((bt a0 x3_1) < 65) = true := decide_eq_true c29
                clear c29
                by_cases c31 : (bt a0 x3_1) < 48
                · rw [if_pos c31] at H
                  have c31b0 : decide ((bt a0 x3_1) < 48) = true := decide_eq_true c31
                  clear c31
                  by_cases c33 : (bt a0 x3_1) = 32
                  · rw [if_pos c33] at H
                    have c33b0 : ((bt a0 x3_1) == 32) = true := beq_iff_eq.mpr c33
                    have c33b1 : ((bt a0 x3_1) != 32) = false := bne_eq_false_iff_eq.mpr c33
                    clear c33
                    have H' := Aside0.mk H
                    clear H
                    have p4 : 0 ≤ (x3_1 : Int) := of_decide_eq_true (by first | (with_reducible assumption) | assumption)
                    have q4 : x3_1 < (a0.size : Int) := of_decide_eq_true (by first | (with_reducible assumption) | assumption)
                    have hx4 := bt_at a0 x3_1
                    replace p4 := eq_true p4
                    replace q4 := eq_true q4
                    have p26 : 0 ≤ (x3_1 : Int) := of_decide_eq_true (by first | (with_reducible assumption) | assumption)
                    have q26 : x3_1 < (a0.size : Int) := of_decide_eq_true (by first | (with_reducible assumption) | assumption)
                    have hx26 := bt_at a0 x3_1
                    replace p26 := eq_true p26
                    replace q26 := eq_true q26
                    have p28 : 0 ≤ (x3_1 : Int) := of_decide_eq_true (by first | (with_reducible assumption) | assumption)
                    have q28 : x3_1 < (a0.size : Int) := of_decide_eq_true (by first | (with_reducible assumption) | assumption)
                    have hx28 := bt_at a0 x3_1
                    replace p28 := eq_true p28
                    replace q28 := eq_true q28
                    have p30 : 0 ≤ (x3_1 : Int) := of_decide_eq_true (by first | (with_reducible assumption) | assumption)
                    have q30 : x3_1 < (a0.size : Int) := of_decide_eq_true (by first | (with_reducible assumption) | assumption)
                    have hx30 := bt_at a0 x3_1
                    replace p30 := eq_true p30
                    replace q30 := eq_true q30
                    have p32 : 0 ≤ (x3_1 : Int) := of_decide_eq_true (by first | (with_reducible assumption) | assumption)
                    have q32 : x3_1 < (a0.size : Int) := of_decide_eq_true (by first | (with_reducible assumption) | assumption)
                    have hx32 := bt_at a0 x3_1
                    replace p32 := eq_true p32
                    replace q32 := eq_true q32
                    go_wp2
                    go_roundg k1
                    case measure => have := HK1.out; omega
                    case rel => exact ⟨(wrap64 (x3_1 + 1)), (by first | rfl | (simp; done) | (simp [*]; done)), H', ⟨by have := HK1.out; omega⟩, by repeat (first | exact Drawn0.refl _ | apply Drawn0.step)⟩
                  · rw [if_neg c33] at H
                    have c33b0 : ((bt a0 x3_1) == 32) = false := beq_eq_false_iff_ne.mpr c33
                    have c33b1 : ((bt a0 x3_1) != 32) = true := bne_iff_ne.mpr c33
                    obtain rfl := Option.some.inj H
                    have p4 : 0 ≤ (x3_1 : Int) := of_decide_eq_true (by first | (with_reducible assumption) | assumption)
                    have q4 : x3_1 < (a0.size : Int) := of_decide_eq_true (by first | (with_reducible assumption) | assumption)
                    have hx4 := bt_at a0 x3_1
                    replace p4 := eq_true p4
                    replace q4 := eq_true q4
                    have p26 : 0 ≤ (x3_1 : Int) := of_decide_eq_true (by first | (with_reducible assumption) | assumption)
                    have q26 : x3_1 < (a0.size : Int) := of_decide_eq_true (by first | (with_reducible assumption) | assumption)
                    have hx26 := bt_at a0 x3_1
                    replace p26 := eq_true p26
                    replace q26 := eq_true q26
                    have p28 : 0 ≤ (x3_1 : Int) := of_decide_eq_true (by first | (with_reducible assumption) | assumption)
                    have q28 : x3_1 < (a0.size : Int) := of_decide_eq_true (by first | (with_reducible assumption) | assumption)
                    have hx28 := bt_at a0 x3_1
                    replace p28 := eq_true p28
                    replace q28 := eq_true q28
                    have p30 : 0 ≤ (x3_1 : Int) := of_decide_eq_true (by first | (with_reducible assumption) | assumption)
                    have q30 : x3_1 < (a0.size : Int) := of_decide_eq_true (by first | (with_reducible assumption) | assumption)
                    have hx30 := bt_at a0 x3_1
                    replace p30 := eq_true p30
                    replace q30 := eq_true q30
                    have p32 : 0 ≤ (x3_1 : Int) := of_decide_eq_true (by first | (with_reducible assumption) | assumption)
                    have q32 : x3_1 < (a0.size : Int) := of_decide_eq_true (by first | (with_reducible assumption) | assumption)
                    have hx32 := bt_at a0 x3_1
                    replace p32 := eq_true p32
                    replace q32 := eq_true q32
                    go_wp2
                    go_ret
                    exact ⟨by first | rfl | (simp; done) | (simp [*]; done), by repeat (first | exact Drawn0.refl _ | apply Drawn0.step)⟩
                · rw [if_neg c31] at H
                  have c31b0 : decide ((bt a0 x3_1) < 48) = false := decide_eq_false c31
                  clear c31
                  by_cases c35 : (bt a0 x3_1) > 57
                  · rw [if_pos c35] at H
                    have c35b0 : decide (57 < (bt a0 x3_1)) = true := decide_eq_true c35
                    clear c35
                    by_cases c37 : (bt a0 x3_1) = 32
                    · rw [if_pos c37] at H
                      have c37b0 : ((bt a0 x3_1) == 32) = true := beq_iff_eq.mpr c37
                      have c37b1 : ((bt a0 x3_1) != 32) = false := bne_eq_false_iff_eq.mpr c37
                      clear c37
                      have H' := Aside0.mk H
                      clear H
                      have p4 : 0 ≤ (x3_1 : Int) := of_decide_eq_true (by first | (with_reducible assumption) | assumption)
                      have q4 : x3_1 < (a0.size : Int) := of_decide_eq_true (by first | (with_reducible assumption) | assumption)
                      have hx4 := bt_at a0 x3_1
                      replace p4 := eq_true p4
                      replace q4 := eq_true q4
                      have p26 : 0 ≤ (x3_1 : Int) := of_decide_eq_true (by first | (with_reducible assumption) | assumption)
                      have q26 : x3_1 < (a0.size : Int) := of_decide_eq_true (by first | (with_reducible assumption) | assumption)
                      have hx26 := bt_at a0 x3_1
                      replace p26 := eq_true p26
                      replace q26 := eq_true q26
                      have p28 : 0 ≤ (x3_1 : Int) := of_decide_eq_true (by first | (with_reducible assumption) | assumption)
                      have q28 : x3_1 < (a0.size : Int) := of_decide_eq_true (by first | (with_reducible assumption) | assumption)
                      have hx28 := bt_at a0 x3_1
                      replace p28 := eq_true p28
                      replace q28 := eq_true q28
                      have p30 : 0 ≤ (x3_1 : Int) := of_decide_eq_true (by first | (with_reducible assumption) | assumption)
                      have q30 : x3_1 < (a0.size : Int) := of_decide_eq_true (by first | (with_reducible assumption) | assumption)
                      have hx30 := bt_at a0 x3_1
                      replace p30 := eq_true p30
                      replace q30 := eq_true q30
                      have p34 : 0 ≤ (x3_1 : Int) := of_decide_eq_true (by first | (with_reducible assumption) | assumption)
                      have q34 : x3_1 < (a0.size : Int) := of_decide_eq_true (by first | (with_reducible assumption) | assumption)
                      have hx34 := bt_at a0 x3_1
                      replace p34 := eq_true p34
                      replace q34 := eq_true q34
                      have p36 : 0 ≤ (x3_1 : Int) := of_decide_eq_true (by first | (with_reducible assumption) | assumption)
                      have q36 : x3_1 < (a0.size : Int) := of_decide_eq_true (by first | (with_reducible assumption) | assumption)
                      have hx36 := bt_at a0 x3_1
                      replace p36 := eq_true p36
                      replace q36 := eq_true q36
                      go_wp2
                      go_roundg k1
                      case measure => have := HK1.out; omega
                      case rel => exact ⟨(wrap64 (x3_1 + 1)), (by first | rfl | (simp; done) | (simp [*]; done)), H', ⟨by have := HK1.out; omega⟩, by repeat (first | exact Drawn0.refl _ | apply Drawn0.step)⟩
                    · rw [if_neg c37] at H
                      have c37b0 : ((bt a0 x3_1) == 32) = false := beq_eq_false_iff_ne.mpr c37
                      have c37b1 : ((bt a0 x3_1) != 32) = true := bne_iff_ne.mpr c37
                      obtain rfl := Option.some.inj H
                      have p4 : 0 ≤ (x3_1 : Int) := of_decide_eq_true (by first | (with_reducible assumption) | assumption)
                      have q4 : x3_1 < (a0.size : Int) := of_decide_eq_true (by first | (with_reducible assumption) | assumption)
                      have hx4 := bt_at a0 x3_1
                      replace p4 := eq_true p4
                      replace q4 := eq_true q4
                      have p26 : 0 ≤ (x3_1 : Int) := of_decide_eq_true (by first | (with_reducible assumption) | assumption)
                      have q26 : x3_1 < (a0.size : Int) := of_decide_eq_true (by first | (with_reducible assumption) | assumption)
                      have hx26 := bt_at a0 x3_1
                      replace p26 := eq_true p26
                      replace q26 := eq_true q26
                      have p28 : 0 ≤ (x3_1 : Int) := of_decide_eq_true (by first | (with_reducible assumption) | assumption)
                      have q28 : x3_1 < (a0.size : Int) := of_decide_eq_true (by first | (with_reducible assumption) | assumption)
                      have hx28 := bt_at a0 x3_1
                      replace p28 := eq_true p28
                      replace q28 := eq_true q28
                      have p30 : 0 ≤ (x3_1 : Int) := of_decide_eq_true (by first | (with_reducible assumption) | assumption)
                      have q30 : x3_1 < (a0.size : Int) := of_decide_eq_true (by first | (with_reducible assumption) | assumption)
                      have hx30 := bt_at a0 x3_1
                      replace p30 := eq_true p30
                      replace q30 := eq_true q30
                      have p34 : 0 ≤ (x3_1 : Int) := of_decide_eq_true (by first | (with_reducible assumption) | assumption)
                      have q34 : x3_1 < (a0.size : Int) := of_decide_eq_true (by first | (with_reducible assumption) | assumption)
                      have hx34 := bt_at a0 x3_1
                      replace p34 := eq_true p34
                      replace q34 := eq_true q34
                      have p36 : 0 ≤ (x3_1 : Int) := of_decide_eq_true (by first | (with_reducible assumption) | assumption)
                      have q36 : x3_1 < (a0.size : Int) := of_decide_eq_true (by first | (with_reducible assumption) | assumption)
                      have hx36 := bt_at a0 x3_1
                      replace p36 := eq_true p36
                      replace q36 := eq_true q36
                      go_wp2
                      go_ret
                      exact ⟨by first | rfl | (simp; done) | (simp [*]; done), by repeat (first | exact Drawn0.refl _ | apply Drawn0.step)⟩
                  · rw [if_neg c35] at H
                    have c35b0 : decide (57 < (bt a0 x3_1)) = false := decide_eq_false c35
                    clear c35
                    have H' := Aside0.mk H
                    clear H
                    have p4 : 0 ≤ (x3_1 : Int) := of_decide_eq_true (by first | (with_reducible assumption) | assumption)
                    have q4 : x3_1 < (a0.size : Int) := of_decide_eq_true (by first | (with_reducible assumption) | assumption)
                    have hx4 := bt_at a0 x3_1
                    replace p4 := eq_true p4
                    replace q4 := eq_true q4
                    have p26 : 0 ≤ (x3_1 : Int) := of_decide_eq_true (by first | (with_reducible assumption) | assumption)
                    have q26 : x3_1 < (a0.size : Int) := of_decide_eq_true (by first | (with_reducible assumption) | assumption)
                    have hx26 := bt_at a0 x3_1
                    replace p26 := eq_true p26
                    replace q26 := eq_true q26
                    have p28 : 0 ≤ (x3_1 : Int) := of_decide_eq_true (by first | (with_reducible assumption) | assumption)
                    have q28 : x3_1 < (a0.size : Int) := of_decide_eq_true (by first | (with_reducible assumption) | assumption)
                    have hx28 := bt_at a0 x3_1
                    replace p28 := eq_true p28
                    replace q28 := eq_true q28
                    have p30 : 0 ≤ (x3_1 : Int) := of_decide_eq_true (by first | (with_reducible assumption) | assumption)
                    have q30 : x3_1 < (a0.size : Int) := of_decide_eq_true (by first | (with_reducible assumption) | assumption)
                    have hx30 := bt_at a0 x3_1
                    replace p30 := eq_true p30
                    replace q30 := eq_true q30
                    have p34 : 0 ≤ (x3_1 : Int) := of_decide_eq_true (by first | (with_reducible assumption) | assumption)
                    have q34 : x3_1 < (a0.size : Int) := of_decide_eq_true (by first | (with_reducible assumption) | assumption)
                    have hx34 := bt_at a0 x3_1
                    replace p34 := eq_true p34
                    replace q34 := eq_true q34
                    go_wp2
                    go_roundg k1
                    case measure => have := HK1.out; omega
                    case rel => exact ⟨(wrap64 (x3_1 + 1)), (by first | rfl | (simp; done) | (simp [*]; done)), H', ⟨by have := HK1.out; omega⟩, by repeat (first | exact Drawn0.refl _ | apply Drawn0.step)⟩
              · rw [if_neg c29] at H
                have c29b0 : decide ((bt a0 x3_1) < 65) = false := decide_eq_false c29
                clear c29
                by_cases c39 : (bt a0 x3_1) > 90
                · rw [if_pos c39] at H
                  have c39b0 : decide (90 < (bt a0 x3_1)) = true := decide_eq_true c39
                  clear c39
                  by_cases c41 : (bt a0 x3_1) < 48
                  · rw [if_pos c41] at H
                    have c41b0 : decide ((bt a0 x3_1) < 48) = true := decide_eq_true c41
                    clear c41
                    by_cases c43 : (bt a0 x3_1) = 32
                    · rw [if_pos c43] at H
                      have c43b0 : ((bt a0 x3_1) == 32) = true := beq_iff_eq.mpr c43
                      have c43b1 : ((bt a0 x3_1) != 32) = false := bne_eq_false_iff_eq.mpr c43
                      clear c43
                      have H' := Aside0.mk H
                      clear H
                      have p4 : 0 ≤ (x3_1 : Int) := of_decide_eq_true (by first | (with_reducible assumption) | assumption)
                      have q4 : x3_1 < (a0.size : Int) := of_decide_eq_true (by first | (with_reducible assumption) | assumption)
                      have hx4 := bt_at a0 x3_1
                      replace p4 := eq_true p4
                      replace q4 := eq_true q4
                      have p26 : 0 ≤ (x3_1 : Int) := of_decide_eq_true (by first | (with_reducible assumption) | assumption)
                      have q26 : x3_1 < (a0.size : Int) := of_decide_eq_true (by first | (with_reducible assumption) | assumption)
                      have hx26 := bt_at a0 x3_1
                      replace p26 := eq_true p26
                      replace q26 := eq_true q26
                      have p28 : 0 ≤ (x3_1 : Int) := of_decide_eq_true (by first | (with_reducible assumption) | assumption)
                      have q28 : x3_1 < (a0.size : Int) := of_decide_eq_true (by first | (with_reducible assumption) | assumption)
                      have hx28 := bt_at a0 x3_1
                      replace p28 := eq_true p28
                      replace q28 := eq_true q28
                      have p38 : 0 ≤ (x3_1 : Int) := of_decide_eq_true (by first | (with_reducible assumption) | assumption)
                      have q38 : x3_1 < (a0.size : Int) := of_decide_eq_true (by first | (with_reducible assumption) | assumption)
                      have hx38 := bt_at a0 x3_1
                      replace p38 := eq_true p38
                      replace q38 := eq_true q38
                      have p40 : 0 ≤ (x3_1 : Int) := of_decide_eq_true (by first | (with_reducible assumption) | assumption)
                      have q40 : x3_1 < (a0.size : Int) := of_decide_eq_true (by first | (with_reducible assumption) | assumption)
                      have hx40 := bt_at a0 x3_1
                      replace p40 := eq_true p40
                      replace q40 := eq_true q40
                      have p42 : 0 ≤ (x3_1 : Int) := of_decide_eq_true (by first | (with_reducible assumption) | assumption)
                      have q42 : x3_1 < (a0.size : Int) := of_decide_eq_true (by first | (with_reducible assumption) | assumption)
                      have hx42 := bt_at a0 x3_1
                      replace p42 := eq_true p42
                      replace q42 := eq_true q42
                      go_wp2
                      go_roundg k1
                      case measure => have := HK1.out; omega
                      case rel => exact ⟨(wrap64 (x3_1 + 1)), (by first | rfl | (simp; done) | (simp [*]; done)), H', ⟨by have := HK1.out; omega⟩, by repeat (first | exact Drawn0.refl _ | apply Drawn0.step)⟩
                    · rw [if_neg c43] at H
                      have c43b0 : ((bt a0 x3_1) == 32) = false := beq_eq_false_iff_ne.mpr c43
                      have c43b1 : ((bt a0 x3_1) != 32) = true := bne_iff_ne.mpr c43
                      obtain rfl := Option.some.inj H
                      have p4 : 0 ≤ (x3_1 : Int) := of_decide_eq_true (by first | (with_reducible assumption) | assumption)
                      have q4 : x3_1 < (a0.size : Int) := of_decide_eq_true (by first | (with_reducible assumption) | assumption)
                      have hx4 := bt_at a0 x3_1
                      replace p4 := eq_true p4
                      replace q4 := eq_true q4
                      have p26 : 0 ≤ (x3_1 : Int) := of_decide_eq_true (by first | (with_reducible assumption) | assumption)
                      have q26 : x3_1 < (a0.size : Int) := of_decide_eq_true (by first | (with_reducible assumption) | assumption)
                      have hx26 := bt_at a0 x3_1
                      replace p26 := eq_true p26
                      replace q26 := eq_true q26
                      have p28 : 0 ≤ (x3_1 : Int) := of_decide_eq_true (by first | (with_reducible assumption) | assumption)
                      have q28 : x3_1 < (a0.size : Int) := of_decide_eq_true (by first | (with_reducible assumption) | assumption)
                      have hx28 := bt_at a0 x3_1
                      replace p28 := eq_true p28
                      replace q28 := eq_true q28
                      have p38 : 0 ≤ (x3_1 : Int) := of_decide_eq_true (by first | (with_reducible assumption) | assumption)
                      have q38 : x3_1 < (a0.size : Int) := of_decide_eq_true (by first | (with_reducible assumption) | assumption)
                      have hx38 := bt_at a0 x3_1
                      replace p38 := eq_true p38
                      replace q38 := eq_true q38
                      have p40 : 0 ≤ (x3_1 : Int) := of_decide_eq_true (by first | (with_reducible assumption) | assumption)
                      have q40 : x3_1 < (a0.size : Int) := of_decide_eq_true (by first | (with_reducible assumption) | assumption)
                      have hx40 := bt_at a0 x3_1
                      replace p40 := eq_true p40
                      replace q40 := eq_true q40
                      have p42 : 0 ≤ (x3_1 : Int) := of_decide_eq_true (by first | (with_reducible assumption) | assumption)
                      have q42 : x3_1 < (a0.size : Int) := of_decide_eq_true (by first | (with_reducible assumption) | assumption)
                      have hx42 := bt_at a0 x3_1
                      replace p42 := eq_true p42
                      replace q42 := eq_true q42
                      go_wp2
                      go_ret
                      exact ⟨by first | rfl | (simp; done) | (simp [*]; done), by repeat (first | exact Drawn0.refl _ | apply Drawn0.step)⟩
                  · rw [if_neg c41] at H
                    have c41b0 : decide ((bt a0 x3_1) < 48) = false := decide_eq_false c41
                    clear c41
                    by_cases c45 : (bt a0 x3_1) > 57
                    · rw [if_pos c45] at H
                      have c45b0 : decide (57 < (bt a0 x3_1)) = true := decide_eq_true c45
                      clear c45
                      by_cases c47 : (bt a0 x3_1) = 32
                      · rw [if_pos c47] at H
                        have c47b0 : ((bt a0 x3_1) == 32) = true := beq_iff_eq.mpr c47
                        have c47b1 : ((bt a0 x3_1) != 32) = false := bne_eq_false_iff_eq.mpr c47
                        clear c47
                        have H' := Aside0.mk H
                        clear H
                        have p4 : 0 ≤ (x3_1 : Int) := of_decide_eq_true (by first | (with_reducible assumption) | assumption)
                        have q4 : x3_1 < (a0.size : Int) := of_decide_eq_true (by first | (with_reducible assumption) | assumption)
                        have hx4 := bt_at a0 x3_1
                        replace p4 := eq_true p4
                        replace q4 := eq_true q4
                        have p26 : 0 ≤ (x3_1 : Int) := of_decide_eq_true (by first | (with_reducible assumption) | assumption)
                        have q26 : x3_1 < (a0.size : Int) := of_decide_eq_true (by first | (with_reducible assumption) | assumption)
                        have hx26 := bt_at a0 x3_1
                        replace p26 := eq_true p26
                        replace q26 := eq_true q26
                        have p28 : 0 ≤ (x3_1 : Int) := of_decide_eq_true (by first | (with_reducible assumption) | assumption)
                        have q28 : x3_1 < (a0.size : Int) := of_decide_eq_true (by first | (with_reducible assumption) | assumption)
                        have hx28 := bt_at a0 x3_1
                        replace p28 := eq_true p28
                        replace q28 := eq_true q28
                        have p38 : 0 ≤ (x3_1 : Int) := of_decide_eq_true (by first | (with_reducible assumption) | assumption)
                        have q38 : x3_1 < (a0.size : Int) := of_decide_eq_true (by first | (with_reducible assumption) | assumption)
                        have hx38 := bt_at a0 x3_1
                        replace p38 := eq_true p38
                        replace q38 := eq_true q38
                        have p40 : 0 ≤ (x3_1 : Int) := of_decide_eq_true (by first | (with_reducible assumption) | assumption)
                        have q40 : x3_1 < (a0.size : Int) := of_decide_eq_true (by first | (with_reducible assumption) | assumption)
                        have hx40 := bt_at a0 x3_1
                        replace p40 := eq_true p40
                        replace q40 := eq_true q40
                        have p44 : 0 ≤ (x3_1 : Int) := of_decide_eq_true (by first | (with_reducible assumption) | assumption)
                        have q44 : x3_1 < (a0.size : Int) := of_decide_eq_true (by first | (with_reducible assumption) | assumption)
                        have hx44 := bt_at a0 x3_1
                        replace p44 := eq_true p44
                        replace q44 := eq_true q44
                        have p46 : 0 ≤ (x3_1 : Int) := of_decide_eq_true (by first | (with_reducible assumption) | assumption)
                        have q46 : x3_1 < (a0.size : Int) := of_decide_eq_true (by first | (with_reducible assumption) | assumption)
                        have hx46 := bt_at a0 x3_1
                        replace p46 := eq_true p46
                        replace q46 := eq_true q46
                        go_wp2
                        go_roundg k1
                        case measure => have := HK1.out; omega
                        case rel => exact ⟨(wrap64 (x3_1 + 1)), (by first | rfl | (simp; done) | (simp [*]; done)), H', ⟨by have := HK1.out; omega⟩, by repeat (first | exact Drawn0.refl _ | apply Drawn0.step)⟩
                      · rw [if_neg c47] at H
                        have c47b0 : ((bt a0 x3_1) == 32) = false := beq_eq_false_iff_ne.mpr c47
                        have c47b1 : ((bt a0 x3_1) != 32) = true := bne_iff_ne.mpr c47
                        obtain rfl := Option.some.inj H
                        have p4 : 0 ≤ (x3_1 : Int) := of_decide_eq_true (by first | (with_reducible assumption) | assumption)
                        have q4 : x3_1 < (a0.size : Int) := of_decide_eq_true (by first | (with_reducible assumption) | assumption)
                        have hx4 := bt_at a0 x3_1
                        replace p4 := eq_true p4
                        replace q4 := eq_true q4
                        have p26 : 0 ≤ (x3_1 : Int) := of_decide_eq_true (by first | (with_reducible assumption) | assumption)
                        have q26 : x3_1 < (a0.size : Int) := of_decide_eq_true (by first | (with_reducible assumption) | assumption)
                        have hx26 := bt_at a0 x3_1
                        replace p26 := eq_true p26
                        replace q26 := eq_true q26
                        have p28 : 0 ≤ (x3_1 : Int) := of_decide_eq_true (by first | (with_reducible assumption) | assumption)
                        have q28 : x3_1 < (a0.size : Int) := of_decide_eq_true (by first | (with_reducible assumption) | assumption)
                        have hx28 := bt_at a0 x3_1
                        replace p28 := eq_true p28
                        replace q28 := eq_true q28
                        have p38 : 0 ≤ (x3_1 : Int) := of_decide_eq_true (by first | (with_reducible assumption) | assumption)
                        have q38 : x3_1 < (a0.size : Int) := of_decide_eq_true (by first | (with_reducible assumption) | assumption)
                        have hx38 := bt_at a0 x3_1
                        replace p38 := eq_true p38
                        replace q38 := eq_true q38
                        have p40 : 0 ≤ (x3_1 : Int) := of_decide_eq_true (by first | (with_reducible assumption) | assumption)
                        have q40 : x3_1 < (a0.size : Int) := of_decide_eq_true (by first | (with_reducible assumption) | assumption)
                        have hx40 := bt_at a0 x3_1
                        replace p40 := eq_true p40
                        replace q40 := eq_true q40
                        have p44 : 0 ≤ (x3_1 : Int) := of_decide_eq_true (by first | (with_reducible assumption) | assumption)
                        have q44 : x3_1 < (a0.size : Int) := of_decide_eq_true (by first | (with_reducible assumption) | assumption)
                        have hx44 := bt_at a0 x3_1
                        replace p44 := eq_true p44
                        replace q44 := eq_true q44
                        have p46 : 0 ≤ (x3_1 : Int) := of_decide_eq_true (by first | (with_reducible assumption) | assumption)
                        have q46 : x3_1 < (a0.size : Int) := of_decide_eq_true (by first | (with_reducible assumption) | assumption)
                        have hx46 := bt_at a0 x3_1
                        replace p46 := eq_true p46
                        replace q46 := eq_true q46
                        go_wp2
                        go_ret
                        exact ⟨by first | rfl | (simp; done) | (simp [*]; done), by repeat (first | exact Drawn0.refl _ | apply Drawn0.step)⟩
                    · rw [if_neg c45] at H
                      have c45b0 : decide (57 < (bt a0 x3_1)) = false := decide_eq_false c45
                      clear c45
                      have H' := Aside0.mk H
                      clear H
                      have p4 : 0 ≤ (x3_1 : Int) := of_decide_eq_true (by first | (with_reducible assumption) | assumption)
                      have q4 : x3_1 < (a0.size : Int) := of_decide_eq_true (by first | (with_reducible assumption) | assumption)
                      have hx4 := bt_at a0 x3_1
                      replace p4 := eq_true p4
                      replace q4 := eq_true q4
                      have p26 : 0 ≤ (x3_1 : Int) := of_decide_eq_true (by first | (with_reducible assumption) | assumption)
                      have q26 : x3_1 < (a0.size : Int) := of_decide_eq_true (by first | (with_reducible assumption) | assumption)
                      have hx26 := bt_at a0 x3_1
                      replace p26 := eq_true p26
                      replace q26 := eq_true q26
                      have p28 : 0 ≤ (x3_1 : Int) := of_decide_eq_true (by first | (with_reducible assumption) | assumption)
                      have q28 : x3_1 < (a0.size : Int) := of_decide_eq_true (by first | (with_reducible assumption) | assumption)
                      have hx28 := bt_at a0 x3_1
                      replace p28 := eq_true p28
                      replace q28 := eq_true q28
                      have p38 : 0 ≤ (x3_1 : Int) := of_decide_eq_true (by first | (with_reducible assumption) | assumption)
                      have q38 : x3_1 < (a0.size : Int) := of_decide_eq_true (by first | (with_reducible assumption) | assumption)
                      have hx38 := bt_at a0 x3_1
                      replace p38 := eq_true p38
                      replace q38 := eq_true q38
                      have p40 : 0 ≤ (x3_1 : Int) := of_decide_eq_true (by first | (with_reducible assumption) | assumption)
                      have q40 : x3_1 < (a0.size : Int) := of_decide_eq_true (by first | (with_reducible assumption) | assumption)
                      have hx40 := bt_at a0 x3_1
                      replace p40 := eq_true p40
                      replace q40 := eq_true q40
                      have p44 : 0 ≤ (x3_1 : Int) := of_decide_eq_true (by first | (with_reducible assumption) | assumption)
                      have q44 : x3_1 < (a0.size : Int) := of_decide_eq_true (by first | (with_reducible assumption) | assumption)
                      have hx44 := bt_at a0 x3_1
                      replace p44 := eq_true p44
                      replace q44 := eq_true q44
                      go_wp2
                      go_roundg k1
                      case measure => have := HK1.out; omega
                      case rel => exact ⟨(wrap64 (x3_1 + 1)), (by first | rfl | (simp; done) | (simp [*]; done)), H', ⟨by have := HK1.out; omega⟩, by repeat (first | exact Drawn0.refl _ | apply Drawn0.step)⟩
                · rw [if_neg c39] at H
                  have c39b0 : decide (90 < (bt a0 x3_1)) = false := decide_eq_false c39
                  clear c39
                  have H' := Aside0.mk H
                  clear H
                  have p4 : 0 ≤ (x3_1 : Int) := of_decide_eq_true (by first | (with_reducible assumption) | assumption)
                  have q4 : x3_1 < (a0.size : Int) := of_decide_eq_true (by first | (with_reducible assumption) | assumption)
                  have hx4 := bt_at a0 x3_1
                  replace p4 := eq_true p4
                  replace q4 := eq_true q4
                  have p26 : 0 ≤ (x3_1 : Int) := of_decide_eq_true (by first | (with_reducible assumption) | assumption)
                  have q26 : x3_1 < (a0.size : Int) := of_decide_eq_true (by first | (with_reducible assumption) | assumption)
                  have hx26 := bt_at a0 x3_1
                  replace p26 := eq_true p26
                  replace q26 := eq_true q26
                  have p28 : 0 ≤ (x3_1 : Int) := of_decide_eq_true (by first | (with_reducible assumption) | assumption)
                  have q28 : x3_1 < (a0.size : Int) := of_decide_eq_true (by first | (with_reducible assumption) | assumption)
                  have hx28 := bt_at a0 x3_1
                  replace p28 := eq_true p28
                  replace q28 := eq_true q28
                  have p38 : 0 ≤ (x3_1 : Int) := of_decide_eq_true (by first | (with_reducible assumption) | assumption)
                  have q38 : x3_1 < (a0.size : Int) := of_decide_eq_true (by first | (with_reducible assumption) | assumption)
                  have hx38 := bt_at a0 x3_1
                  replace p38 := eq_true p38
                  replace q38 := eq_true q38
                  go_wp2
                  go_roundg k1
                  case measure => have := HK1.out; omega
                  case rel => exact ⟨(wrap64 (x3_1 + 1)), (by first | rfl | (simp; done) | (simp [*]; done)), H', ⟨by have := HK1.out; omega⟩, by repeat (first | exact Drawn0.refl _ | apply Drawn0.step)⟩
            · rw [if_neg c27] at H
              have c27b0 : decide (122 < (bt a0 x3_1)) = false := decide_eq_false c27
              clear c27
              have H' := Aside0.mk H
              clear H
              have p4 : 0 ≤ (x3_1 : Int) := of_decide_eq_true (by first | (with_reducible assumption) | assumption)
              have q4 : x3_1 < (a0.size : Int) := of_decide_eq_true (by first | (with_reducible assumption) | assumption)
              have hx4 := bt_at a0 x3_1
              replace p4 := eq_true p4
              replace q4 := eq_true q4
              have p26 : 0 ≤ (x3_1 : Int) := of_decide_eq_true (by first | (with_reducible assumption) | assumption)
              have q26 : x3_1 < (a0.size : Int) := of_decide_eq_true (by first | (with_reducible assumption) | assumption)
              have hx26 := bt_at a0 x3_1
              replace p26 := eq_true p26
              replace q26 := eq_true q26
              go_wp2
              go_roundg k1
              case measure => have := HK1.out; omega
              case rel => exact ⟨(wrap64 (x3_1 + 1)), (by first | rfl | (simp; done) | (simp [*]; done)), H', ⟨by have := HK1.out; omega⟩, by repeat (first | exact Drawn0.refl _ | apply Drawn0.step)⟩
        · rw [if_neg c3] at H
          exact absurd H (by simp)
      · rw [if_neg c2] at H
        have c2b0 : decide (x3_1 < (a0.size : Int)) = false := decide_eq_false c2
        clear c2
        replace H := Option.bind_eq_some_iff.mp H
        obtain ⟨t122, A480, H⟩ := H
        replace H : (some t122) = some r := H
        have A48 := Aside0.mk A480
        clear A480
        obtain rfl := Option.some.inj H
        go_wp2_with (first | ((with_reducible refine gate_callee (f := 35) rfl ?_); refine goesL_ (some 51) rfl rfl Tryz.func35 (by kernel_rfl) rfl #[.string a0] rfl (by (try simp only [List.map_toArray, List.map_cons, List.map_nil]); first | done | rfl | (simp only [List.length_drop, List.length_take]; rfl)) ?_; (with_reducible refine (spec_TxTight.calls a0 t122 _ A48.out).mono ?_); rintro e w' ⟨rfl, ⟨nd, rfl⟩⟩; refine ⟨_, rfl, ?_⟩))
        go_ret
        exact ⟨by first | rfl | (simp; done) | (simp [*]; done), by repeat (first | exact Drawn0.refl _ | apply Drawn0.step)⟩

end Go.Proofs.YthjpchabeemfmaaGreatDoor.P
