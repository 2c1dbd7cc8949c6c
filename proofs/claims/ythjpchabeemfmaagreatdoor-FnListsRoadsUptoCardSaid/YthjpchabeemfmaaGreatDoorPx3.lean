/- Printed by a program of this session (pf.sh): Go functions as Lean functions, with their contracts. -/
import Derived.Test.YthjpchabeemfmaaGreatDoorPx0
import Derived.Test.YthjpchabeemfmaaGreatDoorFf
import Derived.Test.YthjpchabeemfmaaGreatDoorFz
namespace Go.Proofs.YthjpchabeemfmaaGreatDoor.P
open Go.RowKit Go.Proofs.YthjpchabeemfmaaGreatDoorW.PrintWords Go.Proofs.YthjpchabeemfmaaGreatDoorW.PrintLast Go.Proofs.YthjpchabeemfmaaGreatDoorW.PrintMore
attribute [local go_sem] max2_int min2_int max_two min_two max_three min_three max_four min_four   -- for this text's walks alone
set_option linter.unusedVariables false
set_option linter.unusedSimpArgs false

/-! ### spec_LtRight: function 7 -/
mutual
def spec_LtRight.l0 : Nat → List (S39) → List (S39) → Int → Int → Option (Bool)
  | 0, _, _, _, _ => none
  | k + 1, x0, x7, x8, x9 => if x9 < x8 then (if 0 ≤ x9 then (if x9 < (x7.length : Int) then (if (((rd_T39 x7 x9).f1).size : Int) > 200 then (spec_LtRight.j1 k x0 x7 x8 x9 true ((rd_T39 x7 x9).f0) ((rd_T39 x7 x9).f1) ((rd_T39 x7 x9).f2)) else ((spec_TxSimple.f ((rd_T39 x7 x9).f1) true).bind fun t119 => (if t119 = true then (spec_LtRight.j1 k x0 x7 x8 x9 (decide ((((rd_T39 x7 x9).f2).length : Int) > 10)) ((rd_T39 x7 x9).f0) ((rd_T39 x7 x9).f1) ((rd_T39 x7 x9).f2)) else (spec_LtRight.j1 k x0 x7 x8 x9 true ((rd_T39 x7 x9).f0) ((rd_T39 x7 x9).f1) ((rd_T39 x7 x9).f2))))) else (none)) else (none)) else (some (decide ((x0.length : Int) ≤ 80)))
def spec_LtRight.j1 : Nat → List (S39) → List (S39) → Int → Int → Bool → Int → ByteArray → List ByteArray → Option (Bool)
  | 0, _, _, _, _, _, _, _, _ => none
  | k + 1, x0, x7, x8, x9, x28, x119000, x119001, x119002 => if x28 = true then (some false) else (spec_LtRight.l1 k x0 x7 x8 x9 x119002 (x119002.length : Int) 0)
def spec_LtRight.l1 : Nat → List (S39) → List (S39) → Int → Int → List ByteArray → Int → Int → Option (Bool)
  | 0, _, _, _, _, _, _, _ => none
  | k + 1, x0, x7, x8, x9, x30, x31, x32 => if x32 < x31 then (if 0 ≤ x32 then (if x32 < (x30.length : Int) then (if ((rdOf ByteArray.empty x30 x32).size : Int) > 200 then (some false) else ((spec_TxSimple.f (rdOf ByteArray.empty x30 x32) true).bind fun t121 => (if t121 = true then (spec_LtRight.l1 k x0 x7 x8 x9 x30 x31 (wrap64 (x32 + 1))) else (some false)))) else (none)) else (none)) else (spec_LtRight.l0 k x0 x7 x8 (wrap64 (x9 + 1)))
end
def spec_LtRight.f (k : Nat) (l0 : List (S39)) : Option (Bool) := spec_LtRight.l0 k l0 l0 (l0.length : Int) 0
theorem spec_LtRight.mono_l : ∀ k, (∀ y0 y1 y2 y3, LeO (spec_LtRight.l0 k y0 y1 y2 y3) (spec_LtRight.l0 (k + 1) y0 y1 y2 y3)) ∧ (∀ y0 y1 y2 y3 y4 y5 y6 y7, LeO (spec_LtRight.j1 k y0 y1 y2 y3 y4 y5 y6 y7) (spec_LtRight.j1 (k + 1) y0 y1 y2 y3 y4 y5 y6 y7)) ∧ (∀ y0 y1 y2 y3 y4 y5 y6, LeO (spec_LtRight.l1 k y0 y1 y2 y3 y4 y5 y6) (spec_LtRight.l1 (k + 1) y0 y1 y2 y3 y4 y5 y6))
  | 0 => ⟨fun _ _ _ _ r h => by simp [spec_LtRight.l0] at h, fun _ _ _ _ _ _ _ _ r h => by simp [spec_LtRight.j1] at h, fun _ _ _ _ _ _ _ r h => by simp [spec_LtRight.l1] at h⟩
  | k + 1 => by
    obtain ⟨ih0, ih1, ih2⟩ := spec_LtRight.mono_l k
    refine ⟨?_, ?_, ?_⟩
    · intro y0 y1 y2 y3
      unfold spec_LtRight.l0
      repeat' first
      | (with_reducible exact ih0 _ _ _ _)
      | (with_reducible exact ih1 _ _ _ _ _ _ _ _)
      | (with_reducible exact ih2 _ _ _ _ _ _ _)
      | (with_reducible exact LeO.refl _)
      | (with_reducible exact LeO.none _)
      | (with_reducible refine LeO.ite ?_ ?_)
      | (with_reducible refine LeO.bind ?_ (fun _ => ?_))
      | exact ih0 _ _ _ _
      | exact ih1 _ _ _ _ _ _ _ _
      | exact ih2 _ _ _ _ _ _ _
      | exact LeO.none _
      | refine LeO.ite ?_ ?_
      | refine LeO.bind ?_ (fun _ => ?_)
    · intro y0 y1 y2 y3 y4 y5 y6 y7
      unfold spec_LtRight.j1
      repeat' first
      | (with_reducible exact ih0 _ _ _ _)
      | (with_reducible exact ih1 _ _ _ _ _ _ _ _)
      | (with_reducible exact ih2 _ _ _ _ _ _ _)
      | (with_reducible exact LeO.refl _)
      | (with_reducible exact LeO.none _)
      | (with_reducible refine LeO.ite ?_ ?_)
      | (with_reducible refine LeO.bind ?_ (fun _ => ?_))
      | exact ih0 _ _ _ _
      | exact ih1 _ _ _ _ _ _ _ _
      | exact ih2 _ _ _ _ _ _ _
      | exact LeO.none _
      | refine LeO.ite ?_ ?_
      | refine LeO.bind ?_ (fun _ => ?_)
    · intro y0 y1 y2 y3 y4 y5 y6
      unfold spec_LtRight.l1
      repeat' first
      | (with_reducible exact ih0 _ _ _ _)
      | (with_reducible exact ih1 _ _ _ _ _ _ _ _)
      | (with_reducible exact ih2 _ _ _ _ _ _ _)
      | (with_reducible exact LeO.refl _)
      | (with_reducible exact LeO.none _)
      | (with_reducible refine LeO.ite ?_ ?_)
      | (with_reducible refine LeO.bind ?_ (fun _ => ?_))
      | exact ih0 _ _ _ _
      | exact ih1 _ _ _ _ _ _ _ _
      | exact ih2 _ _ _ _ _ _ _
      | exact LeO.none _
      | refine LeO.ite ?_ ?_
      | refine LeO.bind ?_ (fun _ => ?_)
theorem spec_LtRight.mono : ∀ a0 k, LeO (spec_LtRight.f k a0) (spec_LtRight.f (k + 1) a0) := by
  intro a0 k
  obtain ⟨ih0, ih1, ih2⟩ := spec_LtRight.mono_l k
  unfold spec_LtRight.f
  repeat' first
      | (with_reducible exact ih0 _ _ _ _)
      | (with_reducible exact ih1 _ _ _ _ _ _ _ _)
      | (with_reducible exact ih2 _ _ _ _ _ _ _)
      | (with_reducible exact LeO.refl _)
      | (with_reducible exact LeO.none _)
      | (with_reducible refine LeO.ite ?_ ?_)
      | (with_reducible refine LeO.bind ?_ (fun _ => ?_))
      | exact ih0 _ _ _ _
      | exact ih1 _ _ _ _ _ _ _ _
      | exact ih2 _ _ _ _ _ _ _
      | exact LeO.none _
      | refine LeO.ite ?_ ?_
      | refine LeO.bind ?_ (fun _ => ?_)
set_option maxHeartbeats 8000000 in
set_option maxRecDepth 100000 in
theorem spec_LtRight.calls (k : Nat) (A0 : Option Addr) (c0 : Nat) (l0 : List (S39)) (r : Bool) (w : World) (hr0 : Kd.C k39 w A0 l0.length l0) (hc0 : l0.length ≤ c0) (h : spec_LtRight.f k l0 = some r) :
    Calls Tryz.prog 7 #[.slice A0 l0.length c0] w fun e w' => e = .returned (.bool r) ∧ Below w.heap.size w w' := by
  have hu39 := Tryz.underlying39
  have HR0 := Aside0.mk hr0
  have HC0 := Aside0.mk hc0
  clear hr0 hc0
  have HB := Aside0.mk (Below.refl w.heap.size w)
  have H : (spec_LtRight.l0 k l0 l0 (l0.length : Int) 0) = some r := h
  clear h
  have H' := Aside0.mk H
  clear H
  go_enter Tryz.func7, Tryz.ntmps7
  go_wp2
  go_loopg [9] k (fun kq v9 w' => ∃ (x9_1 : Int), v9 = .int .i64 x9_1 ∧ Aside0 (spec_LtRight.l0 kq l0 l0 (l0.length : Int) x9_1 = some r) ∧ Aside0 (kq ≤ k) ∧ Aside0 (Below w.heap.size w w'))
  case atStart => exact ⟨(0), (by first | rfl | (simp; done) | (simp [*]; done)), H', ⟨Nat.le_refl _⟩, ⟨by repeat (first | (with_reducible first | exact HB.out | apply below_alloc | apply pw_below_drewN | apply below_drew1) | exact HB.out)⟩⟩
  case round =>
    clear H'
    obtain ⟨x9_1, rfl, HA, HK1, HB⟩ := hrel
    cases gk with
    | zero => exact absurd HA.out (by simp [spec_LtRight.l0])
    | succ k1 =>
      have H := HA.out
      clear HA
      simp only [spec_LtRight.l0] at H
      by_cases c2 : x9_1 < (l0.length : Int)
      · rw [if_pos c2] at H
        have c2b0 : decide (x9_1 < (l0.length : Int)) = true := decide_eq_true c2
        clear c2
        by_cases c3 : 0 ≤ x9_1
        · rw [if_pos c3] at H
          have c3b0 : decide (0 ≤ x9_1) = true := decide_eq_true c3
          clear c3
          by_cases c4 : x9_1 < (l0.length : Int)
          · rw [if_pos c4] at H
            have c4b0 : decide (x9_1 < (l0.length : Int)) = true := decide_eq_true c4
            clear c4
            have HC5 := Aside0.mk H
            clear H
            have p117 : 0 ≤ (x9_1 : Int) := of_decide_eq_true (by first | (with_reducible assumption) | assumption)
            have q117 : x9_1 < (l0.length : Int) := of_decide_eq_true (by first | (with_reducible assumption) | assumption)
            obtain ⟨ad117, A117_2, c117_2, e117, hx117_0, hx117_1, hx117_2, hl117_2, hi117_2⟩ := at_T39 HR0.out x9_1 p117 q117
            cases e117
            replace hx117_0 := (HB.out.cell (World.block_lt_of_cell? w _ hx117_0)).trans hx117_0
            replace hx117_1 := (HB.out.cell (World.block_lt_of_cell? w _ hx117_1)).trans hx117_1
            replace hx117_2 := (HB.out.cell (World.block_lt_of_cell? w _ hx117_2)).trans hx117_2
            have HR117_2 := Aside0.mk hi117_2
            have HC117_2 := Aside0.mk hl117_2
            clear hi117_2 hl117_2
            replace p117 := eq_true p117
            replace q117 := eq_true q117
            go_upto_region 4 with (first | ((with_reducible refine gate_dst (N := 4) rfl ?_); (try (refine gate_guard (by rfl) ?_; dsimp only)); refine box_event ?hg (N := 4) ?hd (cs := #[.int .i64 0, .string (⟨#[]⟩ : ByteArray), .slice none 0 0]) (t := 39) ?hr ?_; (case hd => rfl); (case hg => rfl); (case hr => first | (go_simp; done) | (go_simp; rfl)); intro gb118 hg w6 hbox hb; have n0_ := Aside0.mk (below_step (by repeat (first | (with_reducible first | exact HB.out | apply below_alloc | apply pw_below_drewN | apply below_drew1) | exact HB.out)) hb); have n1_ := Aside0.mk (hbox); have n2_ := Aside0.mk ((by rw [hg]; exact (below_size (by repeat (first | (with_reducible first | exact HB.out | apply below_alloc | apply pw_below_drewN | apply below_drew1) | exact HB.out))) : w.heap.size ≤ gb118)); have n3_ := Aside0.mk ((by rw [hg]; exact (below_size (by repeat (first | (with_reducible first | exact HB.out | apply below_alloc | apply pw_below_drewN | apply below_drew1) | exact HB.out))) : w.heap.size ≤ gb118)); clear HB; have HB := n0_; have BK118 := n1_; have GW118 := n2_; have GE118 := n3_; clear n0_ n1_ n2_ n3_; clear hb hbox hg; have hcz7_0 : w6.cell? ⟨gb118, 0, none⟩ = some (.int .i64 0) := (blk_cell BK118.out 0).trans rfl; have hcz7_1 : w6.cell? ⟨gb118, 1, none⟩ = some (.string (⟨#[]⟩ : ByteArray)) := (blk_cell BK118.out 1).trans rfl; have hcz7_2 : w6.cell? ⟨gb118, 2, none⟩ = some (.slice none 0 0) := (blk_cell BK118.out 2).trans rfl; have hfz7_0 := blk_frozen BK118.out 0; have hfz7_1 := blk_frozen BK118.out 1; have hfz7_2 := blk_frozen BK118.out 2))
            (try simp only [Act.put, List.setIfInBounds_toArray, List.set_cons_zero, List.set_cons_succ])
            go_cut [28] (fun v28 wc => ∃ (kq : Nat) (x28_4 : Bool), v28 = .bool x28_4 ∧ Aside0 (spec_LtRight.j1 kq l0 l0 (l0.length : Int) x9_1 x28_4 ((rd_T39 l0 x9_1).f0) ((rd_T39 l0 x9_1).f1) ((rd_T39 l0 x9_1).f2) = some r) ∧ Aside0 (kq ≤ k1) ∧ Aside0 (wc.heap[gb118]? = some (.cells #[.int .i64 ((rd_T39 l0 x9_1).f0), .string ((rd_T39 l0 x9_1).f1), (.slice A117_2 ((rd_T39 l0 x9_1).f2).length c117_2)] 39 (0, 0))) ∧ Aside0 (Below w.heap.size w wc))
            case first =>
              have H := HC5.out
              clear HC5
              by_cases c8 : (((rd_T39 l0 x9_1).f1).size : Int) > 200
              · rw [if_pos c8] at H
                have c8b0 : decide (200 < (((rd_T39 l0 x9_1).f1).size : Int)) = true := decide_eq_true c8
                have c8b1 : decide (200 < ((rd_T39 l0 x9_1).f1).size) = true := decide_eq_true (by omega)
                clear c8
                (first | rw [c8b0] | (simp only [i64_w, i32_w]; rw [c8b0]) | skip)
                have H' := Aside0.mk H
                clear H
                have hcz9_0 : w6.cell? ⟨gb118, 0, none⟩ = some (.int .i64 0) := (blk_cell BK118.out 0).trans rfl
                have hcz9_1 : w6.cell? ⟨gb118, 1, none⟩ = some (.string (⟨#[]⟩ : ByteArray)) := (blk_cell BK118.out 1).trans rfl
                have hcz9_2 : w6.cell? ⟨gb118, 2, none⟩ = some (.slice none 0 0) := (blk_cell BK118.out 2).trans rfl
                have hfz9_0 := blk_frozen BK118.out 0
                have hfz9_1 := blk_frozen BK118.out 1
                have hfz9_2 := blk_frozen BK118.out 2
                go_wp2
                go_meet
                case rel => exact ⟨_, (true), (by first | rfl | (simp; done) | (simp [*]; done)), H', ⟨by have := HK1.out; first | omega | exact Nat.le_refl _⟩, ⟨by (with_reducible repeat (first | refine blk_drewN ?_ _ | refine blk_drew ?_ | refine blk_alloc ?_ _)); refine blk_put (cs := #[.int .i64 ((rd_T39 l0 x9_1).f0), .string ((rd_T39 l0 x9_1).f1), .slice none 0 0]) ?_ 2 _ rfl; (with_reducible repeat (first | refine blk_drewN ?_ _ | refine blk_drew ?_ | refine blk_alloc ?_ _)); refine blk_put (cs := #[.int .i64 ((rd_T39 l0 x9_1).f0), .string (⟨#[]⟩ : ByteArray), .slice none 0 0]) ?_ 1 _ rfl; (with_reducible repeat (first | refine blk_drewN ?_ _ | refine blk_drew ?_ | refine blk_alloc ?_ _)); refine blk_put (cs := #[.int .i64 0, .string (⟨#[]⟩ : ByteArray), .slice none 0 0]) ?_ 0 _ rfl; (with_reducible repeat (first | refine blk_drewN ?_ _ | refine blk_drew ?_ | refine blk_alloc ?_ _)); exact BK118.out⟩, ⟨by repeat (first | (with_reducible first | exact HB.out | apply below_alloc | apply pw_below_drewN | apply below_drew1 | refine below_set ?_ GE118.out) | exact HB.out)⟩⟩
              · rw [if_neg c8] at H
                have c8b0 : decide (200 < (((rd_T39 l0 x9_1).f1).size : Int)) = false := decide_eq_false c8
                have c8b1 : decide (200 < ((rd_T39 l0 x9_1).f1).size) = false := decide_eq_false (by omega)
                clear c8
                (first | rw [c8b0] | (simp only [i64_w, i32_w]; rw [c8b0]) | skip)
                replace H := Option.bind_eq_some_iff.mp H
                obtain ⟨t119, A100, H⟩ := H
                replace H : (if t119 = true then (spec_LtRight.j1 k1 l0 l0 (l0.length : Int) x9_1 (decide ((((rd_T39 l0 x9_1).f2).length : Int) > 10)) ((rd_T39 l0 x9_1).f0) ((rd_T39 l0 x9_1).f1) ((rd_T39 l0 x9_1).f2)) else (spec_LtRight.j1 k1 l0 l0 (l0.length : Int) x9_1 true ((rd_T39 l0 x9_1).f0) ((rd_T39 l0 x9_1).f1) ((rd_T39 l0 x9_1).f2))) = some r := H
                have A10 := Aside0.mk A100
                clear A100
                by_cases c11 : t119 = true
                · subst c11
                  have H1 : (spec_LtRight.j1 k1 l0 l0 (l0.length : Int) x9_1 (decide ((((rd_T39 l0 x9_1).f2).length : Int) > 10)) ((rd_T39 l0 x9_1).f0) ((rd_T39 l0 x9_1).f1) ((rd_T39 l0 x9_1).f2)) = some r := by rw [if_pos rfl] at H; exact H
                  clear H
                  have H := H1
                  clear H1
                  have H' := Aside0.mk H
                  clear H
                  have hcz12_0 : w6.cell? ⟨gb118, 0, none⟩ = some (.int .i64 0) := (blk_cell BK118.out 0).trans rfl
                  have hcz12_1 : w6.cell? ⟨gb118, 1, none⟩ = some (.string (⟨#[]⟩ : ByteArray)) := (blk_cell BK118.out 1).trans rfl
                  have hcz12_2 : w6.cell? ⟨gb118, 2, none⟩ = some (.slice none 0 0) := (blk_cell BK118.out 2).trans rfl
                  have hfz12_0 := blk_frozen BK118.out 0
                  have hfz12_1 := blk_frozen BK118.out 1
                  have hfz12_2 := blk_frozen BK118.out 2
                  go_wp2_with (first | (go_at_call 19; (with_reducible refine (spec_TxSimple.calls ((rd_T39 l0 x9_1).f1) true true _ A10.out).mono ?_); rintro e w13 ⟨rfl, hb⟩; have n0_ := Aside0.mk (blk_below (g := gb118) (o := .cells #[.int .i64 ((rd_T39 l0 x9_1).f0), .string ((rd_T39 l0 x9_1).f1), .slice A117_2 ((rd_T39 l0 x9_1).f2).length c117_2] 39 (0, 0)) (by (with_reducible repeat (first | refine blk_drewN ?_ _ | refine blk_drew ?_ | refine blk_alloc ?_ _)); refine blk_put (cs := #[.int .i64 ((rd_T39 l0 x9_1).f0), .string ((rd_T39 l0 x9_1).f1), .slice none 0 0]) ?_ 2 _ rfl; (with_reducible repeat (first | refine blk_drewN ?_ _ | refine blk_drew ?_ | refine blk_alloc ?_ _)); refine blk_put (cs := #[.int .i64 ((rd_T39 l0 x9_1).f0), .string (⟨#[]⟩ : ByteArray), .slice none 0 0]) ?_ 1 _ rfl; (with_reducible repeat (first | refine blk_drewN ?_ _ | refine blk_drew ?_ | refine blk_alloc ?_ _)); refine blk_put (cs := #[.int .i64 0, .string (⟨#[]⟩ : ByteArray), .slice none 0 0]) ?_ 0 _ rfl; (with_reducible repeat (first | refine blk_drewN ?_ _ | refine blk_drew ?_ | refine blk_alloc ?_ _)); exact BK118.out) hb); have n1_ := Aside0.mk (below_step (by repeat (first | (with_reducible first | exact HB.out | apply below_alloc | apply pw_below_drewN | apply below_drew1 | refine below_set ?_ GE118.out) | exact HB.out)) hb); clear BK118; clear HB; have BK118 := n0_; have HB := n1_; clear n0_ n1_; (try clear hb); (try clear hb2); (try clear hk); (try clear hi); have hcz14_0 : w13.cell? ⟨gb118, 0, none⟩ = some (.int .i64 ((rd_T39 l0 x9_1).f0)) := (blk_cell BK118.out 0).trans rfl; have hcz14_1 : w13.cell? ⟨gb118, 1, none⟩ = some (.string ((rd_T39 l0 x9_1).f1)) := (blk_cell BK118.out 1).trans rfl; have hcz14_2 : w13.cell? ⟨gb118, 2, none⟩ = some (.slice A117_2 ((rd_T39 l0 x9_1).f2).length c117_2) := (blk_cell BK118.out 2).trans rfl; have hfz14_0 := blk_frozen BK118.out 0; have hfz14_1 := blk_frozen BK118.out 1; have hfz14_2 := blk_frozen BK118.out 2))
                  go_meet
                  case rel => exact ⟨_, (decide ((((rd_T39 l0 x9_1).f2).length : Int) > 10)), (by first | rfl | (simp; done) | (simp [*]; done)), H', ⟨by have := HK1.out; first | omega | exact Nat.le_refl _⟩, ⟨by (with_reducible repeat (first | refine blk_drewN ?_ _ | refine blk_drew ?_ | refine blk_alloc ?_ _)); exact BK118.out⟩, ⟨by repeat (first | (with_reducible first | exact HB.out | apply below_alloc | apply pw_below_drewN | apply below_drew1 | refine below_set ?_ GE118.out) | exact HB.out)⟩⟩
                · replace c11 := Bool.eq_false_iff.mpr c11
                  subst c11
                  have H1 : (spec_LtRight.j1 k1 l0 l0 (l0.length : Int) x9_1 true ((rd_T39 l0 x9_1).f0) ((rd_T39 l0 x9_1).f1) ((rd_T39 l0 x9_1).f2)) = some r := by rw [if_neg (show ¬ (false = true) by decide)] at H; exact H
                  clear H
                  have H := H1
                  clear H1
                  have H' := Aside0.mk H
                  clear H
                  have hcz15_0 : w6.cell? ⟨gb118, 0, none⟩ = some (.int .i64 0) := (blk_cell BK118.out 0).trans rfl
                  have hcz15_1 : w6.cell? ⟨gb118, 1, none⟩ = some (.string (⟨#[]⟩ : ByteArray)) := (blk_cell BK118.out 1).trans rfl
                  have hcz15_2 : w6.cell? ⟨gb118, 2, none⟩ = some (.slice none 0 0) := (blk_cell BK118.out 2).trans rfl
                  have hfz15_0 := blk_frozen BK118.out 0
                  have hfz15_1 := blk_frozen BK118.out 1
                  have hfz15_2 := blk_frozen BK118.out 2
                  go_wp2_with (first | (go_at_call 19; (with_reducible refine (spec_TxSimple.calls ((rd_T39 l0 x9_1).f1) true false _ A10.out).mono ?_); rintro e w16 ⟨rfl, hb⟩; have n0_ := Aside0.mk (blk_below (g := gb118) (o := .cells #[.int .i64 ((rd_T39 l0 x9_1).f0), .string ((rd_T39 l0 x9_1).f1), .slice A117_2 ((rd_T39 l0 x9_1).f2).length c117_2] 39 (0, 0)) (by (with_reducible repeat (first | refine blk_drewN ?_ _ | refine blk_drew ?_ | refine blk_alloc ?_ _)); refine blk_put (cs := #[.int .i64 ((rd_T39 l0 x9_1).f0), .string ((rd_T39 l0 x9_1).f1), .slice none 0 0]) ?_ 2 _ rfl; (with_reducible repeat (first | refine blk_drewN ?_ _ | refine blk_drew ?_ | refine blk_alloc ?_ _)); refine blk_put (cs := #[.int .i64 ((rd_T39 l0 x9_1).f0), .string (⟨#[]⟩ : ByteArray), .slice none 0 0]) ?_ 1 _ rfl; (with_reducible repeat (first | refine blk_drewN ?_ _ | refine blk_drew ?_ | refine blk_alloc ?_ _)); refine blk_put (cs := #[.int .i64 0, .string (⟨#[]⟩ : ByteArray), .slice none 0 0]) ?_ 0 _ rfl; (with_reducible repeat (first | refine blk_drewN ?_ _ | refine blk_drew ?_ | refine blk_alloc ?_ _)); exact BK118.out) hb); have n1_ := Aside0.mk (below_step (by repeat (first | (with_reducible first | exact HB.out | apply below_alloc | apply pw_below_drewN | apply below_drew1 | refine below_set ?_ GE118.out) | exact HB.out)) hb); clear BK118; clear HB; have BK118 := n0_; have HB := n1_; clear n0_ n1_; (try clear hb); (try clear hb2); (try clear hk); (try clear hi)))
                  go_meet
                  case rel => exact ⟨_, (true), (by first | rfl | (simp; done) | (simp [*]; done)), H', ⟨by have := HK1.out; first | omega | exact Nat.le_refl _⟩, ⟨by (with_reducible repeat (first | refine blk_drewN ?_ _ | refine blk_drew ?_ | refine blk_alloc ?_ _)); exact BK118.out⟩, ⟨by repeat (first | (with_reducible first | exact HB.out | apply below_alloc | apply pw_below_drewN | apply below_drew1 | refine below_set ?_ GE118.out) | exact HB.out)⟩⟩
            case rest =>
              clear HC5
              try clear c1
              try clear p1
              try clear q1
              try clear hx1
              try clear c2
              try clear c2b0
              try clear p2
              try clear c3
              try clear c3b0
              try clear c4
              try clear c4b0
              try clear c7
              try clear c8
              try clear c8b0
              try clear c8b1
              try clear c11
              try clear p11
              try clear q11
              try clear hx11
              try clear hcz12_0
              try clear hcz12_1
              try clear hcz12_2
              try clear hcz14_0
              try clear hcz14_1
              try clear hcz14_2
              try clear hcz15_0
              try clear hcz15_1
              try clear hcz15_2
              try clear hcz7_0
              try clear hcz7_1
              try clear hcz7_2
              try clear hcz9_0
              try clear hcz9_1
              try clear hcz9_2
              try clear hfz12_0
              try clear hfz12_1
              try clear hfz12_2
              try clear hfz14_0
              try clear hfz14_1
              try clear hfz14_2
              try clear hfz15_0
              try clear hfz15_1
              try clear hfz15_2
              try clear hfz7_0
              try clear hfz7_1
              try clear hfz7_2
              try clear hfz9_0
              try clear hfz9_1
              try clear hfz9_2
              try clear hx117_0
              try clear hx117_1
              try clear hx117_2
              try clear p117
              try clear q117
              obtain ⟨kq, x28_4, rfl, HA, HJ4, BK118, HB⟩ := hcut
              cases kq with
              | zero => exact absurd HA.out (by simp [spec_LtRight.j1])
              | succ kj4 =>
                have H := HA.out
                clear HA
                simp only [spec_LtRight.j1] at H
                by_cases c17 : x28_4 = true
                · subst c17
                  have H1 : (some false) = some r := by rw [if_pos rfl] at H; exact H
                  clear H
                  have H := H1
                  clear H1
                  obtain rfl := Option.some.inj H
                  go_wp2
                  go_ret
                  exact ⟨by first | rfl | (simp [errW_none, errW_some] <;> rfl) | (have e_ : ∀ l_ : List UInt8, (l_ != []) = !l_.isEmpty := fun l_ => (by cases l_ <;> rfl); simp [errW_none, errW_some, e_]; done) | (simp [*, errW_none, errW_some] <;> rfl), by repeat (first | (with_reducible first | exact HB.out | apply below_alloc | apply pw_below_drewN | apply below_drew1 | refine below_set ?_ GE118.out) | exact HB.out)⟩
                · replace c17 := Bool.eq_false_iff.mpr c17
                  subst c17
                  have H1 : (spec_LtRight.l1 kj4 l0 l0 (l0.length : Int) x9_1 ((rd_T39 l0 x9_1).f2) (((rd_T39 l0 x9_1).f2).length : Int) 0) = some r := by rw [if_neg (show ¬ (false = true) by decide)] at H; exact H
                  clear H
                  have H := H1
                  clear H1
                  have H' := Aside0.mk H
                  clear H
                  have hcz18_0 : wc.cell? ⟨gb118, 0, none⟩ = some (.int .i64 ((rd_T39 l0 x9_1).f0)) := (blk_cell BK118.out 0).trans rfl
                  have hcz18_1 : wc.cell? ⟨gb118, 1, none⟩ = some (.string ((rd_T39 l0 x9_1).f1)) := (blk_cell BK118.out 1).trans rfl
                  have hcz18_2 : wc.cell? ⟨gb118, 2, none⟩ = some (.slice A117_2 ((rd_T39 l0 x9_1).f2).length c117_2) := (blk_cell BK118.out 2).trans rfl
                  have hfz18_0 := blk_frozen BK118.out 0
                  have hfz18_1 := blk_frozen BK118.out 1
                  have hfz18_2 := blk_frozen BK118.out 2
                  go_wp2
                  go_loopg [32] kj4 (fun kq v32 w' => ∃ (x32_3 : Int), v32 = .int .i64 x32_3 ∧ Aside0 (spec_LtRight.l1 kq l0 l0 (l0.length : Int) x9_1 ((rd_T39 l0 x9_1).f2) (((rd_T39 l0 x9_1).f2).length : Int) x32_3 = some r) ∧ Aside0 (kq ≤ kj4) ∧ Aside0 (w'.heap[gb118]? = some (.cells #[.int .i64 ((rd_T39 l0 x9_1).f0), .string ((rd_T39 l0 x9_1).f1), (.slice A117_2 ((rd_T39 l0 x9_1).f2).length c117_2)] 39 (0, 0))) ∧ Aside0 (Below w.heap.size w w'))
                  case atStart => exact ⟨(0), (by first | rfl | (simp; done) | (simp [*]; done)), H', ⟨Nat.le_refl _⟩, ⟨by (with_reducible repeat (first | refine blk_drewN ?_ _ | refine blk_drew ?_ | refine blk_alloc ?_ _)); exact BK118.out⟩, ⟨by repeat (first | (with_reducible first | exact HB.out | apply below_alloc | apply pw_below_drewN | apply below_drew1 | refine below_set ?_ GE118.out) | exact HB.out)⟩⟩
                  case round =>
                    clear H'
                    try clear c1
                    try clear p1
                    try clear q1
                    try clear hx1
                    try clear c2
                    try clear c2b0
                    try clear p2
                    try clear c3
                    try clear c3b0
                    try clear c4
                    try clear c4b0
                    try clear c7
                    try clear c8
                    try clear c8b0
                    try clear c8b1
                    try clear c11
                    try clear p11
                    try clear q11
                    try clear hx11
                    try clear c17
                    try clear hcz12_0
                    try clear hcz12_1
                    try clear hcz12_2
                    try clear hcz14_0
                    try clear hcz14_1
                    try clear hcz14_2
                    try clear hcz15_0
                    try clear hcz15_1
                    try clear hcz15_2
                    try clear hcz18_0
                    try clear hcz18_1
                    try clear hcz18_2
                    try clear hcz7_0
                    try clear hcz7_1
                    try clear hcz7_2
                    try clear hcz9_0
                    try clear hcz9_1
                    try clear hcz9_2
                    try clear hfz12_0
                    try clear hfz12_1
                    try clear hfz12_2
                    try clear hfz14_0
                    try clear hfz14_1
                    try clear hfz14_2
                    try clear hfz15_0
                    try clear hfz15_1
                    try clear hfz15_2
                    try clear hfz18_0
                    try clear hfz18_1
                    try clear hfz18_2
                    try clear hfz7_0
                    try clear hfz7_1
                    try clear hfz7_2
                    try clear hfz9_0
                    try clear hfz9_1
                    try clear hfz9_2
                    try clear hx117_0
                    try clear hx117_1
                    try clear hx117_2
                    try clear p1
                    try clear p11
                    try clear p117
                    try clear p2
                    try clear q1
                    try clear q11
                    try clear q117
                    obtain ⟨x32_3, rfl, HA, HK3, BK118, HB⟩ := hrel
                    cases gk with
                    | zero => exact absurd HA.out (by simp [spec_LtRight.l1])
                    | succ k3 =>
                      have H := HA.out
                      clear HA
                      simp only [spec_LtRight.l1] at H
                      by_cases c19 : x32_3 < (((rd_T39 l0 x9_1).f2).length : Int)
                      · rw [if_pos c19] at H
                        have c19b0 : decide (x32_3 < (((rd_T39 l0 x9_1).f2).length : Int)) = true := decide_eq_true c19
                        clear c19
                        by_cases c20 : 0 ≤ x32_3
                        · rw [if_pos c20] at H
                          have c20b0 : decide (0 ≤ x32_3) = true := decide_eq_true c20
                          clear c20
                          by_cases c21 : x32_3 < (((rd_T39 l0 x9_1).f2).length : Int)
                          · rw [if_pos c21] at H
                            have c21b0 : decide (x32_3 < (((rd_T39 l0 x9_1).f2).length : Int)) = true := decide_eq_true c21
                            clear c21
                            by_cases c22 : ((rdOf ByteArray.empty ((rd_T39 l0 x9_1).f2) x32_3).size : Int) > 200
                            · rw [if_pos c22] at H
                              have c22b0 : decide (200 < ((rdOf ByteArray.empty ((rd_T39 l0 x9_1).f2) x32_3).size : Int)) = true := decide_eq_true c22
                              have c22b1 : decide (200 < (rdOf ByteArray.empty ((rd_T39 l0 x9_1).f2) x32_3).size) = true := decide_eq_true (by omega)
                              clear c22
                              obtain rfl := Option.some.inj H
                              have p120 : 0 ≤ (x32_3 : Int) := of_decide_eq_true (by first | (with_reducible assumption) | assumption)
                              have q120 : x32_3 < (((rd_T39 l0 x9_1).f2).length : Int) := of_decide_eq_true (by first | (with_reducible assumption) | assumption)
                              obtain ⟨ad120, e120, hx120_0⟩ := Kd.at_string HR117_2.out x32_3 p120 q120
                              cases e120
                              replace hx120_0 := (HB.out.cell (World.block_lt_of_cell? w _ hx120_0)).trans hx120_0
                              replace p120 := eq_true p120
                              replace q120 := eq_true q120
                              go_wp2
                              go_ret
                              exact ⟨by first | rfl | (simp [errW_none, errW_some] <;> rfl) | (have e_ : ∀ l_ : List UInt8, (l_ != []) = !l_.isEmpty := fun l_ => (by cases l_ <;> rfl); simp [errW_none, errW_some, e_]; done) | (simp [*, errW_none, errW_some] <;> rfl), by repeat (first | (with_reducible first | exact HB.out | apply below_alloc | apply pw_below_drewN | apply below_drew1 | refine below_set ?_ GE118.out) | exact HB.out)⟩
                            · rw [if_neg c22] at H
                              have c22b0 : decide (200 < ((rdOf ByteArray.empty ((rd_T39 l0 x9_1).f2) x32_3).size : Int)) = false := decide_eq_false c22
                              have c22b1 : decide (200 < (rdOf ByteArray.empty ((rd_T39 l0 x9_1).f2) x32_3).size) = false := decide_eq_false (by omega)
                              clear c22
                              replace H := Option.bind_eq_some_iff.mp H
                              obtain ⟨t121, A230, H⟩ := H
                              replace H : (if t121 = true then (spec_LtRight.l1 k3 l0 l0 (l0.length : Int) x9_1 ((rd_T39 l0 x9_1).f2) (((rd_T39 l0 x9_1).f2).length : Int) (wrap64 (x32_3 + 1))) else (some false)) = some r := H
                              have A23 := Aside0.mk A230
                              clear A230
                              by_cases c24 : t121 = true
                              · subst c24
                                have H1 : (spec_LtRight.l1 k3 l0 l0 (l0.length : Int) x9_1 ((rd_T39 l0 x9_1).f2) (((rd_T39 l0 x9_1).f2).length : Int) (wrap64 (x32_3 + 1))) = some r := by rw [if_pos rfl] at H; exact H
                                clear H
                                have H := H1
                                clear H1
                                have H' := Aside0.mk H
                                clear H
                                have p120 : 0 ≤ (x32_3 : Int) := of_decide_eq_true (by first | (with_reducible assumption) | assumption)
                                have q120 : x32_3 < (((rd_T39 l0 x9_1).f2).length : Int) := of_decide_eq_true (by first | (with_reducible assumption) | assumption)
                                obtain ⟨ad120, e120, hx120_0⟩ := Kd.at_string HR117_2.out x32_3 p120 q120
                                cases e120
                                replace hx120_0 := (HB.out.cell (World.block_lt_of_cell? w _ hx120_0)).trans hx120_0
                                replace p120 := eq_true p120
                                replace q120 := eq_true q120
                                go_wp2_with (first | (go_at_call 19; (with_reducible refine (spec_TxSimple.calls (rdOf ByteArray.empty ((rd_T39 l0 x9_1).f2) x32_3) true true _ A23.out).mono ?_); rintro e w25 ⟨rfl, hb⟩; have n0_ := Aside0.mk (blk_below (g := gb118) (o := .cells #[.int .i64 ((rd_T39 l0 x9_1).f0), .string ((rd_T39 l0 x9_1).f1), .slice (some ad120) ((rd_T39 l0 x9_1).f2).length c117_2] 39 (0, 0)) (by (with_reducible repeat (first | refine blk_drewN ?_ _ | refine blk_drew ?_ | refine blk_alloc ?_ _)); exact BK118.out) hb); have n1_ := Aside0.mk (below_step (by repeat (first | (with_reducible first | exact HB.out | apply below_alloc | apply pw_below_drewN | apply below_drew1 | refine below_set ?_ GE118.out) | exact HB.out)) hb); clear BK118; clear HB; have BK118 := n0_; have HB := n1_; clear n0_ n1_; (try clear hb); (try clear hb2); (try clear hk); (try clear hi)))
                                go_roundg k3
                                case measure => have := HK1.out; have := HJ4.out; have := HK3.out; omega
                                case rel => exact ⟨(wrap64 (x32_3 + 1)), (by first | rfl | (simp; done) | (simp [*]; done)), H', ⟨by have := HK1.out; have := HJ4.out; have := HK3.out; omega⟩, ⟨by (with_reducible repeat (first | refine blk_drewN ?_ _ | refine blk_drew ?_ | refine blk_alloc ?_ _)); exact BK118.out⟩, ⟨by repeat (first | (with_reducible first | exact HB.out | apply below_alloc | apply pw_below_drewN | apply below_drew1 | refine below_set ?_ GE118.out) | exact HB.out)⟩⟩
                              · replace c24 := Bool.eq_false_iff.mpr c24
                                subst c24
                                have H1 : (some false) = some r := by rw [if_neg (show ¬ (false = true) by decide)] at H; exact H
                                clear H
                                have H := H1
                                clear H1
                                obtain rfl := Option.some.inj H
                                have p120 : 0 ≤ (x32_3 : Int) := of_decide_eq_true (by first | (with_reducible assumption) | assumption)
                                have q120 : x32_3 < (((rd_T39 l0 x9_1).f2).length : Int) := of_decide_eq_true (by first | (with_reducible assumption) | assumption)
                                obtain ⟨ad120, e120, hx120_0⟩ := Kd.at_string HR117_2.out x32_3 p120 q120
                                cases e120
                                replace hx120_0 := (HB.out.cell (World.block_lt_of_cell? w _ hx120_0)).trans hx120_0
                                replace p120 := eq_true p120
                                replace q120 := eq_true q120
                                go_wp2_with (first | (go_at_call 19; (with_reducible refine (spec_TxSimple.calls (rdOf ByteArray.empty ((rd_T39 l0 x9_1).f2) x32_3) true false _ A23.out).mono ?_); rintro e w26 ⟨rfl, hb⟩; have n0_ := Aside0.mk (blk_below (g := gb118) (o := .cells #[.int .i64 ((rd_T39 l0 x9_1).f0), .string ((rd_T39 l0 x9_1).f1), .slice (some ad120) ((rd_T39 l0 x9_1).f2).length c117_2] 39 (0, 0)) (by (with_reducible repeat (first | refine blk_drewN ?_ _ | refine blk_drew ?_ | refine blk_alloc ?_ _)); exact BK118.out) hb); have n1_ := Aside0.mk (below_step (by repeat (first | (with_reducible first | exact HB.out | apply below_alloc | apply pw_below_drewN | apply below_drew1 | refine below_set ?_ GE118.out) | exact HB.out)) hb); clear BK118; clear HB; have BK118 := n0_; have HB := n1_; clear n0_ n1_; (try clear hb); (try clear hb2); (try clear hk); (try clear hi)))
                                go_ret
                                exact ⟨by first | rfl | (simp [errW_none, errW_some] <;> rfl) | (have e_ : ∀ l_ : List UInt8, (l_ != []) = !l_.isEmpty := fun l_ => (by cases l_ <;> rfl); simp [errW_none, errW_some, e_]; done) | (simp [*, errW_none, errW_some] <;> rfl), by repeat (first | (with_reducible first | exact HB.out | apply below_alloc | apply pw_below_drewN | apply below_drew1 | refine below_set ?_ GE118.out) | exact HB.out)⟩
                          · rw [if_neg c21] at H
                            exact absurd H (by simp)
                        · rw [if_neg c20] at H
                          exact absurd H (by simp)
                      · rw [if_neg c19] at H
                        have c19b0 : decide (x32_3 < (((rd_T39 l0 x9_1).f2).length : Int)) = false := decide_eq_false c19
                        clear c19
                        have H' := Aside0.mk H
                        clear H
                        go_wp2
                        go_roundg k3
                        case measure => have := HK1.out; have := HJ4.out; have := HK3.out; omega
                        case rel => exact ⟨(wrap64 (x9_1 + 1)), (by first | rfl | (simp; done) | (simp [*]; done)), H', ⟨by have := HK1.out; have := HJ4.out; have := HK3.out; omega⟩, ⟨by repeat (first | (with_reducible first | exact HB.out | apply below_alloc | apply pw_below_drewN | apply below_drew1 | refine below_set ?_ GE118.out) | exact HB.out)⟩⟩
          · rw [if_neg c4] at H
            exact absurd H (by simp)
        · rw [if_neg c3] at H
          exact absurd H (by simp)
      · rw [if_neg c2] at H
        have c2b0 : decide (x9_1 < (l0.length : Int)) = false := decide_eq_false c2
        clear c2
        obtain rfl := Option.some.inj H
        go_wp2
        go_ret
        exact ⟨by first | rfl | (simp [errW_none, errW_some] <;> rfl) | (have e_ : ∀ l_ : List UInt8, (l_ != []) = !l_.isEmpty := fun l_ => (by cases l_ <;> rfl); simp [errW_none, errW_some, e_]; done) | (simp [*, errW_none, errW_some] <;> rfl), by repeat (first | (with_reducible first | exact HB.out | apply below_alloc | apply pw_below_drewN | apply below_drew1) | exact HB.out)⟩

/-! ### spec_TxTight: function 35 -/
def spec_TxTight.f (a0 : ByteArray) : Option (Bool) := if a0.toList = ([] : List UInt8) then (some false) else (if 0 < (a0.size : Int) then (if (bt a0 0) = 32 then (some false) else (if 0 ≤ (wrap64 ((a0.size : Int) - 1)) then (if (wrap64 ((a0.size : Int) - 1)) < (a0.size : Int) then (some ((bt a0 (wrap64 ((a0.size : Int) - 1))) != 32)) else (none)) else (none))) else (none))
set_option maxHeartbeats 8000000 in
set_option maxRecDepth 100000 in
theorem spec_TxTight.calls (a0 : ByteArray) (r : Bool) (w : World) (h : spec_TxTight.f a0 = some r) :
    Calls Tryz.prog 35 #[.string a0] w fun e w' => e = .returned (.bool r) ∧ Drawn0 w w' := by
  have H : (if a0.toList = ([] : List UInt8) then (some false) else (if 0 < (a0.size : Int) then (if (bt a0 0) = 32 then (some false) else (if 0 ≤ (wrap64 ((a0.size : Int) - 1)) then (if (wrap64 ((a0.size : Int) - 1)) < (a0.size : Int) then (some ((bt a0 (wrap64 ((a0.size : Int) - 1))) != 32)) else (none)) else (none))) else (none))) = some r := h
  clear h
  by_cases c2 : a0.toList = ([] : List UInt8)
  · rw [if_pos c2] at H
    have c2b0 : (a0.toList == ([] : List UInt8)) = true := beq_iff_eq.mpr c2
    have c2b7 : a0.toList.isEmpty = true := by simpa using c2
    have c2b1 : (a0.toList != ([] : List UInt8)) = false := bne_eq_false_iff_eq.mpr c2
    clear c2
    obtain rfl := Option.some.inj H
    go_enter Tryz.func35, Tryz.ntmps35
    go_wp2
    go_ret
    exact ⟨by first | rfl | (simp; done) | (simp [*]; done), by repeat (first | exact Drawn0.refl _ | apply Drawn0.step)⟩
  · rw [if_neg c2] at H
    have c2b0 : (a0.toList == ([] : List UInt8)) = false := beq_eq_false_iff_ne.mpr c2
    have c2b7 : a0.toList.isEmpty = false := by simpa using c2
    have c2b1 : (a0.toList != ([] : List UInt8)) = true := bne_iff_ne.mpr c2
    by_cases c3 : 0 < (a0.size : Int)
    · rw [if_pos c3] at H
      have c3b0 : decide (0 < (a0.size : Int)) = true := decide_eq_true c3
      have c3b1 : decide (0 < a0.size) = true := decide_eq_true (by omega)
      clear c3
      by_cases c5 : (bt a0 0) = 32
      · rw [if_pos c5] at H
        have c5b0 : ((bt a0 0) == 32) = true := beq_iff_eq.mpr c5
        have c5b1 : ((bt a0 0) != 32) = false := bne_eq_false_iff_eq.mpr c5
        clear c5
        obtain rfl := Option.some.inj H
        have p4 : 0 ≤ (0 : Int) := (by omega)
        have q4 : 0 < a0.size := (by have : (0 : Int) < (a0.size : Int) := of_decide_eq_true (by first | (with_reducible assumption) | assumption); omega)
        have hx4 : ∀ h : 0 < a0.size, ((a0[0]'h).toNat : Int) = bt a0 0 := bt_at a0 0
        clear p4
        have qi4 : (0 < (a0.size : Int)) = True := eq_true (of_decide_eq_true (by first | (with_reducible assumption) | assumption))
        replace q4 := eq_true q4
        go_enter Tryz.func35, Tryz.ntmps35
        go_wp2
        go_ret
        exact ⟨by first | rfl | (simp; done) | (simp [*]; done), by repeat (first | exact Drawn0.refl _ | apply Drawn0.step)⟩
      · rw [if_neg c5] at H
        have c5b0 : ((bt a0 0) == 32) = false := beq_eq_false_iff_ne.mpr c5
        have c5b1 : ((bt a0 0) != 32) = true := bne_iff_ne.mpr c5
        obtain ⟨ji6, hji6⟩ : ∃ j_ : Int, (wrap64 ((a0.size : Int) - 1)) = j_ := ⟨_, rfl⟩
        replace H : (if 0 ≤ (ji6) then (if (ji6) < (a0.size : Int) then (some ((bt a0 (ji6)) != 32)) else (none)) else (none)) = some r := by first | (rw [hji6] at H; exact H) | (simp only [hji6] at H ⊢; exact H)
        have hji6w : (IntKind.i64.wrap ((a0.size : Int) - 1)) = ji6 := (i64_w _).trans hji6
        by_cases c7 : 0 ≤ (ji6)
        · rw [if_pos c7] at H
          have c7b0 : decide (0 ≤ (ji6)) = true := decide_eq_true c7
          clear c7
          by_cases c8 : (ji6) < (a0.size : Int)
          · rw [if_pos c8] at H
            have c8b0 : decide ((ji6) < (a0.size : Int)) = true := decide_eq_true c8
            clear c8
            obtain rfl := Option.some.inj H
            have p4 : 0 ≤ (0 : Int) := (by omega)
            have q4 : 0 < a0.size := (by have : (0 : Int) < (a0.size : Int) := of_decide_eq_true (by first | (with_reducible assumption) | assumption); omega)
            have hx4 : ∀ h : 0 < a0.size, ((a0[0]'h).toNat : Int) = bt a0 0 := bt_at a0 0
            clear p4
            have qi4 : (0 < (a0.size : Int)) = True := eq_true (of_decide_eq_true (by first | (with_reducible assumption) | assumption))
            replace q4 := eq_true q4
            have p9 : 0 ≤ ((ji6) : Int) := of_decide_eq_true (by first | (with_reducible assumption) | assumption)
            have q9 : (ji6) < (a0.size : Int) := of_decide_eq_true (by first | (with_reducible assumption) | assumption)
            have hx9 := bt_at a0 (ji6)
            replace p9 := eq_true p9
            replace q9 := eq_true q9
            go_enter Tryz.func35, Tryz.ntmps35
            go_wp2
            go_ret
            exact ⟨by first | rfl | (simp; done) | (simp only [← hji6] <;> (first | rfl | simp)) | (simp [*]; done), by repeat (first | exact Drawn0.refl _ | apply Drawn0.step)⟩
          · rw [if_neg c8] at H
            exact absurd H (by simp)
        · rw [if_neg c7] at H
          exact absurd H (by simp)
    · rw [if_neg c3] at H
      exact absurd H (by simp)

end Go.Proofs.YthjpchabeemfmaaGreatDoor.P
