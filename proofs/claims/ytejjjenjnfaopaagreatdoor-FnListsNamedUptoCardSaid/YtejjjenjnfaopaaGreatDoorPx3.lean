/- Printed by a program of this session (pf.sh): Go functions as Lean functions, with their contracts. -/
import Derived.Test.YtejjjenjnfaopaaGreatDoorPx0
import Derived.Test.YtejjjenjnfaopaaGreatDoorFf
import Derived.Test.YtejjjenjnfaopaaGreatDoorFz
namespace Go.Proofs.YtejjjenjnfaopaaGreatDoor.P
open Go.RowKit Go.Proofs.YtejjjenjnfaopaaGreatDoorW.PrintWords Go.Proofs.YtejjjenjnfaopaaGreatDoorW.PrintLast Go.Proofs.YtejjjenjnfaopaaGreatDoorW.PrintMore
attribute [local go_sem] max2_int min2_int max_two min_two max_three min_three max_four min_four   -- for this text's walks alone
set_option linter.unusedVariables false
set_option linter.unusedSimpArgs false

/-! ### spec_LtRight: function 9 -/
mutual
def spec_LtRight.l0 : Nat → List (S50) → List (S50) → Int → Int → Option (Bool)
 | 0, _, _, _, _ => none
 | k + 1, x0, x7, x8, x9 => if x9 < x8 then (if 0 ≤ x9 then (if x9 < (x7.length : Int) then (if (((rd_T50 x7 x9).f1).size : Int) > 200 then (spec_LtRight.j1 k x0 x7 x8 x9 true ((rd_T50 x7 x9).f0) ((rd_T50 x7 x9).f1) ((rd_T50 x7 x9).f2)) else ((spec_TxSimple.f ((rd_T50 x7 x9).f1) true).bind fun t119 => (if t119 = true then (spec_LtRight.j1 k x0 x7 x8 x9 (decide ((((rd_T50 x7 x9).f2).length : Int) > 10)) ((rd_T50 x7 x9).f0) ((rd_T50 x7 x9).f1) ((rd_T50 x7 x9).f2)) else (spec_LtRight.j1 k x0 x7 x8 x9 true ((rd_T50 x7 x9).f0) ((rd_T50 x7 x9).f1) ((rd_T50 x7 x9).f2))))) else (none)) else (none)) else (some (decide ((x0.length : Int) ≤ 80)))
def spec_LtRight.j1 : Nat → List (S50) → List (S50) → Int → Int → Bool → Int → ByteArray → List ByteArray → Option (Bool)
 | 0, _, _, _, _, _, _, _, _ => none
 | k + 1, x0, x7, x8, x9, x28, x119000, x119001, x119002 => if x28 = true then (some false) else (spec_LtRight.l1 k x0 x7 x8 x9 x119002 (x119002.length : Int) 0)
def spec_LtRight.l1 : Nat → List (S50) → List (S50) → Int → Int → List ByteArray → Int → Int → Option (Bool)
 | 0, _, _, _, _, _, _, _ => none
 | k + 1, x0, x7, x8, x9, x30, x31, x32 => if x32 < x31 then (if 0 ≤ x32 then (if x32 < (x30.length : Int) then (if ((rdOf ByteArray.empty x30 x32).size : Int) > 200 then (some false) else ((spec_TxSimple.f (rdOf ByteArray.empty x30 x32) true).bind fun t121 => (if t121 = true then (spec_LtRight.l1 k x0 x7 x8 x9 x30 x31 (wrap64 (x32 + 1))) else (some false)))) else (none)) else (none)) else (spec_LtRight.l0 k x0 x7 x8 (wrap64 (x9 + 1)))
end
def spec_LtRight.f (k : Nat) (l0 : List (S50)) : Option (Bool) := spec_LtRight.l0 k l0 l0 (l0.length : Int) 0
theorem spec_LtRight.mono_l : ∀ k, (∀ y0 y1 y2 y3, LeO (spec_LtRight.l0 k y0 y1 y2 y3) (spec_LtRight.l0 (k + 1) y0 y1 y2 y3)) ∧ (∀ y0 y1 y2 y3 y4 y5 y6 y7, LeO (spec_LtRight.j1 k y0 y1 y2 y3 y4 y5 y6 y7) (spec_LtRight.j1 (k + 1) y0 y1 y2 y3 y4 y5 y6 y7)) ∧ (∀ y0 y1 y2 y3 y4 y5 y6, LeO (spec_LtRight.l1 k y0 y1 y2 y3 y4 y5 y6) (spec_LtRight.l1 (k + 1) y0 y1 y2 y3 y4 y5 y6))
 | 0 => ⟨fun _ _ _ _ r h => by simp [spec_LtRight.l0] at h, fun _ _ _ _ _ _ _ _ r h => by simp [spec_LtRight.j1] at h, fun _ _ _ _ _ _ _ r h => by simp [spec_LtRight.l1] at h⟩
 | k + 1 => by
  obtain ⟨ih0, ih1, ih2⟩ := spec_LtRight.mono_l k
  refine ⟨?_, ?_, ?_⟩
  ·intro y0 y1 y2 y3
   unfold spec_LtRight.l0
   repeat' first
   | (with_reducible exact ih0 _ _ _ _)
   | (with_reducible exact ih1 _ _ _ _ _ _ _ _)
   | (with_reducible exact ih2 _ _ _ _ _ _ _)
   | (with_reducible exact LeO.refl _)
   | (with_reducible exact LeO.none _)
   | (with_reducible refine LeO.ite ?_ ?_)
   | (with_reducible refine LeO.bind ?_ (fun _ => ?_))
   | exact ih0 _ _ _ _
   | exact ih1 _ _ _ _ _ _ _ _
   | exact ih2 _ _ _ _ _ _ _
   | exact LeO.none _
   | refine LeO.ite ?_ ?_
   | refine LeO.bind ?_ (fun _ => ?_)
  ·intro y0 y1 y2 y3 y4 y5 y6 y7
   unfold spec_LtRight.j1
   repeat' first
   | (with_reducible exact ih0 _ _ _ _)
   | (with_reducible exact ih1 _ _ _ _ _ _ _ _)
   | (with_reducible exact ih2 _ _ _ _ _ _ _)
   | (with_reducible exact LeO.refl _)
   | (with_reducible exact LeO.none _)
   | (with_reducible refine LeO.ite ?_ ?_)
   | (with_reducible refine LeO.bind ?_ (fun _ => ?_))
   | exact ih0 _ _ _ _
   | exact ih1 _ _ _ _ _ _ _ _
   | exact ih2 _ _ _ _ _ _ _
   | exact LeO.none _
   | refine LeO.ite ?_ ?_
   | refine LeO.bind ?_ (fun _ => ?_)
  ·intro y0 y1 y2 y3 y4 y5 y6
   unfold spec_LtRight.l1
   repeat' first
   | (with_reducible exact ih0 _ _ _ _)
   | (with_reducible exact ih1 _ _ _ _ _ _ _ _)
   | (with_reducible exact ih2 _ _ _ _ _ _ _)
   | (with_reducible exact LeO.refl _)
   | (with_reducible exact LeO.none _)
   | (with_reducible refine LeO.ite ?_ ?_)
   | (with_reducible refine LeO.bind ?_ (fun _ => ?_))
   | exact ih0 _ _ _ _
   | exact ih1 _ _ _ _ _ _ _ _
   | exact ih2 _ _ _ _ _ _ _
   | exact LeO.none _
   | refine LeO.ite ?_ ?_
   | refine LeO.bind ?_ (fun _ => ?_)
theorem spec_LtRight.mono : ∀ a0 k, LeO (spec_LtRight.f k a0) (spec_LtRight.f (k + 1) a0) := by
 intro a0 k
 obtain ⟨ih0, ih1, ih2⟩ := spec_LtRight.mono_l k
 unfold spec_LtRight.f
 repeat' first
   | (with_reducible exact ih0 _ _ _ _)
   | (with_reducible exact ih1 _ _ _ _ _ _ _ _)
   | (with_reducible exact ih2 _ _ _ _ _ _ _)
   | (with_reducible exact LeO.refl _)
   | (with_reducible exact LeO.none _)
   | (with_reducible refine LeO.ite ?_ ?_)
   | (with_reducible refine LeO.bind ?_ (fun _ => ?_))
   | exact ih0 _ _ _ _
   | exact ih1 _ _ _ _ _ _ _ _
   | exact ih2 _ _ _ _ _ _ _
   | exact LeO.none _
   | refine LeO.ite ?_ ?_
   | refine LeO.bind ?_ (fun _ => ?_)
set_option maxHeartbeats 8000000 in
set_option maxRecDepth 100000 in
theorem spec_LtRight.calls (k : Nat) (A0 : Option Addr) (c0 : Nat) (l0 : List (S50)) (r : Bool) (w : World) (hr0 : Kd.C k50 w A0 l0.length l0) (hc0 : l0.length ≤ c0) (h : spec_LtRight.f k l0 = some r) :
  Calls Tryz.prog 9 #[.slice A0 l0.length c0] w fun e w' => e = .returned (.bool r) ∧ Below w.heap.size w w' := by
 have hu50 := Tryz.underlying50
 have HR0 := Aside0.mk hr0
 have HC0 := Aside0.mk hc0
 clear hr0 hc0
 have HB := Aside0.mk (Below.refl w.heap.size w)
 have H : (spec_LtRight.l0 k l0 l0 (l0.length : Int) 0) = some r := h
 clear h
 have H' := Aside0.mk H
 clear H
 go_enter Tryz.func9, Tryz.ntmps9
 go_wp2
 go_loopg [9] k (fun kq v9 w' => ∃ (x9_1 : Int), v9 = .int .i64 x9_1 ∧ Aside0 (spec_LtRight.l0 kq l0 l0 (l0.length : Int) x9_1 = some r) ∧ Aside0 (kq ≤ k) ∧ Aside0 (Below w.heap.size w w'))
 case atStart => exact ⟨(0), (by first | rfl | (simp; done) | (simp [*]; done)), H', ⟨Nat.le_refl _⟩, ⟨by repeat (first | (with_reducible first | exact HB.out | apply below_alloc | apply pw_below_drewN | apply below_drew1) | exact HB.out)⟩⟩
 case round =>
  clear H'
  obtain ⟨x9_1, rfl, HA, HK1, HB⟩ := hrel
  cases gk with
  | zero => exact absurd HA.out (by simp [spec_LtRight.l0])
  | succ k1 =>
   have H := HA.out
   clear HA
   simp only [spec_LtRight.l0] at H
   by_cases c2 : x9_1 < (l0.length : Int)
   ·rw [if_pos c2] at H
    have c2b0 : decide (x9_1 < (l0.length : Int)) = true := decide_eq_true c2
    clear c2
    by_cases c3 : 0 ≤ x9_1
    ·rw [if_pos c3] at H
     have c3b0 : decide (0 ≤ x9_1) = true := decide_eq_true c3
     clear c3
     by_cases c4 : x9_1 < (l0.length : Int)
     ·rw [if_pos c4] at H
      have c4b0 : decide (x9_1 < (l0.length : Int)) = true := decide_eq_true c4
      clear c4
      have HC5 := Aside0.mk H
      clear H
      have p117 : 0 ≤ (x9_1 : Int) := of_decide_eq_true (by first | (with_reducible assumption) | assumption)
      have q117 : x9_1 < (l0.length : Int) := of_decide_eq_true (by first | (with_reducible assumption) | assumption)
      obtain ⟨ad117, A117_2, c117_2, e117, hx117_0, hx117_1, hx117_2, hl117_2, hi117_2⟩ := at_T50 HR0.out x9_1 p117 q117
      cases e117
      replace hx117_0 := (HB.out.cell (World.block_lt_of_cell? w _ hx117_0)).trans hx117_0
      replace hx117_1 := (HB.out.cell (World.block_lt_of_cell? w _ hx117_1)).trans hx117_1
      replace hx117_2 := (HB.out.cell (World.block_lt_of_cell? w _ hx117_2)).trans hx117_2
      have HR117_2 := Aside0.mk hi117_2
      have HC117_2 := Aside0.mk hl117_2
      clear hi117_2 hl117_2
      replace p117 := eq_true p117
      replace q117 := eq_true q117
      go_upto_region 4 with (first | ((with_reducible refine gate_dst (N := 4) rfl ?_); (try (refine gate_guard (by rfl) ?_; dsimp only)); refine box_event ?hg (N := 4) ?hd (cs := #[.int .i64 0, .string (⟨#[]⟩ : ByteArray), .slice none 0 0]) (t := 50) ?hr ?_; (case hd => rfl); (case hg => rfl); (case hr => first | (go_simp; done) | (go_simp; rfl)); intro gb118 hg w6 hbox hb; have n0_ := Aside0.mk (below_step (by repeat (first | (with_reducible first | exact HB.out | apply below_alloc | apply pw_below_drewN | apply below_drew1) | exact HB.out)) hb); have n1_ := Aside0.mk (hbox); have n2_ := Aside0.mk ((by rw [hg]; exact (below_size (by repeat (first | (with_reducible first | exact HB.out | apply below_alloc | apply pw_below_drewN | apply below_drew1) | exact HB.out))) : w.heap.size ≤ gb118)); have n3_ := Aside0.mk ((by rw [hg]; exact (below_size (by repeat (first | (with_reducible first | exact HB.out | apply below_alloc | apply pw_below_drewN | apply below_drew1) | exact HB.out))) : w.heap.size ≤ gb118)); clear HB; have HB := n0_; have BK118 := n1_; have GW118 := n2_; have GE118 := n3_; clear n0_ n1_ n2_ n3_; clear hb hbox hg; have hcz7_0 : w6.cell? ⟨gb118, 0, none⟩ = some (.int .i64 0) := (blk_cell BK118.out 0).trans rfl; have hcz7_1 : w6.cell? ⟨gb118, 1, none⟩ = some (.string (⟨#[]⟩ : ByteArray)) := (blk_cell BK118.out 1).trans rfl; have hcz7_2 : w6.cell? ⟨gb118, 2, none⟩ = some (.slice none 0 0) := (blk_cell BK118.out 2).trans rfl; have hfz7_0 := blk_frozen BK118.out 0; have hfz7_1 := blk_frozen BK118.out 1; have hfz7_2 := blk_frozen BK118.out 2))
      (try simp only [Act.put, List.setIfInBounds_toArray, List.set_cons_zero, List.set_cons_succ])
      go_cut [28] (fun v28 wc => ∃ (kq : Nat) (x28_4 : Bool), v28 = .bool x28_4 ∧ Aside0 (spec_LtRight.j1 kq l0 l0 (l0.length : Int) x9_1 x28_4 ((rd_T50 l0 x9_1).f0) ((rd_T50 l0 x9_1).f1) ((rd_T50 l0 x9_1).f2) = some r) ∧ Aside0 (kq ≤ k1) ∧ Aside0 (wc.heap[gb118]? = some (.cells #[.int .i64 ((rd_T50 l0 x9_1).f0), .string ((rd_T50 l0 x9_1).f1), (.slice A117_2 ((rd_T50 l0 x9_1).f2).length c117_2)] 50 (0, 0))) ∧ Aside0 (Below w.heap.size w wc))
      case first =>
       have H := HC5.out
       clear HC5
       by_cases c8 : (((rd_T50 l0 x9_1).f1).size : Int) > 200
       ·rw [if_pos c8] at H
        have c8b0 : decide (200 < (((rd_T50 l0 x9_1).f1).size : Int)) = true := decide_eq_true c8
        have c8b1 : decide (200 < ((rd_T50 l0 x9_1).f1).size) = true := decide_eq_true (by omega)
        clear c8
        (first | rw [c8b0] | (simp only [i64_w, i32_w]; rw [c8b0]) | skip)
        have H' := Aside0.mk H
        clear H
        have hcz9_0 : w6.cell? ⟨gb118, 0, none⟩ = some (.int .i64 0) := (blk_cell BK118.out 0).trans rfl
        have hcz9_1 : w6.cell? ⟨gb118, 1, none⟩ = some (.string (⟨#[]⟩ : ByteArray)) := (blk_cell BK118.out 1).trans rfl
        have hcz9_2 : w6.cell? ⟨gb118, 2, none⟩ = some (.slice none 0 0) := (blk_cell BK118.out 2).trans rfl
        have hfz9_0 := blk_frozen BK118.out 0
        have hfz9_1 := blk_frozen BK118.out 1
        have hfz9_2 := blk_frozen BK118.out 2
        go_wp2
        go_meet
        case rel => exact ⟨_, (true), (by first | rfl | (simp; done) | (simp [*]; done)), H', ⟨by have := HK1.out; first | omega | exact Nat.le_refl _⟩, ⟨by (with_reducible repeat (first | refine blk_drewN ?_ _ | refine blk_drew ?_ | refine blk_alloc ?_ _)); refine blk_put (cs := #[.int .i64 ((rd_T50 l0 x9_1).f0), .string ((rd_T50 l0 x9_1).f1), .slice none 0 0]) ?_ 2 _ rfl; (with_reducible repeat (first | refine blk_drewN ?_ _ | refine blk_drew ?_ | refine blk_alloc ?_ _)); refine blk_put (cs := #[.int .i64 ((rd_T50 l0 x9_1).f0), .string (⟨#[]⟩ : ByteArray), .slice none 0 0]) ?_ 1 _ rfl; (with_reducible repeat (first | refine blk_drewN ?_ _ | refine blk_drew ?_ | refine blk_alloc ?_ _)); refine blk_put (cs := #[.int .i64 0, .string (⟨#[]⟩ : ByteArray), .slice none 0 0]) ?_ 0 _ rfl; (with_reducible repeat (first | refine blk_drewN ?_ _ | refine blk_drew ?_ | refine blk_alloc ?_ _)); exact BK118.out⟩, ⟨by repeat (first | (with_reducible first | exact HB.out | apply below_alloc | apply pw_below_drewN | apply below_drew1 | refine below_set ?_ GE118.out) | exact HB.out)⟩⟩
       ·rw [if_neg c8] at H
        have c8b0 : decide (200 < (((rd_T50 l0 x9_1).f1).size : Int)) = false := decide_eq_false c8
        have c8b1 : decide (200 < ((rd_T50 l0 x9_1).f1).size) = false := decide_eq_false (by omega)
        clear c8
        (first | rw [c8b0] | (simp only [i64_w, i32_w]; rw [c8b0]) | skip)
        replace H := Option.bind_eq_some_iff.mp H
        obtain ⟨t119, A100, H⟩ := H
        replace H : (if t119 = true then (spec_LtRight.j1 k1 l0 l0 (l0.length : Int) x9_1 (decide ((((rd_T50 l0 x9_1).f2).length : Int) > 10)) ((rd_T50 l0 x9_1).f0) ((rd_T50 l0 x9_1).f1) ((rd_T50 l0 x9_1).f2)) else (spec_LtRight.j1 k1 l0 l0 (l0.length : Int) x9_1 true ((rd_T50 l0 x9_1).f0) ((rd_T50 l0 x9_1).f1) ((rd_T50 l0 x9_1).f2))) = some r := H
        have A10 := Aside0.mk A100
        clear A100
        by_cases c11 : t119 = true
        ·subst c11
         have H1 : (spec_LtRight.j1 k1 l0 l0 (l0.length : Int) x9_1 (decide ((((rd_T50 l0 x9_1).f2).length : Int) > 10)) ((rd_T50 l0 x9_1).f0) ((rd_T50 l0 x9_1).f1) ((rd_T50 l0 x9_1).f2)) = some r := by rw [if_pos rfl] at H; exact H
         clear H
         have H := H1
         clear H1
         have H' := Aside0.mk H
         clear H
         have hcz12_0 : w6.cell? ⟨gb118, 0, none⟩ = some (.int .i64 0) := (blk_cell BK118.out 0).trans rfl
         have hcz12_1 : w6.cell? ⟨gb118, 1, none⟩ = some (.string (⟨#[]⟩ : ByteArray)) := (blk_cell BK118.out 1).trans rfl
         have hcz12_2 : w6.cell? ⟨gb118, 2, none⟩ = some (.slice none 0 0) := (blk_cell BK118.out 2).trans rfl
         have hfz12_0 := blk_frozen BK118.out 0
         have hfz12_1 := blk_frozen BK118.out 1
         have hfz12_2 := blk_frozen BK118.out 2
         go_wp2_with (first | (go_at_call 25; (with_reducible refine (spec_TxSimple.calls ((rd_T50 l0 x9_1).f1) true true _ A10.out).mono ?_); rintro e w13 ⟨rfl, hb⟩; have n0_ := Aside0.mk (blk_below (g := gb118) (o := .cells #[.int .i64 ((rd_T50 l0 x9_1).f0), .string ((rd_T50 l0 x9_1).f1), .slice A117_2 ((rd_T50 l0 x9_1).f2).length c117_2] 50 (0, 0)) (by (with_reducible repeat (first | refine blk_drewN ?_ _ | refine blk_drew ?_ | refine blk_alloc ?_ _)); refine blk_put (cs := #[.int .i64 ((rd_T50 l0 x9_1).f0), .string ((rd_T50 l0 x9_1).f1), .slice none 0 0]) ?_ 2 _ rfl; (with_reducible repeat (first | refine blk_drewN ?_ _ | refine blk_drew ?_ | refine blk_alloc ?_ _)); refine blk_put (cs := #[.int .i64 ((rd_T50 l0 x9_1).f0), .string (⟨#[]⟩ : ByteArray), .slice none 0 0]) ?_ 1 _ rfl; (with_reducible repeat (first | refine blk_drewN ?_ _ | refine blk_drew ?_ | refine blk_alloc ?_ _)); refine blk_put (cs := #[.int .i64 0, .string (⟨#[]⟩ : ByteArray), .slice none 0 0]) ?_ 0 _ rfl; (with_reducible repeat (first | refine blk_drewN ?_ _ | refine blk_drew ?_ | refine blk_alloc ?_ _)); exact BK118.out) hb); have n1_ := Aside0.mk (below_step (by repeat (first | (with_reducible first | exact HB.out | apply below_alloc | apply pw_below_drewN | apply below_drew1 | refine below_set ?_ GE118.out) | exact HB.out)) hb); clear BK118; clear HB; have BK118 := n0_; have HB := n1_; clear n0_ n1_; (try clear hb); (try clear hb2); (try clear hk); (try clear hi); have hcz14_0 : w13.cell? ⟨gb118, 0, none⟩ = some (.int .i64 ((rd_T50 l0 x9_1).f0)) := (blk_cell BK118.out 0).trans rfl; have hcz14_1 : w13.cell? ⟨gb118, 1, none⟩ = some (.string ((rd_T50 l0 x9_1).f1)) := (blk_cell BK118.out 1).trans rfl; have hcz14_2 : w13.cell? ⟨gb118, 2, none⟩ = some (.slice A117_2 ((rd_T50 l0 x9_1).f2).length c117_2) := (blk_cell BK118.out 2).trans rfl; have hfz14_0 := blk_frozen BK118.out 0; have hfz14_1 := blk_frozen BK118.out 1; have hfz14_2 := blk_frozen BK118.out 2))
         go_meet
         case rel => exact ⟨_, (decide ((((rd_T50 l0 x9_1).f2).length : Int) > 10)), (by first | rfl | (simp; done) | (simp [*]; done)), H', ⟨by have := HK1.out; first | omega | exact Nat.le_refl _⟩, ⟨by (with_reducible repeat (first | refine blk_drewN ?_ _ | refine blk_drew ?_ | refine blk_alloc ?_ _)); exact BK118.out⟩, ⟨by repeat (first | (with_reducible first | exact HB.out | apply below_alloc | apply pw_below_drewN | apply below_drew1 | refine below_set ?_ GE118.out) | exact HB.out)⟩⟩
        ·replace c11 := Bool.eq_false_iff.mpr c11
         subst c11
         have H1 : (spec_LtRight.j1 k1 l0 l0 (l0.length : Int) x9_1 true ((rd_T50 l0 x9_1).f0) ((rd_T50 l0 x9_1).f1) ((rd_T50 l0 x9_1).f2)) = some r := by rw [if_neg (show ¬ (false = true) by decide)] at H; exact H
         clear H
         have H := H1
         clear H1
         have H' := Aside0.mk H
         clear H
         have hcz15_0 : w6.cell? ⟨gb118, 0, none⟩ = some (.int .i64 0) := (blk_cell BK118.out 0).trans rfl
         have hcz15_1 : w6.cell? ⟨gb118, 1, none⟩ = some (.string (⟨#[]⟩ : ByteArray)) := (blk_cell BK118.out 1).trans rfl
         have hcz15_2 : w6.cell? ⟨gb118, 2, none⟩ = some (.slice none 0 0) := (blk_cell BK118.out 2).trans rfl
         have hfz15_0 := blk_frozen BK118.out 0
         have hfz15_1 := blk_frozen BK118.out 1
         have hfz15_2 := blk_frozen BK118.out 2
         go_wp2_with (first | (go_at_call 25; (with_reducible refine (spec_TxSimple.calls ((rd_T50 l0 x9_1).f1) true false _ A10.out).mono ?_); rintro e w16 ⟨rfl, hb⟩; have n0_ := Aside0.mk (blk_below (g := gb118) (o := .cells #[.int .i64 ((rd_T50 l0 x9_1).f0), .string ((rd_T50 l0 x9_1).f1), .slice A117_2 ((rd_T50 l0 x9_1).f2).length c117_2] 50 (0, 0)) (by (with_reducible repeat (first | refine blk_drewN ?_ _ | refine blk_drew ?_ | refine blk_alloc ?_ _)); refine blk_put (cs := #[.int .i64 ((rd_T50 l0 x9_1).f0), .string ((rd_T50 l0 x9_1).f1), .slice none 0 0]) ?_ 2 _ rfl; (with_reducible repeat (first | refine blk_drewN ?_ _ | refine blk_drew ?_ | refine blk_alloc ?_ _)); refine blk_put (cs := #[.int .i64 ((rd_T50 l0 x9_1).f0), .string (⟨#[]⟩ : ByteArray), .slice none 0 0]) ?_ 1 _ rfl; (with_reducible repeat (first | refine blk_drewN ?_ _ | refine blk_drew ?_ | refine blk_alloc ?_ _)); refine blk_put (cs := #[.int .i64 0, .string (⟨#[]⟩ : ByteArray), .slice none 0 0]) ?_ 0 _ rfl; (with_reducible repeat (first | refine blk_drewN ?_ _ | refine blk_drew ?_ | refine blk_alloc ?_ _)); exact BK118.out) hb); have n1_ := Aside0.mk (below_step (by repeat (first | (with_reducible first | exact HB.out | apply below_alloc | apply pw_below_drewN | apply below_drew1 | refine below_set ?_ GE118.out) | exact HB.out)) hb); clear BK118; clear HB; have BK118 := n0_; have HB := n1_; clear n0_ n1_; (try clear hb); (try clear hb2); (try clear hk); (try clear hi)))
         go_meet
         case rel => exact ⟨_, (true), (by first | rfl | (simp; done) | (simp [*]; done)), H', ⟨by have := HK1.out; first | omega | exact Nat.le_refl _⟩, ⟨by (with_reducible repeat (first | refine blk_drewN ?_ _ | refine blk_drew ?_ | refine blk_alloc ?_ _)); exact BK118.out⟩, ⟨by repeat (first | (with_reducible first | exact HB.out | apply below_alloc | apply pw_below_drewN | apply below_drew1 | refine below_set ?_ GE118.out) | exact HB.out)⟩⟩
      case rest =>
       clear HC5
       try clear c1
       try clear p1
       try clear q1
       try clear hx1
       try clear c2
       try clear c2b0
       try clear p2
       try clear c3
       try clear c3b0
       try clear c4
       try clear c4b0
       try clear c8
       try clear c8b0
       try clear c8b1
       try clear c9
       try clear c11
       try clear p11
       try clear q11
       try clear hx11
       try clear hcz12_0
       try clear hcz12_1
       try clear hcz12_2
       try clear hcz14_0
       try clear hcz14_1
       try clear hcz14_2
       try clear hcz15_0
       try clear hcz15_1
       try clear hcz15_2
       try clear hcz7_0
       try clear hcz7_1
       try clear hcz7_2
       try clear hcz9_0
       try clear hcz9_1
       try clear hcz9_2
       try clear hfz12_0
       try clear hfz12_1
       try clear hfz12_2
       try clear hfz14_0
       try clear hfz14_1
       try clear hfz14_2
       try clear hfz15_0
       try clear hfz15_1
       try clear hfz15_2
       try clear hfz7_0
       try clear hfz7_1
       try clear hfz7_2
       try clear hfz9_0
       try clear hfz9_1
       try clear hfz9_2
       try clear hx117_0
       try clear hx117_1
       try clear hx117_2
       try clear p117
       try clear q117
       obtain ⟨kq, x28_4, rfl, HA, HJ4, BK118, HB⟩ := hcut
       cases kq with
       | zero => exact absurd HA.out (by simp [spec_LtRight.j1])
       | succ kj4 =>
        have H := HA.out
        clear HA
        simp only [spec_LtRight.j1] at H
        by_cases c17 : x28_4 = true
        ·subst c17
         have H1 : (some false) = some r := by rw [if_pos rfl] at H; exact H
         clear H
         have H := H1
         clear H1
         obtain rfl := Option.some.inj H
         go_wp2
         go_ret
         exact ⟨by first | rfl | (simp [errW_none, errW_some] <;> rfl) | (have e_ : ∀ l_ : List UInt8, (l_ != []) = !l_.isEmpty := fun l_ => (by cases l_ <;> rfl); simp [errW_none, errW_some, e_]; done) | (simp [*, errW_none, errW_some] <;> rfl), by repeat (first | (with_reducible first | exact HB.out | apply below_alloc | apply pw_below_drewN | apply below_drew1 | refine below_set ?_ GE118.out) | exact HB.out)⟩
        ·replace c17 := Bool.eq_false_iff.mpr c17
         subst c17
         have H1 : (spec_LtRight.l1 kj4 l0 l0 (l0.length : Int) x9_1 ((rd_T50 l0 x9_1).f2) (((rd_T50 l0 x9_1).f2).length : Int) 0) = some r := by rw [if_neg (show ¬ (false = true) by decide)] at H; exact H
         clear H
         have H := H1
         clear H1
         have H' := Aside0.mk H
         clear H
         have hcz18_0 : wc.cell? ⟨gb118, 0, none⟩ = some (.int .i64 ((rd_T50 l0 x9_1).f0)) := (blk_cell BK118.out 0).trans rfl
         have hcz18_1 : wc.cell? ⟨gb118, 1, none⟩ = some (.string ((rd_T50 l0 x9_1).f1)) := (blk_cell BK118.out 1).trans rfl
         have hcz18_2 : wc.cell? ⟨gb118, 2, none⟩ = some (.slice A117_2 ((rd_T50 l0 x9_1).f2).length c117_2) := (blk_cell BK118.out 2).trans rfl
         have hfz18_0 := blk_frozen BK118.out 0
         have hfz18_1 := blk_frozen BK118.out 1
         have hfz18_2 := blk_frozen BK118.out 2
         go_wp2
         go_loopg [32] kj4 (fun kq v32 w' => ∃ (x32_3 : Int), v32 = .int .i64 x32_3 ∧ Aside0 (spec_LtRight.l1 kq l0 l0 (l0.length : Int) x9_1 ((rd_T50 l0 x9_1).f2) (((rd_T50 l0 x9_1).f2).length : Int) x32_3 = some r) ∧ Aside0 (kq ≤ kj4) ∧ Aside0 (w'.heap[gb118]? = some (.cells #[.int .i64 ((rd_T50 l0 x9_1).f0), .string ((rd_T50 l0 x9_1).f1), (.slice A117_2 ((rd_T50 l0 x9_1).f2).length c117_2)] 50 (0, 0))) ∧ Aside0 (Below w.heap.size w w'))
         case atStart => exact ⟨(0), (by first | rfl | (simp; done) | (simp [*]; done)), H', ⟨Nat.le_refl _⟩, ⟨by (with_reducible repeat (first | refine blk_drewN ?_ _ | refine blk_drew ?_ | refine blk_alloc ?_ _)); exact BK118.out⟩, ⟨by repeat (first | (with_reducible first | exact HB.out | apply below_alloc | apply pw_below_drewN | apply below_drew1 | refine below_set ?_ GE118.out) | exact HB.out)⟩⟩
         case round =>
          clear H'
          try clear c1
          try clear p1
          try clear q1
          try clear hx1
          try clear c2
          try clear c2b0
          try clear p2
          try clear c3
          try clear c3b0
          try clear c4
          try clear c4b0
          try clear c8
          try clear c8b0
          try clear c8b1
          try clear c9
          try clear c11
          try clear p11
          try clear q11
          try clear hx11
          try clear c17
          try clear hcz12_0
          try clear hcz12_1
          try clear hcz12_2
          try clear hcz14_0
          try clear hcz14_1
          try clear hcz14_2
          try clear hcz15_0
          try clear hcz15_1
          try clear hcz15_2
          try clear hcz18_0
          try clear hcz18_1
          try clear hcz18_2
          try clear hcz7_0
          try clear hcz7_1
          try clear hcz7_2
          try clear hcz9_0
          try clear hcz9_1
          try clear hcz9_2
          try clear hfz12_0
          try clear hfz12_1
          try clear hfz12_2
          try clear hfz14_0
          try clear hfz14_1
          try clear hfz14_2
          try clear hfz15_0
          try clear hfz15_1
          try clear hfz15_2
          try clear hfz18_0
          try clear hfz18_1
          try clear hfz18_2
          try clear hfz7_0
          try clear hfz7_1
          try clear hfz7_2
          try clear hfz9_0
          try clear hfz9_1
          try clear hfz9_2
          try clear hx117_0
          try clear hx117_1
          try clear hx117_2
          try clear p1
          try clear p11
          try clear p117
          try clear p2
          try clear q1
          try clear q11
          try clear q117
          obtain ⟨x32_3, rfl, HA, HK3, BK118, HB⟩ := hrel
          cases gk with
          | zero => exact absurd HA.out (by simp [spec_LtRight.l1])
          | succ k3 =>
           have H := HA.out
           clear HA
           simp only [spec_LtRight.l1] at H
           by_cases c19 : x32_3 < (((rd_T50 l0 x9_1).f2).length : Int)
           ·rw [if_pos c19] at H
            have c19b0 : decide (x32_3 < (((rd_T50 l0 x9_1).f2).length : Int)) = true := decide_eq_true c19
            clear c19
            by_cases c20 : 0 ≤ x32_3
            ·rw [if_pos c20] at H
             have c20b0 : decide (0 ≤ x32_3) = true := decide_eq_true c20
             clear c20
             by_cases c21 : x32_3 < (((rd_T50 l0 x9_1).f2).length : Int)
             ·rw [if_pos c21] at H
              have c21b0 : decide (x32_3 < (((rd_T50 l0 x9_1).f2).length : Int)) = true := decide_eq_true c21
              clear c21
              by_cases c22 : ((rdOf ByteArray.empty ((rd_T50 l0 x9_1).f2) x32_3).size : Int) > 200
              ·rw [if_pos c22] at H
               have c22b0 : decide (200 < ((rdOf ByteArray.empty ((rd_T50 l0 x9_1).f2) x32_3).size : Int)) = true := decide_eq_true c22
               have c22b1 : decide (200 < (rdOf ByteArray.empty ((rd_T50 l0 x9_1).f2) x32_3).size) = true := decide_eq_true (by omega)
               clear c22
               obtain rfl := Option.some.inj H
               have p120 : 0 ≤ (x32_3 : Int) := of_decide_eq_true (by first | (with_reducible assumption) | assumption)
               have q120 : x32_3 < (((rd_T50 l0 x9_1).f2).length : Int) := of_decide_eq_true (by first | (with_reducible assumption) | assumption)
               obtain ⟨ad120, e120, hx120_0⟩ := Kd.at_string HR117_2.out x32_3 p120 q120
               cases e120
               replace hx120_0 := (HB.out.cell (World.block_lt_of_cell? w _ hx120_0)).trans hx120_0
               replace p120 := eq_true p120
               replace q120 := eq_true q120
               go_wp2
               go_ret
               exact ⟨by first | rfl | (simp [errW_none, errW_some] <;> rfl) | (have e_ : ∀ l_ : List UInt8, (l_ != []) = !l_.isEmpty := fun l_ => (by cases l_ <;> rfl); simp [errW_none, errW_some, e_]; done) | (simp [*, errW_none, errW_some] <;> rfl), by repeat (first | (with_reducible first | exact HB.out | apply below_alloc | apply pw_below_drewN | apply below_drew1 | refine below_set ?_ GE118.out) | exact HB.out)⟩
              ·rw [if_neg c22] at H
               have c22b0 : decide (200 < ((rdOf ByteArray.empty ((rd_T50 l0 x9_1).f2) x32_3).size : Int)) = false := decide_eq_false c22
               have c22b1 : decide (200 < (rdOf ByteArray.empty ((rd_T50 l0 x9_1).f2) x32_3).size) = false := decide_eq_false (by omega)
               clear c22
               replace H := Option.bind_eq_some_iff.mp H
               obtain ⟨t121, A230, H⟩ := H
               replace H : (if t121 = true then (spec_LtRight.l1 k3 l0 l0 (l0.length : Int) x9_1 ((rd_T50 l0 x9_1).f2) (((rd_T50 l0 x9_1).f2).length : Int) (wrap64 (x32_3 + 1))) else (some false)) = some r := H
               have A23 := Aside0.mk A230
               clear A230
               by_cases c24 : t121 = true
               ·subst c24
                have H1 : (spec_LtRight.l1 k3 l0 l0 (l0.length : Int) x9_1 ((rd_T50 l0 x9_1).f2) (((rd_T50 l0 x9_1).f2).length : Int) (wrap64 (x32_3 + 1))) = some r := by rw [if_pos rfl] at H; exact H
                clear H
                have H := H1
                clear H1
                have H' := Aside0.mk H
                clear H
                have p120 : 0 ≤ (x32_3 : Int) := of_decide_eq_true (by first | (with_reducible assumption) | assumption)
                have q120 : x32_3 < (((rd_T50 l0 x9_1).f2).length : Int) := of_decide_eq_true (by first | (with_reducible assumption) | assumption)
                obtain ⟨ad120, e120, hx120_0⟩ := Kd.at_string HR117_2.out x32_3 p120 q120
                cases e120
                replace hx120_0 := (HB.out.cell (World.block_lt_of_cell? w _ hx120_0)).trans hx120_0
                replace p120 := eq_true p120
                replace q120 := eq_true q120
                go_wp2_with (first | (go_at_call 25; (with_reducible refine (spec_TxSimple.calls (rdOf ByteArray.empty ((rd_T50 l0 x9_1).f2) x32_3) true true _ A23.out).mono ?_); rintro e w25 ⟨rfl, hb⟩; have n0_ := Aside0.mk (blk_below (g := gb118) (o := .cells #[.int .i64 ((rd_T50 l0 x9_1).f0), .string ((rd_T50 l0 x9_1).f1), .slice (some ad120) ((rd_T50 l0 x9_1).f2).length c117_2] 50 (0, 0)) (by (with_reducible repeat (first | refine blk_drewN ?_ _ | refine blk_drew ?_ | refine blk_alloc ?_ _)); exact BK118.out) hb); have n1_ := Aside0.mk (below_step (by repeat (first | (with_reducible first | exact HB.out | apply below_alloc | apply pw_below_drewN | apply below_drew1 | refine below_set ?_ GE118.out) | exact HB.out)) hb); clear BK118; clear HB; have BK118 := n0_; have HB := n1_; clear n0_ n1_; (try clear hb); (try clear hb2); (try clear hk); (try clear hi)))
                go_roundg k3
                case measure => have := HK1.out; have := HJ4.out; have := HK3.out; omega
                case rel => exact ⟨(wrap64 (x32_3 + 1)), (by first | rfl | (simp; done) | (simp [*]; done)), H', ⟨by have := HK1.out; have := HJ4.out; have := HK3.out; omega⟩, ⟨by (with_reducible repeat (first | refine blk_drewN ?_ _ | refine blk_drew ?_ | refine blk_alloc ?_ _)); exact BK118.out⟩, ⟨by repeat (first | (with_reducible first | exact HB.out | apply below_alloc | apply pw_below_drewN | apply below_drew1 | refine below_set ?_ GE118.out) | exact HB.out)⟩⟩
               ·replace c24 := Bool.eq_false_iff.mpr c24
                subst c24
                have H1 : (some false) = some r := by rw [if_neg (show ¬ (false = true) by decide)] at H; exact H
                clear H
                have H := H1
                clear H1
                obtain rfl := Option.some.inj H
                have p120 : 0 ≤ (x32_3 : Int) := of_decide_eq_true (by first | (with_reducible assumption) | assumption)
                have q120 : x32_3 < (((rd_T50 l0 x9_1).f2).length : Int) := of_decide_eq_true (by first | (with_reducible assumption) | assumption)
                obtain ⟨ad120, e120, hx120_0⟩ := Kd.at_string HR117_2.out x32_3 p120 q120
                cases e120
                replace hx120_0 := (HB.out.cell (World.block_lt_of_cell? w _ hx120_0)).trans hx120_0
                replace p120 := eq_true p120
                replace q120 := eq_true q120
                go_wp2_with (first | (go_at_call 25; (with_reducible refine (spec_TxSimple.calls (rdOf ByteArray.empty ((rd_T50 l0 x9_1).f2) x32_3) true false _ A23.out).mono ?_); rintro e w26 ⟨rfl, hb⟩; have n0_ := Aside0.mk (blk_below (g := gb118) (o := .cells #[.int .i64 ((rd_T50 l0 x9_1).f0), .string ((rd_T50 l0 x9_1).f1), .slice (some ad120) ((rd_T50 l0 x9_1).f2).length c117_2] 50 (0, 0)) (by (with_reducible repeat (first | refine blk_drewN ?_ _ | refine blk_drew ?_ | refine blk_alloc ?_ _)); exact BK118.out) hb); have n1_ := Aside0.mk (below_step (by repeat (first | (with_reducible first | exact HB.out | apply below_alloc | apply pw_below_drewN | apply below_drew1 | refine below_set ?_ GE118.out) | exact HB.out)) hb); clear BK118; clear HB; have BK118 := n0_; have HB := n1_; clear n0_ n1_; (try clear hb); (try clear hb2); (try clear hk); (try clear hi)))
                go_ret
                exact ⟨by first | rfl | (simp [errW_none, errW_some] <;> rfl) | (have e_ : ∀ l_ : List UInt8, (l_ != []) = !l_.isEmpty := fun l_ => (by cases l_ <;> rfl); simp [errW_none, errW_some, e_]; done) | (simp [*, errW_none, errW_some] <;> rfl), by repeat (first | (with_reducible first | exact HB.out | apply below_alloc | apply pw_below_drewN | apply below_drew1 | refine below_set ?_ GE118.out) | exact HB.out)⟩
             ·rw [if_neg c21] at H
              exact absurd H (by simp)
            ·rw [if_neg c20] at H
             exact absurd H (by simp)
           ·rw [if_neg c19] at H
            have c19b0 : decide (x32_3 < (((rd_T50 l0 x9_1).f2).length : Int)) = false := decide_eq_false c19
            clear c19
            have H' := Aside0.mk H
            clear H
            go_wp2
            go_roundg k3
            case measure => have := HK1.out; have := HJ4.out; have := HK3.out; omega
            case rel => exact ⟨(wrap64 (x9_1 + 1)), (by first | rfl | (simp; done) | (simp [*]; done)), H', ⟨by have := HK1.out; have := HJ4.out; have := HK3.out; omega⟩, ⟨by repeat (first | (with_reducible first | exact HB.out | apply below_alloc | apply pw_below_drewN | apply below_drew1 | refine below_set ?_ GE118.out) | exact HB.out)⟩⟩
     ·rw [if_neg c4] at H
      exact absurd H (by simp)
    ·rw [if_neg c3] at H
     exact absurd H (by simp)
   ·rw [if_neg c2] at H
    have c2b0 : decide (x9_1 < (l0.length : Int)) = false := decide_eq_false c2
    clear c2
    obtain rfl := Option.some.inj H
    go_wp2
    go_ret
    exact ⟨by first | rfl | (simp [errW_none, errW_some] <;> rfl) | (have e_ : ∀ l_ : List UInt8, (l_ != []) = !l_.isEmpty := fun l_ => (by cases l_ <;> rfl); simp [errW_none, errW_some, e_]; done) | (simp [*, errW_none, errW_some] <;> rfl), by repeat (first | (with_reducible first | exact HB.out | apply below_alloc | apply pw_below_drewN | apply below_drew1) | exact HB.out)⟩

-- FOREIGN: function 14 (impl_ListRender)

/-! ### spec_LsMore: function 24 -/
def spec_LsMore.l0 : Nat → Int → List (S43) → Int → Int → Option (Bool)
 | 0, _, _, _, _ => none
 | k + 1, x2, x12, x13, x14 => if x14 < x13 then (if 0 ≤ x14 then (if x14 < (x12.length : Int) then (if ((rd_T43 x12 x14).f1) ≤ x2 then (some (((rd_T43 x12 x14).f1) == x2)) else (spec_LsMore.l0 k x2 x12 x13 (wrap64 (x14 + 1)))) else (none)) else (none)) else (some false)
def spec_LsMore.f (k : Nat) (l0 : List (S43)) (a1 : Int) (a2 : Int) : Option (Bool) := if 0 ≤ (wrap64 (a1 + 1)) then (if (wrap64 (a1 + 1)) ≤ (l0.length : Int) then ((some (l0.drop ((wrap64 (a1 + 1)) : Int).toNat : List (S43))).bind fun y122 => (spec_LsMore.l0 k a2 y122 (y122.length : Int) 0)) else (none)) else (none)
theorem spec_LsMore.mono_l : ∀ k, (∀ y0 y1 y2 y3, LeO (spec_LsMore.l0 k y0 y1 y2 y3) (spec_LsMore.l0 (k + 1) y0 y1 y2 y3))
 | 0 => fun _ _ _ _ r h => by simp [spec_LsMore.l0] at h
 | k + 1 => by
  have ih0 := spec_LsMore.mono_l k
  ·intro y0 y1 y2 y3
   unfold spec_LsMore.l0
   repeat' first
   | (with_reducible exact ih0 _ _ _ _)
   | (with_reducible exact LeO.refl _)
   | (with_reducible exact LeO.none _)
   | (with_reducible refine LeO.ite ?_ ?_)
   | (with_reducible refine LeO.bind ?_ (fun _ => ?_))
   | exact ih0 _ _ _ _
   | exact LeO.none _
   | refine LeO.ite ?_ ?_
   | refine LeO.bind ?_ (fun _ => ?_)
theorem spec_LsMore.mono : ∀ a0 a1 a2 k, LeO (spec_LsMore.f k a0 a1 a2) (spec_LsMore.f (k + 1) a0 a1 a2) := by
 intro a0 a1 a2 k
 have ih0 := spec_LsMore.mono_l k
 unfold spec_LsMore.f
 repeat' first
   | (with_reducible exact ih0 _ _ _ _)
   | (with_reducible exact LeO.refl _)
   | (with_reducible exact LeO.none _)
   | (with_reducible refine LeO.ite ?_ ?_)
   | (with_reducible refine LeO.bind ?_ (fun _ => ?_))
   | exact ih0 _ _ _ _
   | exact LeO.none _
   | refine LeO.ite ?_ ?_
   | refine LeO.bind ?_ (fun _ => ?_)
set_option maxHeartbeats 8000000 in
set_option maxRecDepth 100000 in
theorem spec_LsMore.calls (k : Nat) (A0 : Option Addr) (c0 : Nat) (l0 : List (S43)) (a1 : Int) (a2 : Int) (r : Bool) (w : World) (hr0 : Kd.C k43 w A0 l0.length l0) (hc0 : l0.length ≤ c0) (h : spec_LsMore.f k l0 a1 a2 = some r) :
  Calls Tryz.prog 24 #[.slice A0 l0.length c0, .int .i64 a1, .int .i64 a2] w fun e w' => e = .returned (.bool r) ∧ Below w.heap.size w w' := by
 have hu43 := Tryz.underlying43
 have HR0 := Aside0.mk hr0
 have HC0 := Aside0.mk hc0
 clear hr0 hc0
 have HB := Aside0.mk (Below.refl w.heap.size w)
 have H : (if 0 ≤ (wrap64 (a1 + 1)) then (if (wrap64 (a1 + 1)) ≤ (l0.length : Int) then ((some (l0.drop ((wrap64 (a1 + 1)) : Int).toNat : List (S43))).bind fun y122 => (spec_LsMore.l0 k a2 y122 (y122.length : Int) 0)) else (none)) else (none)) = some r := h
 clear h
 obtain ⟨ji4, hji4⟩ : ∃ j_ : Int, (wrap64 (a1 + 1)) = j_ := ⟨_, rfl⟩
 replace H : (if 0 ≤ (ji4) then (if (ji4) ≤ (l0.length : Int) then ((some (l0.drop ((ji4) : Int).toNat : List (S43))).bind fun y122 => (spec_LsMore.l0 k a2 y122 (y122.length : Int) 0)) else (none)) else (none)) = some r := by first | (rw [hji4] at H; exact H) | (simp only [hji4] at H ⊢; exact H)
 have hji4w : (IntKind.i64.wrap (a1 + 1)) = ji4 := (i64_w _).trans hji4
 by_cases c5 : 0 ≤ (ji4)
 ·rw [if_pos c5] at H
  have c5b0 := eq_true c5
  have c5b1 : decide (0 ≤ (ji4)) = true := decide_eq_true c5
  clear c5
  by_cases c6 : (ji4) ≤ (l0.length : Int)
  ·rw [if_pos c6] at H
   have c6b0 := eq_true c6
   have c6b1 : decide ((ji4) ≤ (l0.length : Int)) = true := decide_eq_true c6
   clear c6
   obtain ⟨y122, hy122⟩ : ∃ y_ : List (S43), y_ = (l0.drop ((ji4) : Int).toNat) := ⟨_, rfl⟩
   replace H : (spec_LsMore.l0 k a2 y122 (y122.length : Int) 0) = some r := by first | (rw [hy122]; with_reducible exact H) | (have H2_ := (Option.bind_some _ _).symm.trans H; rw [hy122]; with_reducible exact H2_) | (have H2_ := (Option.bind_some _ _).symm.trans H; with_reducible exact H2_) | with_reducible exact H | (rw [hy122]; exact H) | exact H
   have Ny122 := Aside0.mk hy122
   clear hy122
   have H' := Aside0.mk H
   clear H
   have q7 : ((ji4) : Int) ≤ ((l0.length : Int) : Int) := of_decide_eq_true (by first | (with_reducible assumption) | assumption)
   obtain ⟨i07, hi07, _, hsz7, _⟩ := info_parts info43
   have hroom7 : l0.length ≤ c0 := HC0.out
   have hC7 : Kd.C k43 _ A0 l0.length l0 := HR0.out
   have q07 : (0 : Int) ≤ ((ji4) : Int) := of_decide_eq_true (by first | (with_reducible assumption) | assumption)
   have hcut7 := cut_from (P := Tryz.prog) 27 43 .i64 Tryz.underlying27 hi07 2 hsz7 A0 l0.length c0 (ji4) q07 q7
   have hr7 := Kd.C_drop (m := ((ji4) : Int).toNat) (c := c0) hC7 (by omega) hroom7
   obtain ⟨A7, hA7⟩ : ∃ A1, A1 = (if c0 = ((ji4) : Int).toNat then A0 else (A0 : Option Addr).map (·.add (((ji4) : Int).toNat * 2))) := ⟨_, rfl⟩
   obtain ⟨c7, hc7⟩ : ∃ c1, c1 = c0 - ((ji4) : Int).toNat := ⟨_, rfl⟩
   have hy7 : y122.length = l0.length - ((ji4) : Int).toNat := (by rw [Ny122.out, List.length_drop] <;> omega)
   rw [show (l0).drop ((ji4) : Int).toNat = y122 from Ny122.out.symm] at hr7
   replace hr7 : Kd.C k43 _ A7 y122.length y122 := (by rw [hA7]; exact hr7)
   rw [← hy7, ← hA7, ← hc7] at hcut7
   have HR125 := Aside0.mk hr7
   have HC125 := Aside0.mk (show y122.length ≤ c7 from by rw [hy7, hc7]; exact Nat.sub_le_sub_right hroom7 _)
   clear hr7 hC7 hroom7 hi07 hsz7 hc7
   have KY7 := Aside0.mk hy7
   have KA7 := Aside0.mk hA7
   clear hy7 hA7
   replace q7 := eq_true q7
   go_enter Tryz.func24, Tryz.ntmps24
   go_wp2
   go_loopg [14] k (fun kq v14 w' => ∃ (x14_1 : Int), v14 = .int .i64 x14_1 ∧ Aside0 (spec_LsMore.l0 kq a2 y122 (y122.length : Int) x14_1 = some r) ∧ Aside0 (kq ≤ k) ∧ Aside0 (Below w.heap.size w w'))
   case atStart => exact ⟨(0), (by first | rfl | (simp; done) | (simp [*]; done)), H', ⟨Nat.le_refl _⟩, ⟨by repeat (first | (with_reducible first | exact HB.out | apply below_alloc | apply pw_below_drewN | apply below_drew1) | exact HB.out)⟩⟩
   case round =>
    clear H'
    try clear c1
    try clear c2
    try clear p2
    try clear c5
    try clear c5b0
    try clear c5b1
    try clear c6
    try clear c6b0
    try clear c6b1
    try clear p6
    try clear c7
    try clear q7
    try clear q07
    try clear q7
    obtain ⟨x14_1, rfl, HA, HK1, HB⟩ := hrel
    cases gk with
    | zero => exact absurd HA.out (by simp [spec_LsMore.l0])
    | succ k1 =>
     have H := HA.out
     clear HA
     simp only [spec_LsMore.l0] at H
     by_cases c8 : x14_1 < (y122.length : Int)
     ·rw [if_pos c8] at H
      have c8b0 : decide (x14_1 < (y122.length : Int)) = true := decide_eq_true c8
      clear c8
      by_cases c9 : 0 ≤ x14_1
      ·rw [if_pos c9] at H
       have c9b0 : decide (0 ≤ x14_1) = true := decide_eq_true c9
       clear c9
       by_cases c10 : x14_1 < (y122.length : Int)
       ·rw [if_pos c10] at H
        have c10b0 : decide (x14_1 < (y122.length : Int)) = true := decide_eq_true c10
        clear c10
        by_cases c11 : ((rd_T43 y122 x14_1).f1) ≤ a2
        ·rw [if_pos c11] at H
         have c11b0 : decide (((rd_T43 y122 x14_1).f1) ≤ a2) = true := decide_eq_true c11
         clear c11
         obtain rfl := Option.some.inj H
         have p126 : 0 ≤ (x14_1 : Int) := of_decide_eq_true (by first | (with_reducible assumption) | assumption)
         have q126 : x14_1 < (y122.length : Int) := of_decide_eq_true (by first | (with_reducible assumption) | assumption)
         obtain ⟨ad126, e126, hx126_0, hx126_1⟩ := at_T43 HR125.out x14_1 p126 q126
         cases e126
         replace hx126_0 := (HB.out.cell (World.block_lt_of_cell? w _ hx126_0)).trans hx126_0
         replace hx126_1 := (HB.out.cell (World.block_lt_of_cell? w _ hx126_1)).trans hx126_1
         replace p126 := eq_true p126
         replace q126 := eq_true q126
         go_wp2_with (first | ((with_reducible refine gate_dst (N := 8) rfl ?_); refine box_event ?hg (N := 8) ?hd (cs := #[.string (⟨#[]⟩ : ByteArray), .int .i64 0]) (t := 43) ?hr ?_; (case hd => rfl); (case hg => rfl); (case hr => first | (go_simp; done) | (go_simp; rfl)); intro gb127 hg w12 hbox hb; have n0_ := Aside0.mk (below_step (by repeat (first | (with_reducible first | exact HB.out | apply below_alloc | apply pw_below_drewN | apply below_drew1) | exact HB.out)) hb); have n1_ := Aside0.mk (hbox); have n2_ := Aside0.mk ((by rw [hg]; exact (below_size (by repeat (first | (with_reducible first | exact HB.out | apply below_alloc | apply pw_below_drewN | apply below_drew1) | exact HB.out))) : w.heap.size ≤ gb127)); have n3_ := Aside0.mk ((by rw [hg]; exact (below_size (by repeat (first | (with_reducible first | exact HB.out | apply below_alloc | apply pw_below_drewN | apply below_drew1) | exact HB.out))) : w.heap.size ≤ gb127)); clear HB; have HB := n0_; have BK127 := n1_; have GW127 := n2_; have GE127 := n3_; clear n0_ n1_ n2_ n3_; clear hb hbox hg; have hcz13_0 : w12.cell? ⟨gb127, 0, none⟩ = some (.string (⟨#[]⟩ : ByteArray)) := (blk_cell BK127.out 0).trans rfl; have hcz13_1 : w12.cell? ⟨gb127, 1, none⟩ = some (.int .i64 0) := (blk_cell BK127.out 1).trans rfl; have hfz13_0 := blk_frozen BK127.out 0; have hfz13_1 := blk_frozen BK127.out 1))
         go_ret
         exact ⟨by first | rfl | (simp [errW_none, errW_some] <;> rfl) | (simp only [← hji4]; first | rfl | (simp [errW_none, errW_some] <;> rfl)) | (simp [*, errW_none, errW_some] <;> rfl), by repeat (first | (with_reducible first | exact HB.out | apply below_alloc | apply pw_below_drewN | apply below_drew1 | refine below_set ?_ GE127.out) | exact HB.out)⟩
        ·rw [if_neg c11] at H
         have c11b0 : decide (((rd_T43 y122 x14_1).f1) ≤ a2) = false := decide_eq_false c11
         clear c11
         have H' := Aside0.mk H
         clear H
         have p126 : 0 ≤ (x14_1 : Int) := of_decide_eq_true (by first | (with_reducible assumption) | assumption)
         have q126 : x14_1 < (y122.length : Int) := of_decide_eq_true (by first | (with_reducible assumption) | assumption)
         obtain ⟨ad126, e126, hx126_0, hx126_1⟩ := at_T43 HR125.out x14_1 p126 q126
         cases e126
         replace hx126_0 := (HB.out.cell (World.block_lt_of_cell? w _ hx126_0)).trans hx126_0
         replace hx126_1 := (HB.out.cell (World.block_lt_of_cell? w _ hx126_1)).trans hx126_1
         replace p126 := eq_true p126
         replace q126 := eq_true q126
         go_wp2_with (first | ((with_reducible refine gate_dst (N := 8) rfl ?_); refine box_event ?hg (N := 8) ?hd (cs := #[.string (⟨#[]⟩ : ByteArray), .int .i64 0]) (t := 43) ?hr ?_; (case hd => rfl); (case hg => rfl); (case hr => first | (go_simp; done) | (go_simp; rfl)); intro gb127 hg w14 hbox hb; have n0_ := Aside0.mk (below_step (by repeat (first | (with_reducible first | exact HB.out | apply below_alloc | apply pw_below_drewN | apply below_drew1) | exact HB.out)) hb); have n1_ := Aside0.mk (hbox); have n2_ := Aside0.mk ((by rw [hg]; exact (below_size (by repeat (first | (with_reducible first | exact HB.out | apply below_alloc | apply pw_below_drewN | apply below_drew1) | exact HB.out))) : w.heap.size ≤ gb127)); have n3_ := Aside0.mk ((by rw [hg]; exact (below_size (by repeat (first | (with_reducible first | exact HB.out | apply below_alloc | apply pw_below_drewN | apply below_drew1) | exact HB.out))) : w.heap.size ≤ gb127)); clear HB; have HB := n0_; have BK127 := n1_; have GW127 := n2_; have GE127 := n3_; clear n0_ n1_ n2_ n3_; clear hb hbox hg; have hcz15_0 : w14.cell? ⟨gb127, 0, none⟩ = some (.string (⟨#[]⟩ : ByteArray)) := (blk_cell BK127.out 0).trans rfl; have hcz15_1 : w14.cell? ⟨gb127, 1, none⟩ = some (.int .i64 0) := (blk_cell BK127.out 1).trans rfl; have hfz15_0 := blk_frozen BK127.out 0; have hfz15_1 := blk_frozen BK127.out 1))
         go_roundg k1
         case measure => have := HK1.out; omega
         case rel => exact ⟨(wrap64 (x14_1 + 1)), (by first | rfl | (simp; done) | (simp [*]; done)), H', ⟨by have := HK1.out; omega⟩, ⟨by repeat (first | (with_reducible first | exact HB.out | apply below_alloc | apply pw_below_drewN | apply below_drew1 | refine below_set ?_ GE127.out) | exact HB.out)⟩⟩
       ·rw [if_neg c10] at H
        exact absurd H (by simp)
      ·rw [if_neg c9] at H
       exact absurd H (by simp)
     ·rw [if_neg c8] at H
      have c8b0 : decide (x14_1 < (y122.length : Int)) = false := decide_eq_false c8
      clear c8
      obtain rfl := Option.some.inj H
      go_wp2
      go_ret
      exact ⟨by first | rfl | (simp [errW_none, errW_some] <;> rfl) | (simp only [← hji4]; first | rfl | (simp [errW_none, errW_some] <;> rfl)) | (simp [*, errW_none, errW_some] <;> rfl), by repeat (first | (with_reducible first | exact HB.out | apply below_alloc | apply pw_below_drewN | apply below_drew1) | exact HB.out)⟩
  ·rw [if_neg c6] at H
   exact absurd H (by simp)
 ·rw [if_neg c5] at H
  exact absurd H (by simp)

-- FOREIGN: function 26 (impl_ListNamed)

-- FOREIGN: function 35 (spec_TxLines)

-- FOREIGN: function 33 (spec_TxTimes)

-- FOREIGN: function 34 (spec_TxWidth)

/-! ### spec_ltLink: function 77 -/
def spec_ltLink.f (k : Nat) (l0 : List (S43)) (a1 : Int) (a2 : Int) (a3_0 : Int) (a3_1 : ByteArray) (a3_2 : ByteArray) (a3_3 : ByteArray) (a3_4 : ByteArray) (a3_5 : ByteArray) (a3_6 : ByteArray) (a3_7 : ByteArray) (a3_8 : ByteArray) : Option (ByteArray) := (spec_LsMore.f k l0 a1 a2).bind fun t129 => (if t129 = true then (some a3_5) else ((spec_TxWidth.f a3_5).bind fun t130 => ((spec_TxTimes.f (⟨#[32]⟩ : ByteArray) t130).bind fun t131 => (some t131))))
theorem spec_ltLink.mono : ∀ a0 a1 a2 a3 a4 a5 a6 a7 a8 a9 a10 a11 k, LeO (spec_ltLink.f k a0 a1 a2 a3 a4 a5 a6 a7 a8 a9 a10 a11) (spec_ltLink.f (k + 1) a0 a1 a2 a3 a4 a5 a6 a7 a8 a9 a10 a11) := by
 intro a0 a1 a2 a3 a4 a5 a6 a7 a8 a9 a10 a11 k
 unfold spec_ltLink.f
 repeat' first
   | (with_reducible exact spec_LsMore.mono _ _ _ _)
   | (with_reducible exact LeO.refl _)
   | (with_reducible exact LeO.none _)
   | (with_reducible refine LeO.ite ?_ ?_)
   | (with_reducible refine LeO.bind ?_ (fun _ => ?_))
   | exact spec_LsMore.mono _ _ _ _
   | exact LeO.none _
   | refine LeO.ite ?_ ?_
   | refine LeO.bind ?_ (fun _ => ?_)
set_option maxHeartbeats 8000000 in
set_option maxRecDepth 100000 in
theorem spec_ltLink.calls (k : Nat) (A0 : Option Addr) (c0 : Nat) (l0 : List (S43)) (a1 : Int) (a2 : Int) (a3_0 : Int) (a3_1 : ByteArray) (a3_2 : ByteArray) (a3_3 : ByteArray) (a3_4 : ByteArray) (a3_5 : ByteArray) (a3_6 : ByteArray) (a3_7 : ByteArray) (a3_8 : ByteArray) (r : ByteArray) (w : World) (hr0 : Kd.C k43 w A0 l0.length l0) (hc0 : l0.length ≤ c0) (h : spec_ltLink.f k l0 a1 a2 a3_0 a3_1 a3_2 a3_3 a3_4 a3_5 a3_6 a3_7 a3_8 = some r) :
  Calls Tryz.prog 77 #[.slice A0 l0.length c0, .int .i64 a1, .int .i64 a2, .agg #[.int .i64 a3_0, .string a3_1, .string a3_2, .string a3_3, .string a3_4, .string a3_5, .string a3_6, .string a3_7, .string a3_8]] w fun e w' => e = .returned (.string r) ∧ Below w.heap.size w w' := by
 have hu24 := Tryz.underlying24
 have HR0 := Aside0.mk hr0
 have HC0 := Aside0.mk hc0
 clear hr0 hc0
 have HB := Aside0.mk (Below.refl w.heap.size w)
 have H : ((spec_LsMore.f k l0 a1 a2).bind fun t129 => (if t129 = true then (some a3_5) else ((spec_TxWidth.f a3_5).bind fun t130 => ((spec_TxTimes.f (⟨#[32]⟩ : ByteArray) t130).bind fun t131 => (some t131))))) = some r := h
 clear h
 replace H := Option.bind_eq_some_iff.mp H
 obtain ⟨t129, A50, H⟩ := H
 replace H : (if t129 = true then (some a3_5) else ((spec_TxWidth.f a3_5).bind fun t130 => ((spec_TxTimes.f (⟨#[32]⟩ : ByteArray) t130).bind fun t131 => (some t131)))) = some r := H
 have A5 := Aside0.mk A50
 clear A50
 by_cases c6 : t129 = true
 ·subst c6
  have H1 : (some a3_5) = some r := by rw [if_pos rfl] at H; exact H
  clear H
  have H := H1
  clear H1
  obtain rfl := Option.some.inj H
  go_enter Tryz.func77, Tryz.ntmps77
  go_wp2_with (first | ((with_reducible refine gate_dst (N := 7) rfl ?_); refine box_event ?hg (N := 7) ?hd (cs := #[.int .i64 a3_0, .string a3_1, .string a3_2, .string a3_3, .string a3_4, .string a3_5, .string a3_6, .string a3_7, .string a3_8]) (t := 24) ?hr ?_; (case hd => rfl); (case hg => rfl); (case hr => first | (go_simp; done) | (go_simp; rfl)); intro gb128 hg w7 hbox hb; have n0_ := Aside0.mk (below_step (by repeat (first | (with_reducible first | exact HB.out | apply below_alloc | apply pw_below_drewN | apply below_drew1) | exact HB.out)) hb); have n1_ := Aside0.mk (hbox); have n2_ := Aside0.mk ((by rw [hg]; exact (below_size (by repeat (first | (with_reducible first | exact HB.out | apply below_alloc | apply pw_below_drewN | apply below_drew1) | exact HB.out))) : w.heap.size ≤ gb128)); have n3_ := Aside0.mk ((by rw [hg]; exact (below_size (by repeat (first | (with_reducible first | exact HB.out | apply below_alloc | apply pw_below_drewN | apply below_drew1) | exact HB.out))) : w.heap.size ≤ gb128)); clear HB; have HB := n0_; have BK128 := n1_; have GW128 := n2_; have GE128 := n3_; clear n0_ n1_ n2_ n3_; clear hb hbox hg) | ((with_reducible refine gate_callee (f := 24) rfl ?_); refine goesL_ (some 12) rfl rfl Tryz.func24 (by kernel_rfl) rfl #[.slice A0 l0.length c0, .int .i64 a1, .int .i64 a2] rfl (by (try simp only [List.map_toArray, List.map_cons, List.map_nil]); first | done | rfl | (simp only [List.length_drop, List.length_take]; rfl)) ?_; (with_reducible refine (spec_LsMore.calls k _ _ l0 a1 a2 true _ ?side1 ?side2 A5.out).mono ?_); (case side1 => repeat (first | exact (Kd.C_below HR0.out HB.out) | (with_reducible refine Kd.C_alloc ?_ _) | (with_reducible refine Kd.C_drewN ?_ _) | (with_reducible refine Kd.C_drew ?_))); (case side2 => exact HC0.out); rintro e w8 ⟨rfl, hb⟩; refine ⟨_, rfl, ?_⟩; have n0_ := Aside0.mk (blk_below (g := gb128) (o := .cells #[.int .i64 a3_0, .string a3_1, .string a3_2, .string a3_3, .string a3_4, .string a3_5, .string a3_6, .string a3_7, .string a3_8] 24 (0, 0)) (by (with_reducible repeat (first | refine blk_drewN ?_ _ | refine blk_drew ?_ | refine blk_alloc ?_ _)); exact BK128.out) hb); have n1_ := Aside0.mk (below_step (by repeat (first | (with_reducible first | exact HB.out | apply below_alloc | apply pw_below_drewN | apply below_drew1 | refine below_set ?_ GE128.out) | exact HB.out)) hb); clear BK128; clear HB; have BK128 := n0_; have HB := n1_; clear n0_ n1_; (try clear hb); (try clear hb2); (try clear hk); (try clear hi); have hcz9_0 : w8.cell? ⟨gb128, 0, none⟩ = some (.int .i64 a3_0) := (blk_cell BK128.out 0).trans rfl; have hcz9_1 : w8.cell? ⟨gb128, 1, none⟩ = some (.string a3_1) := (blk_cell BK128.out 1).trans rfl; have hcz9_2 : w8.cell? ⟨gb128, 2, none⟩ = some (.string a3_2) := (blk_cell BK128.out 2).trans rfl; have hcz9_3 : w8.cell? ⟨gb128, 3, none⟩ = some (.string a3_3) := (blk_cell BK128.out 3).trans rfl; have hcz9_4 : w8.cell? ⟨gb128, 4, none⟩ = some (.string a3_4) := (blk_cell BK128.out 4).trans rfl; have hcz9_5 : w8.cell? ⟨gb128, 5, none⟩ = some (.string a3_5) := (blk_cell BK128.out 5).trans rfl; have hcz9_6 : w8.cell? ⟨gb128, 6, none⟩ = some (.string a3_6) := (blk_cell BK128.out 6).trans rfl; have hcz9_7 : w8.cell? ⟨gb128, 7, none⟩ = some (.string a3_7) := (blk_cell BK128.out 7).trans rfl; have hcz9_8 : w8.cell? ⟨gb128, 8, none⟩ = some (.string a3_8) := (blk_cell BK128.out 8).trans rfl; have hfz9_0 := blk_frozen BK128.out 0; have hfz9_1 := blk_frozen BK128.out 1; have hfz9_2 := blk_frozen BK128.out 2; have hfz9_3 := blk_frozen BK128.out 3; have hfz9_4 := blk_frozen BK128.out 4; have hfz9_5 := blk_frozen BK128.out 5; have hfz9_6 := blk_frozen BK128.out 6; have hfz9_7 := blk_frozen BK128.out 7; have hfz9_8 := blk_frozen BK128.out 8))
  go_ret
  exact ⟨by first | rfl | (simp [errW_none, errW_some] <;> rfl) | (have e_ : ∀ l_ : List UInt8, (l_ != []) = !l_.isEmpty := fun l_ => (by cases l_ <;> rfl); simp [errW_none, errW_some, e_]; done) | (simp [*, errW_none, errW_some] <;> rfl), by repeat (first | (with_reducible first | exact HB.out | apply below_alloc | apply pw_below_drewN | apply below_drew1 | refine below_set ?_ GE128.out) | exact HB.out)⟩
 ·replace c6 := Bool.eq_false_iff.mpr c6
  subst c6
  have H1 : ((spec_TxWidth.f a3_5).bind fun t130 => ((spec_TxTimes.f (⟨#[32]⟩ : ByteArray) t130).bind fun t131 => (some t131))) = some r := by rw [if_neg (show ¬ (false = true) by decide)] at H; exact H
  clear H
  have H := H1
  clear H1
  replace H := Option.bind_eq_some_iff.mp H
  obtain ⟨t130, A100, H⟩ := H
  replace H : ((spec_TxTimes.f (⟨#[32]⟩ : ByteArray) t130).bind fun t131 => (some t131)) = some r := H
  have A10 := Aside0.mk A100
  clear A100
  replace H := Option.bind_eq_some_iff.mp H
  obtain ⟨t131, A110, H⟩ := H
  replace H : (some t131) = some r := H
  have A11 := Aside0.mk A110
  clear A110
  obtain rfl := Option.some.inj H
  go_enter Tryz.func77, Tryz.ntmps77
  go_wp2_with (first | ((with_reducible refine gate_dst (N := 7) rfl ?_); refine box_event ?hg (N := 7) ?hd (cs := #[.int .i64 a3_0, .string a3_1, .string a3_2, .string a3_3, .string a3_4, .string a3_5, .string a3_6, .string a3_7, .string a3_8]) (t := 24) ?hr ?_; (case hd => rfl); (case hg => rfl); (case hr => first | (go_simp; done) | (go_simp; rfl)); intro gb128 hg w12 hbox hb; have n0_ := Aside0.mk (below_step (by repeat (first | (with_reducible first | exact HB.out | apply below_alloc | apply pw_below_drewN | apply below_drew1) | exact HB.out)) hb); have n1_ := Aside0.mk (hbox); have n2_ := Aside0.mk ((by rw [hg]; exact (below_size (by repeat (first | (with_reducible first | exact HB.out | apply below_alloc | apply pw_below_drewN | apply below_drew1) | exact HB.out))) : w.heap.size ≤ gb128)); have n3_ := Aside0.mk ((by rw [hg]; exact (below_size (by repeat (first | (with_reducible first | exact HB.out | apply below_alloc | apply pw_below_drewN | apply below_drew1) | exact HB.out))) : w.heap.size ≤ gb128)); clear HB; have HB := n0_; have BK128 := n1_; have GW128 := n2_; have GE128 := n3_; clear n0_ n1_ n2_ n3_; clear hb hbox hg) | ((with_reducible refine gate_callee (f := 24) rfl ?_); refine goesL_ (some 12) rfl rfl Tryz.func24 (by kernel_rfl) rfl #[.slice A0 l0.length c0, .int .i64 a1, .int .i64 a2] rfl (by (try simp only [List.map_toArray, List.map_cons, List.map_nil]); first | done | rfl | (simp only [List.length_drop, List.length_take]; rfl)) ?_; (with_reducible refine (spec_LsMore.calls k _ _ l0 a1 a2 false _ ?side1 ?side2 A5.out).mono ?_); (case side1 => repeat (first | exact (Kd.C_below HR0.out HB.out) | (with_reducible refine Kd.C_alloc ?_ _) | (with_reducible refine Kd.C_drewN ?_ _) | (with_reducible refine Kd.C_drew ?_))); (case side2 => exact HC0.out); rintro e w13 ⟨rfl, hb⟩; refine ⟨_, rfl, ?_⟩; have n0_ := Aside0.mk (blk_below (g := gb128) (o := .cells #[.int .i64 a3_0, .string a3_1, .string a3_2, .string a3_3, .string a3_4, .string a3_5, .string a3_6, .string a3_7, .string a3_8] 24 (0, 0)) (by (with_reducible repeat (first | refine blk_drewN ?_ _ | refine blk_drew ?_ | refine blk_alloc ?_ _)); exact BK128.out) hb); have n1_ := Aside0.mk (below_step (by repeat (first | (with_reducible first | exact HB.out | apply below_alloc | apply pw_below_drewN | apply below_drew1 | refine below_set ?_ GE128.out) | exact HB.out)) hb); clear BK128; clear HB; have BK128 := n0_; have HB := n1_; clear n0_ n1_; (try clear hb); (try clear hb2); (try clear hk); (try clear hi); have hcz14_0 : w13.cell? ⟨gb128, 0, none⟩ = some (.int .i64 a3_0) := (blk_cell BK128.out 0).trans rfl; have hcz14_1 : w13.cell? ⟨gb128, 1, none⟩ = some (.string a3_1) := (blk_cell BK128.out 1).trans rfl; have hcz14_2 : w13.cell? ⟨gb128, 2, none⟩ = some (.string a3_2) := (blk_cell BK128.out 2).trans rfl; have hcz14_3 : w13.cell? ⟨gb128, 3, none⟩ = some (.string a3_3) := (blk_cell BK128.out 3).trans rfl; have hcz14_4 : w13.cell? ⟨gb128, 4, none⟩ = some (.string a3_4) := (blk_cell BK128.out 4).trans rfl; have hcz14_5 : w13.cell? ⟨gb128, 5, none⟩ = some (.string a3_5) := (blk_cell BK128.out 5).trans rfl; have hcz14_6 : w13.cell? ⟨gb128, 6, none⟩ = some (.string a3_6) := (blk_cell BK128.out 6).trans rfl; have hcz14_7 : w13.cell? ⟨gb128, 7, none⟩ = some (.string a3_7) := (blk_cell BK128.out 7).trans rfl; have hcz14_8 : w13.cell? ⟨gb128, 8, none⟩ = some (.string a3_8) := (blk_cell BK128.out 8).trans rfl; have hfz14_0 := blk_frozen BK128.out 0; have hfz14_1 := blk_frozen BK128.out 1; have hfz14_2 := blk_frozen BK128.out 2; have hfz14_3 := blk_frozen BK128.out 3; have hfz14_4 := blk_frozen BK128.out 4; have hfz14_5 := blk_frozen BK128.out 5; have hfz14_6 := blk_frozen BK128.out 6; have hfz14_7 := blk_frozen BK128.out 7; have hfz14_8 := blk_frozen BK128.out 8) | ((with_reducible refine gate_callee (f := 34) rfl ?_); refine goesL_ (some 17) rfl rfl Tryz.func34 (by kernel_rfl) rfl #[.string a3_5] rfl (by (try simp only [List.map_toArray, List.map_cons, List.map_nil]); first | done | rfl | (simp only [List.length_drop, List.length_take]; rfl)) ?_; (with_reducible refine (spec_TxWidth.calls a3_5 t130 _ A10.out).mono ?_); rintro e w15 ⟨rfl, hb⟩; refine ⟨_, rfl, ?_⟩; have n0_ := Aside0.mk (blk_below (g := gb128) (o := .cells #[.int .i64 a3_0, .string a3_1, .string a3_2, .string a3_3, .string a3_4, .string a3_5, .string a3_6, .string a3_7, .string a3_8] 24 (0, 0)) (by (with_reducible repeat (first | refine blk_drewN ?_ _ | refine blk_drew ?_ | refine blk_alloc ?_ _)); exact BK128.out) hb); have n1_ := Aside0.mk (below_step (by repeat (first | (with_reducible first | exact HB.out | apply below_alloc | apply pw_below_drewN | apply below_drew1 | refine below_set ?_ GE128.out) | exact HB.out)) hb); clear BK128; clear HB; have BK128 := n0_; have HB := n1_; clear n0_ n1_; (try clear hb); (try clear hb2); (try clear hk); (try clear hi)) | ((with_reducible refine gate_callee (f := 33) rfl ?_); refine goesL_ (some 18) rfl rfl Tryz.func33 (by kernel_rfl) rfl #[.string (⟨#[32]⟩ : ByteArray), .int .i64 t130] rfl (by (try simp only [List.map_toArray, List.map_cons, List.map_nil]); first | done | rfl | (simp only [List.length_drop, List.length_take]; rfl)) ?_; (with_reducible refine (spec_TxTimes.calls (⟨#[32]⟩ : ByteArray) t130 t131 _ A11.out).mono ?_); rintro e w16 ⟨rfl, hb⟩; refine ⟨_, rfl, ?_⟩; have n0_ := Aside0.mk (blk_below (g := gb128) (o := .cells #[.int .i64 a3_0, .string a3_1, .string a3_2, .string a3_3, .string a3_4, .string a3_5, .string a3_6, .string a3_7, .string a3_8] 24 (0, 0)) (by (with_reducible repeat (first | refine blk_drewN ?_ _ | refine blk_drew ?_ | refine blk_alloc ?_ _)); exact BK128.out) hb); have n1_ := Aside0.mk (below_step (by repeat (first | (with_reducible first | exact HB.out | apply below_alloc | apply pw_below_drewN | apply below_drew1 | refine below_set ?_ GE128.out) | exact HB.out)) hb); clear BK128; clear HB; have BK128 := n0_; have HB := n1_; clear n0_ n1_; (try clear hb); (try clear hb2); (try clear hk); (try clear hi)))
  go_ret
  exact ⟨by first | rfl | (simp [errW_none, errW_some] <;> rfl) | (have e_ : ∀ l_ : List UInt8, (l_ != []) = !l_.isEmpty := fun l_ => (by cases l_ <;> rfl); simp [errW_none, errW_some, e_]; done) | (simp [*, errW_none, errW_some] <;> rfl), by repeat (first | (with_reducible first | exact HB.out | apply below_alloc | apply pw_below_drewN | apply below_drew1 | refine below_set ?_ GE128.out) | exact HB.out)⟩

/-! ### spec_LtAhead: function 75 -/
def spec_LtAhead.l0 : Nat → List (S43) → Int → ByteArray → Int → Int → Int → ByteArray → ByteArray → ByteArray → ByteArray → ByteArray → ByteArray → ByteArray → ByteArray → Option (ByteArray)
 | 0, _, _, _, _, _, _, _, _, _, _, _, _, _, _ => none
 | k + 1, x0, x1, x7, x15, x16, x133000, x133001, x133002, x133003, x133004, x133005, x133006, x133007, x133008 => if x16 < x15 then ((spec_ltLink.f k x0 x1 x16 x133000 x133001 x133002 x133003 x133004 x133005 x133006 x133007 x133008).bind fun t134 => (if x7.size + t134.size ≤ 9223372036854775807 then (spec_LtAhead.l0 k x0 x1 (x7 ++ t134) x15 (wrap64 (x16 + 1)) x133000 x133001 x133002 x133003 x133004 x133005 x133006 x133007 x133008) else (none))) else (some x7)
def spec_LtAhead.f (k : Nat) (l0 : List (S43)) (a1 : Int) (a2_0 : Int) (a2_1 : ByteArray) (a2_2 : ByteArray) (a2_3 : ByteArray) (a2_4 : ByteArray) (a2_5 : ByteArray) (a2_6 : ByteArray) (a2_7 : ByteArray) (a2_8 : ByteArray) : Option (ByteArray) := if 0 ≤ a1 then (if a1 < (l0.length : Int) then (spec_LtAhead.l0 k l0 a1 a2_8 ((rd_T43 l0 a1).f1) 0 a2_0 a2_1 a2_2 a2_3 a2_4 a2_5 a2_6 a2_7 a2_8) else (none)) else (none)
theorem spec_LtAhead.mono_l : ∀ k, (∀ y0 y1 y2 y3 y4 y5 y6 y7 y8 y9 y10 y11 y12 y13, LeO (spec_LtAhead.l0 k y0 y1 y2 y3 y4 y5 y6 y7 y8 y9 y10 y11 y12 y13) (spec_LtAhead.l0 (k + 1) y0 y1 y2 y3 y4 y5 y6 y7 y8 y9 y10 y11 y12 y13))
 | 0 => fun _ _ _ _ _ _ _ _ _ _ _ _ _ _ r h => by simp [spec_LtAhead.l0] at h
 | k + 1 => by
  have ih0 := spec_LtAhead.mono_l k
  ·intro y0 y1 y2 y3 y4 y5 y6 y7 y8 y9 y10 y11 y12 y13
   unfold spec_LtAhead.l0
   repeat' first
   | (with_reducible exact ih0 _ _ _ _ _ _ _ _ _ _ _ _ _ _)
   | (with_reducible exact spec_ltLink.mono _ _ _ _ _ _ _ _ _ _ _ _ _)
   | (with_reducible exact LeO.refl _)
   | (with_reducible exact LeO.none _)
   | (with_reducible refine LeO.ite ?_ ?_)
   | (with_reducible refine LeO.bind ?_ (fun _ => ?_))
   | exact ih0 _ _ _ _ _ _ _ _ _ _ _ _ _ _
   | exact spec_ltLink.mono _ _ _ _ _ _ _ _ _ _ _ _ _
   | exact LeO.none _
   | refine LeO.ite ?_ ?_
   | refine LeO.bind ?_ (fun _ => ?_)
theorem spec_LtAhead.mono : ∀ a0 a1 a2 a3 a4 a5 a6 a7 a8 a9 a10 k, LeO (spec_LtAhead.f k a0 a1 a2 a3 a4 a5 a6 a7 a8 a9 a10) (spec_LtAhead.f (k + 1) a0 a1 a2 a3 a4 a5 a6 a7 a8 a9 a10) := by
 intro a0 a1 a2 a3 a4 a5 a6 a7 a8 a9 a10 k
 have ih0 := spec_LtAhead.mono_l k
 unfold spec_LtAhead.f
 repeat' first
   | (with_reducible exact ih0 _ _ _ _ _ _ _ _ _ _ _ _ _ _)
   | (with_reducible exact spec_ltLink.mono _ _ _ _ _ _ _ _ _ _ _ _ _)
   | (with_reducible exact LeO.refl _)
   | (with_reducible exact LeO.none _)
   | (with_reducible refine LeO.ite ?_ ?_)
   | (with_reducible refine LeO.bind ?_ (fun _ => ?_))
   | exact ih0 _ _ _ _ _ _ _ _ _ _ _ _ _ _
   | exact spec_ltLink.mono _ _ _ _ _ _ _ _ _ _ _ _ _
   | exact LeO.none _
   | refine LeO.ite ?_ ?_
   | refine LeO.bind ?_ (fun _ => ?_)
set_option maxHeartbeats 8000000 in
set_option maxRecDepth 100000 in
theorem spec_LtAhead.calls (k : Nat) (A0 : Option Addr) (c0 : Nat) (l0 : List (S43)) (a1 : Int) (a2_0 : Int) (a2_1 : ByteArray) (a2_2 : ByteArray) (a2_3 : ByteArray) (a2_4 : ByteArray) (a2_5 : ByteArray) (a2_6 : ByteArray) (a2_7 : ByteArray) (a2_8 : ByteArray) (r : ByteArray) (w : World) (hr0 : Kd.C k43 w A0 l0.length l0) (hc0 : l0.length ≤ c0) (h : spec_LtAhead.f k l0 a1 a2_0 a2_1 a2_2 a2_3 a2_4 a2_5 a2_6 a2_7 a2_8 = some r) :
  Calls Tryz.prog 75 #[.slice A0 l0.length c0, .int .i64 a1, .agg #[.int .i64 a2_0, .string a2_1, .string a2_2, .string a2_3, .string a2_4, .string a2_5, .string a2_6, .string a2_7, .string a2_8]] w fun e w' => e = .returned (.string r) ∧ Below w.heap.size w w' := by
 have hu24 := Tryz.underlying24
 have HR0 := Aside0.mk hr0
 have HC0 := Aside0.mk hc0
 clear hr0 hc0
 have HB := Aside0.mk (Below.refl w.heap.size w)
 have H : (if 0 ≤ a1 then (if a1 < (l0.length : Int) then (spec_LtAhead.l0 k l0 a1 a2_8 ((rd_T43 l0 a1).f1) 0 a2_0 a2_1 a2_2 a2_3 a2_4 a2_5 a2_6 a2_7 a2_8) else (none)) else (none)) = some r := h
 clear h
 by_cases c4 : 0 ≤ a1
 ·rw [if_pos c4] at H
  have c4b0 : decide (0 ≤ a1) = true := decide_eq_true c4
  clear c4
  by_cases c5 : a1 < (l0.length : Int)
  ·rw [if_pos c5] at H
   have c5b0 : decide (a1 < (l0.length : Int)) = true := decide_eq_true c5
   clear c5
   have H' := Aside0.mk H
   clear H
   go_enter Tryz.func75, Tryz.ntmps75
   go_wp2_with (first | ((with_reducible refine gate_dst (N := 5) rfl ?_); refine box_event ?hg (N := 5) ?hd (cs := #[.int .i64 a2_0, .string a2_1, .string a2_2, .string a2_3, .string a2_4, .string a2_5, .string a2_6, .string a2_7, .string a2_8]) (t := 24) ?hr ?_; (case hd => rfl); (case hg => rfl); (case hr => first | (go_simp; done) | (go_simp; rfl)); intro gb132 hg w6 hbox hb; have n0_ := Aside0.mk (below_step (by repeat (first | (with_reducible first | exact HB.out | apply below_alloc | apply pw_below_drewN | apply below_drew1) | exact HB.out)) hb); have n1_ := Aside0.mk (hbox); have n2_ := Aside0.mk ((by rw [hg]; exact (below_size (by repeat (first | (with_reducible first | exact HB.out | apply below_alloc | apply pw_below_drewN | apply below_drew1) | exact HB.out))) : w.heap.size ≤ gb132)); have n3_ := Aside0.mk ((by rw [hg]; exact (below_size (by repeat (first | (with_reducible first | exact HB.out | apply below_alloc | apply pw_below_drewN | apply below_drew1) | exact HB.out))) : w.heap.size ≤ gb132)); clear HB; have HB := n0_; have BK132 := n1_; have GW132 := n2_; have GE132 := n3_; clear n0_ n1_ n2_ n3_; clear hb hbox hg; have hcz7_0 : w6.cell? ⟨gb132, 0, none⟩ = some (.int .i64 a2_0) := (blk_cell BK132.out 0).trans rfl; have hcz7_1 : w6.cell? ⟨gb132, 1, none⟩ = some (.string a2_1) := (blk_cell BK132.out 1).trans rfl; have hcz7_2 : w6.cell? ⟨gb132, 2, none⟩ = some (.string a2_2) := (blk_cell BK132.out 2).trans rfl; have hcz7_3 : w6.cell? ⟨gb132, 3, none⟩ = some (.string a2_3) := (blk_cell BK132.out 3).trans rfl; have hcz7_4 : w6.cell? ⟨gb132, 4, none⟩ = some (.string a2_4) := (blk_cell BK132.out 4).trans rfl; have hcz7_5 : w6.cell? ⟨gb132, 5, none⟩ = some (.string a2_5) := (blk_cell BK132.out 5).trans rfl; have hcz7_6 : w6.cell? ⟨gb132, 6, none⟩ = some (.string a2_6) := (blk_cell BK132.out 6).trans rfl; have hcz7_7 : w6.cell? ⟨gb132, 7, none⟩ = some (.string a2_7) := (blk_cell BK132.out 7).trans rfl; have hcz7_8 : w6.cell? ⟨gb132, 8, none⟩ = some (.string a2_8) := (blk_cell BK132.out 8).trans rfl; have hfz7_0 := blk_frozen BK132.out 0; have hfz7_1 := blk_frozen BK132.out 1; have hfz7_2 := blk_frozen BK132.out 2; have hfz7_3 := blk_frozen BK132.out 3; have hfz7_4 := blk_frozen BK132.out 4; have hfz7_5 := blk_frozen BK132.out 5; have hfz7_6 := blk_frozen BK132.out 6; have hfz7_7 := blk_frozen BK132.out 7; have hfz7_8 := blk_frozen BK132.out 8; have p133 : 0 ≤ (a1 : Int) := of_decide_eq_true (by first | (with_reducible assumption) | assumption); have q133 : a1 < (l0.length : Int) := of_decide_eq_true (by first | (with_reducible assumption) | assumption); obtain ⟨ad133, e133, hx133_0, hx133_1⟩ := at_T43 HR0.out a1 p133 q133; cases e133; replace hx133_0 := (HB.out.cell (World.block_lt_of_cell? w _ hx133_0)).trans hx133_0; replace hx133_1 := (HB.out.cell (World.block_lt_of_cell? w _ hx133_1)).trans hx133_1; replace p133 := eq_true p133; replace q133 := eq_true q133))
   go_loopg [7, 16] k (fun kq v7 v16 w' => ∃ (x7_1 : ByteArray) (x16_1 : Int), v7 = .string x7_1 ∧ v16 = .int .i64 x16_1 ∧ Aside0 (spec_LtAhead.l0 kq l0 a1 x7_1 ((rd_T43 l0 a1).f1) x16_1 a2_0 a2_1 a2_2 a2_3 a2_4 a2_5 a2_6 a2_7 a2_8 = some r) ∧ Aside0 (kq ≤ k) ∧ Aside0 (w'.heap[gb132]? = some (.cells #[.int .i64 a2_0, .string a2_1, .string a2_2, .string a2_3, .string a2_4, .string a2_5, .string a2_6, .string a2_7, .string a2_8] 24 (0, 0))) ∧ Aside0 (Below w.heap.size w w'))
   case atStart => exact ⟨(a2_8), (0), (by first | rfl | (simp; done) | (simp [*]; done)), (by first | rfl | (simp; done) | (simp [*]; done)), H', ⟨Nat.le_refl _⟩, ⟨by (with_reducible repeat (first | refine blk_drewN ?_ _ | refine blk_drew ?_ | refine blk_alloc ?_ _)); exact BK132.out⟩, ⟨by repeat (first | (with_reducible first | exact HB.out | apply below_alloc | apply pw_below_drewN | apply below_drew1 | refine below_set ?_ GE132.out) | exact HB.out)⟩⟩
   case round =>
    clear H'
    try clear p1
    try clear q1
    try clear hx1
    try clear p2
    try clear c4
    try clear c4b0
    try clear c5
    try clear c5b0
    try clear c7
    try clear hcz7_0
    try clear hcz7_1
    try clear hcz7_2
    try clear hcz7_3
    try clear hcz7_4
    try clear hcz7_5
    try clear hcz7_6
    try clear hcz7_7
    try clear hcz7_8
    try clear hfz7_0
    try clear hfz7_1
    try clear hfz7_2
    try clear hfz7_3
    try clear hfz7_4
    try clear hfz7_5
    try clear hfz7_6
    try clear hfz7_7
    try clear hfz7_8
    try clear hx133_0
    try clear hx133_1
    try clear p133
    try clear q133
    obtain ⟨x7_1, x16_1, rfl, rfl, HA, HK1, BK132, HB⟩ := hrel
    cases gk with
    | zero => exact absurd HA.out (by simp [spec_LtAhead.l0])
    | succ k1 =>
     have H := HA.out
     clear HA
     simp only [spec_LtAhead.l0] at H
     by_cases c8 : x16_1 < ((rd_T43 l0 a1).f1)
     ·rw [if_pos c8] at H
      have c8b0 : decide (x16_1 < ((rd_T43 l0 a1).f1)) = true := decide_eq_true c8
      clear c8
      replace H := Option.bind_eq_some_iff.mp H
      obtain ⟨t134, A90, H⟩ := H
      replace H : (if x7_1.size + t134.size ≤ 9223372036854775807 then (spec_LtAhead.l0 k1 l0 a1 (x7_1 ++ t134) ((rd_T43 l0 a1).f1) (wrap64 (x16_1 + 1)) a2_0 a2_1 a2_2 a2_3 a2_4 a2_5 a2_6 a2_7 a2_8) else (none)) = some r := H
      have A9 := Aside0.mk A90
      clear A90
      by_cases c10 : x7_1.size + t134.size ≤ 9223372036854775807
      ·rw [if_pos c10] at H
       have c10b0 := eq_true c10
       have c10b1 : decide (x7_1.size + t134.size ≤ 9223372036854775807) = true := decide_eq_true c10
       try have c10b2 : (9223372036854775807 < x7_1.size + t134.size) = False := eq_false (Nat.not_lt.2 c10)
       have H' := Aside0.mk H
       clear H
       have hcz11_0 : wr.cell? ⟨gb132, 0, none⟩ = some (.int .i64 a2_0) := (blk_cell BK132.out 0).trans rfl
       have hcz11_1 : wr.cell? ⟨gb132, 1, none⟩ = some (.string a2_1) := (blk_cell BK132.out 1).trans rfl
       have hcz11_2 : wr.cell? ⟨gb132, 2, none⟩ = some (.string a2_2) := (blk_cell BK132.out 2).trans rfl
       have hcz11_3 : wr.cell? ⟨gb132, 3, none⟩ = some (.string a2_3) := (blk_cell BK132.out 3).trans rfl
       have hcz11_4 : wr.cell? ⟨gb132, 4, none⟩ = some (.string a2_4) := (blk_cell BK132.out 4).trans rfl
       have hcz11_5 : wr.cell? ⟨gb132, 5, none⟩ = some (.string a2_5) := (blk_cell BK132.out 5).trans rfl
       have hcz11_6 : wr.cell? ⟨gb132, 6, none⟩ = some (.string a2_6) := (blk_cell BK132.out 6).trans rfl
       have hcz11_7 : wr.cell? ⟨gb132, 7, none⟩ = some (.string a2_7) := (blk_cell BK132.out 7).trans rfl
       have hcz11_8 : wr.cell? ⟨gb132, 8, none⟩ = some (.string a2_8) := (blk_cell BK132.out 8).trans rfl
       have hfz11_0 := blk_frozen BK132.out 0
       have hfz11_1 := blk_frozen BK132.out 1
       have hfz11_2 := blk_frozen BK132.out 2
       have hfz11_3 := blk_frozen BK132.out 3
       have hfz11_4 := blk_frozen BK132.out 4
       have hfz11_5 := blk_frozen BK132.out 5
       have hfz11_6 := blk_frozen BK132.out 6
       have hfz11_7 := blk_frozen BK132.out 7
       have hfz11_8 := blk_frozen BK132.out 8
       go_wp2_with (first | ((with_reducible refine gate_callee (f := 77) rfl ?_); refine goesL_ (some 24) rfl rfl Tryz.func77 (by kernel_rfl) rfl #[.slice (some ad133) l0.length c0, .int .i64 a1, .int .i64 x16_1, .agg #[.int .i64 a2_0, .string a2_1, .string a2_2, .string a2_3, .string a2_4, .string a2_5, .string a2_6, .string a2_7, .string a2_8]] rfl (by (try simp only [List.map_toArray, List.map_cons, List.map_nil]); first | done | rfl | (simp only [List.length_drop, List.length_take]; rfl)) ?_; (with_reducible refine (spec_ltLink.calls k1 _ _ l0 a1 x16_1 a2_0 a2_1 a2_2 a2_3 a2_4 a2_5 a2_6 a2_7 a2_8 t134 _ ?side1 ?side2 A9.out).mono ?_); (case side1 => repeat (first | exact (Kd.C_below HR0.out HB.out) | (with_reducible refine Kd.C_alloc ?_ _) | (with_reducible refine Kd.C_drewN ?_ _) | (with_reducible refine Kd.C_drew ?_))); (case side2 => exact HC0.out); rintro e w12 ⟨rfl, hb⟩; refine ⟨_, rfl, ?_⟩; have n0_ := Aside0.mk (blk_below (g := gb132) (o := .cells #[.int .i64 a2_0, .string a2_1, .string a2_2, .string a2_3, .string a2_4, .string a2_5, .string a2_6, .string a2_7, .string a2_8] 24 (0, 0)) (by (with_reducible repeat (first | refine blk_drewN ?_ _ | refine blk_drew ?_ | refine blk_alloc ?_ _)); exact BK132.out) hb); have n1_ := Aside0.mk (below_step (by repeat (first | (with_reducible first | exact HB.out | apply below_alloc | apply pw_below_drewN | apply below_drew1 | refine below_set ?_ GE132.out) | exact HB.out)) hb); clear BK132; clear HB; have BK132 := n0_; have HB := n1_; clear n0_ n1_; (try clear hb); (try clear hb2); (try clear hk); (try clear hi)))
       go_roundg k1
       case measure => have := HK1.out; omega
       case rel => exact ⟨(x7_1 ++ t134), (wrap64 (x16_1 + 1)), (by first | rfl | (simp; done) | (simp [*]; done)), (by first | rfl | (simp; done) | (simp [*]; done)), H', ⟨by have := HK1.out; omega⟩, ⟨by (with_reducible repeat (first | refine blk_drewN ?_ _ | refine blk_drew ?_ | refine blk_alloc ?_ _)); exact BK132.out⟩, ⟨by repeat (first | (with_reducible first | exact HB.out | apply below_alloc | apply pw_below_drewN | apply below_drew1 | refine below_set ?_ GE132.out) | exact HB.out)⟩⟩
      ·rw [if_neg c10] at H
       exact absurd H (by simp)
     ·rw [if_neg c8] at H
      have c8b0 : decide (x16_1 < ((rd_T43 l0 a1).f1)) = false := decide_eq_false c8
      clear c8
      obtain rfl := Option.some.inj H
      go_wp2
      go_ret
      exact ⟨by first | rfl | (simp [errW_none, errW_some] <;> rfl) | (have e_ : ∀ l_ : List UInt8, (l_ != []) = !l_.isEmpty := fun l_ => (by cases l_ <;> rfl); simp [errW_none, errW_some, e_]; done) | (simp [*, errW_none, errW_some] <;> rfl), by repeat (first | (with_reducible first | exact HB.out | apply below_alloc | apply pw_below_drewN | apply below_drew1 | refine below_set ?_ GE132.out) | exact HB.out)⟩
  ·rw [if_neg c5] at H
   exact absurd H (by simp)
 ·rw [if_neg c4] at H
  exact absurd H (by simp)

end Go.Proofs.YtejjjenjnfaopaaGreatDoor.P
