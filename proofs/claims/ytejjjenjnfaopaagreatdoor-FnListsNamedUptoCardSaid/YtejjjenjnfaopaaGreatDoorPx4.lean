/- Printed by a program of this session (pf.sh): Go functions as Lean functions, with their contracts. -/
import Derived.Test.YtejjjenjnfaopaaGreatDoorPx0
import Derived.Test.YtejjjenjnfaopaaGreatDoorPx3
import Derived.Test.YtejjjenjnfaopaaGreatDoorFf
import Derived.Test.YtejjjenjnfaopaaGreatDoorFz
namespace Go.Proofs.YtejjjenjnfaopaaGreatDoor.P
open Go.RowKit Go.Proofs.YtejjjenjnfaopaaGreatDoorW.PrintWords Go.Proofs.YtejjjenjnfaopaaGreatDoorW.PrintLast Go.Proofs.YtejjjenjnfaopaaGreatDoorW.PrintMore
attribute [local go_sem] max2_int min2_int max_two min_two max_three min_three max_four min_four   -- for this text's walks alone
set_option linter.unusedVariables false
set_option linter.unusedSimpArgs false

/-! ### spec_LsFirst: function 95 -/
def spec_LsFirst.f (l0 : List (S43)) (a1 : Int) : Option (Bool) := if a1 = 0 then (some true) else (if 0 ≤ (wrap64 (a1 - 1)) then (if (wrap64 (a1 - 1)) < (l0.length : Int) then (if 0 ≤ a1 then (if a1 < (l0.length : Int) then (some (decide (((rd_T43 l0 (wrap64 (a1 - 1))).f1) < ((rd_T43 l0 a1).f1)))) else (none)) else (none)) else (none)) else (none))
set_option maxHeartbeats 8000000 in
set_option maxRecDepth 100000 in
theorem spec_LsFirst.calls (A0 : Option Addr) (c0 : Nat) (l0 : List (S43)) (a1 : Int) (r : Bool) (w : World) (hr0 : Kd.C k43 w A0 l0.length l0) (hc0 : l0.length ≤ c0) (h : spec_LsFirst.f l0 a1 = some r) :
  Calls Tryz.prog 95 #[.slice A0 l0.length c0, .int .i64 a1] w fun e w' => e = .returned (.bool r) ∧ Drawn0 w w' := by
 have HR0 := Aside0.mk hr0
 have HC0 := Aside0.mk hc0
 clear hr0 hc0
 have H : (if a1 = 0 then (some true) else (if 0 ≤ (wrap64 (a1 - 1)) then (if (wrap64 (a1 - 1)) < (l0.length : Int) then (if 0 ≤ a1 then (if a1 < (l0.length : Int) then (some (decide (((rd_T43 l0 (wrap64 (a1 - 1))).f1) < ((rd_T43 l0 a1).f1)))) else (none)) else (none)) else (none)) else (none))) = some r := h
 clear h
 by_cases c3 : a1 = 0
 ·rw [if_pos c3] at H
  have c3b0 : (a1 == 0) = true := beq_iff_eq.mpr c3
  have c3b1 : (a1 != 0) = false := bne_eq_false_iff_eq.mpr c3
  clear c3
  obtain rfl := Option.some.inj H
  go_enter Tryz.func95, Tryz.ntmps95
  go_wp2
  repeat (go_quiet (fail); try go_wp2)
  go_ret
  exact ⟨by first | rfl | (simp; done) | (simp [*]; done), by repeat (first | exact Drawn0.refl _ | apply Drawn0.step)⟩
 ·rw [if_neg c3] at H
  have c3b0 : (a1 == 0) = false := beq_eq_false_iff_ne.mpr c3
  have c3b1 : (a1 != 0) = true := bne_iff_ne.mpr c3
  obtain ⟨ji4, hji4⟩ : ∃ j_ : Int, (wrap64 (a1 - 1)) = j_ := ⟨_, rfl⟩
  replace H : (if 0 ≤ (ji4) then (if (ji4) < (l0.length : Int) then (if 0 ≤ a1 then (if a1 < (l0.length : Int) then (some (decide (((rd_T43 l0 (ji4)).f1) < ((rd_T43 l0 a1).f1)))) else (none)) else (none)) else (none)) else (none)) = some r := by first | (rw [hji4] at H; exact H) | (simp only [hji4] at H ⊢; exact H)
  have hji4w : (IntKind.i64.wrap (a1 - 1)) = ji4 := (i64_w _).trans hji4
  by_cases c5 : 0 ≤ (ji4)
  ·rw [if_pos c5] at H
   have c5b0 : decide (0 ≤ (ji4)) = true := decide_eq_true c5
   clear c5
   by_cases c6 : (ji4) < (l0.length : Int)
   ·rw [if_pos c6] at H
    have c6b0 : decide ((ji4) < (l0.length : Int)) = true := decide_eq_true c6
    clear c6
    by_cases c7 : 0 ≤ a1
    ·rw [if_pos c7] at H
     have c7b0 : decide (0 ≤ a1) = true := decide_eq_true c7
     clear c7
     by_cases c8 : a1 < (l0.length : Int)
     ·rw [if_pos c8] at H
      have c8b0 : decide (a1 < (l0.length : Int)) = true := decide_eq_true c8
      clear c8
      obtain rfl := Option.some.inj H
      have p135 : 0 ≤ ((ji4) : Int) := of_decide_eq_true (by first | (with_reducible assumption) | assumption)
      have q135 : (ji4) < (l0.length : Int) := of_decide_eq_true (by first | (with_reducible assumption) | assumption)
      obtain ⟨ad135, e135, hx135_0, hx135_1⟩ := at_T43 HR0.out (ji4) p135 q135
      cases e135
      replace p135 := eq_true p135
      replace q135 := eq_true q135
      have p136 : 0 ≤ (a1 : Int) := of_decide_eq_true (by first | (with_reducible assumption) | assumption)
      have q136 : a1 < (l0.length : Int) := of_decide_eq_true (by first | (with_reducible assumption) | assumption)
      obtain ⟨ad136, e136, hx136_0, hx136_1⟩ := at_T43 HR0.out a1 p136 q136
      obtain rfl : ad135 = ad136 := (by injection e136)
      replace p136 := eq_true p136
      replace q136 := eq_true q136
      go_enter Tryz.func95, Tryz.ntmps95
      go_wp2
      repeat (go_quiet (fail); try go_wp2)
      go_ret
      exact ⟨by first | rfl | (simp; done) | (simp only [← hji4] <;> (first | rfl | simp)) | (simp [*]; done), by repeat (first | exact Drawn0.refl _ | apply Drawn0.step)⟩
     ·rw [if_neg c8] at H
      exact absurd H (by simp)
    ·rw [if_neg c7] at H
     exact absurd H (by simp)
   ·rw [if_neg c6] at H
    exact absurd H (by simp)
  ·rw [if_neg c5] at H
   exact absurd H (by simp)

/-! ### spec_LtBullet: function 76 -/
def spec_LtBullet.j0 : Nat → Int → Bool → Bool → Bool → Int → ByteArray → ByteArray → ByteArray → ByteArray → ByteArray → ByteArray → ByteArray → ByteArray → Option (ByteArray)
 | 0, _, _, _, _, _, _, _, _, _, _, _, _, _ => none
 | k + 1, x1, x7, x8, x20, x138000, x138001, x138002, x138003, x138004, x138005, x138006, x138007, x138008 => if x20 = true then (some x138001) else (if x1 = 0 then (some x138002) else (if x7 = true then (if x8 = true then (some x138003) else (some x138004)) else (some x138006)))
def spec_LtBullet.f (k : Nat) (l0 : List (S43)) (a1 : Int) (a2_0 : Int) (a2_1 : ByteArray) (a2_2 : ByteArray) (a2_3 : ByteArray) (a2_4 : ByteArray) (a2_5 : ByteArray) (a2_6 : ByteArray) (a2_7 : ByteArray) (a2_8 : ByteArray) : Option (ByteArray) := if 0 ≤ a1 then (if a1 < (l0.length : Int) then ((spec_LsMore.f k l0 a1 ((rd_T43 l0 a1).f1)).bind fun t139 => ((spec_LsFirst.f l0 a1).bind fun t140 => (if t140 = true then (if t139 = true then (spec_LtBullet.j0 k a1 t139 t140 false a2_0 a2_1 a2_2 a2_3 a2_4 a2_5 a2_6 a2_7 a2_8) else (spec_LtBullet.j0 k a1 t139 t140 (a1 == 0) a2_0 a2_1 a2_2 a2_3 a2_4 a2_5 a2_6 a2_7 a2_8)) else (spec_LtBullet.j0 k a1 t139 t140 false a2_0 a2_1 a2_2 a2_3 a2_4 a2_5 a2_6 a2_7 a2_8)))) else (none)) else (none)
theorem spec_LtBullet.mono_l : ∀ k, (∀ y0 y1 y2 y3 y4 y5 y6 y7 y8 y9 y10 y11 y12, LeO (spec_LtBullet.j0 k y0 y1 y2 y3 y4 y5 y6 y7 y8 y9 y10 y11 y12) (spec_LtBullet.j0 (k + 1) y0 y1 y2 y3 y4 y5 y6 y7 y8 y9 y10 y11 y12))
 | 0 => fun _ _ _ _ _ _ _ _ _ _ _ _ _ r h => by simp [spec_LtBullet.j0] at h
 | k + 1 => by
  have ih0 := spec_LtBullet.mono_l k
  ·intro y0 y1 y2 y3 y4 y5 y6 y7 y8 y9 y10 y11 y12
   unfold spec_LtBullet.j0
   repeat' first
   | (with_reducible exact ih0 _ _ _ _ _ _ _ _ _ _ _ _ _)
   | (with_reducible exact spec_LsMore.mono _ _ _ _)
   | (with_reducible exact LeO.refl _)
   | (with_reducible exact LeO.none _)
   | (with_reducible refine LeO.ite ?_ ?_)
   | (with_reducible refine LeO.bind ?_ (fun _ => ?_))
   | exact ih0 _ _ _ _ _ _ _ _ _ _ _ _ _
   | exact spec_LsMore.mono _ _ _ _
   | exact LeO.none _
   | refine LeO.ite ?_ ?_
   | refine LeO.bind ?_ (fun _ => ?_)
theorem spec_LtBullet.mono : ∀ a0 a1 a2 a3 a4 a5 a6 a7 a8 a9 a10 k, LeO (spec_LtBullet.f k a0 a1 a2 a3 a4 a5 a6 a7 a8 a9 a10) (spec_LtBullet.f (k + 1) a0 a1 a2 a3 a4 a5 a6 a7 a8 a9 a10) := by
 intro a0 a1 a2 a3 a4 a5 a6 a7 a8 a9 a10 k
 have ih0 := spec_LtBullet.mono_l k
 unfold spec_LtBullet.f
 repeat' first
   | (with_reducible exact ih0 _ _ _ _ _ _ _ _ _ _ _ _ _)
   | (with_reducible exact spec_LsMore.mono _ _ _ _)
   | (with_reducible exact LeO.refl _)
   | (with_reducible exact LeO.none _)
   | (with_reducible refine LeO.ite ?_ ?_)
   | (with_reducible refine LeO.bind ?_ (fun _ => ?_))
   | exact ih0 _ _ _ _ _ _ _ _ _ _ _ _ _
   | exact spec_LsMore.mono _ _ _ _
   | exact LeO.none _
   | refine LeO.ite ?_ ?_
   | refine LeO.bind ?_ (fun _ => ?_)
set_option maxHeartbeats 8000000 in
set_option maxRecDepth 100000 in
theorem spec_LtBullet.calls (k : Nat) (A0 : Option Addr) (c0 : Nat) (l0 : List (S43)) (a1 : Int) (a2_0 : Int) (a2_1 : ByteArray) (a2_2 : ByteArray) (a2_3 : ByteArray) (a2_4 : ByteArray) (a2_5 : ByteArray) (a2_6 : ByteArray) (a2_7 : ByteArray) (a2_8 : ByteArray) (r : ByteArray) (w : World) (hr0 : Kd.C k43 w A0 l0.length l0) (hc0 : l0.length ≤ c0) (h : spec_LtBullet.f k l0 a1 a2_0 a2_1 a2_2 a2_3 a2_4 a2_5 a2_6 a2_7 a2_8 = some r) :
  Calls Tryz.prog 76 #[.slice A0 l0.length c0, .int .i64 a1, .agg #[.int .i64 a2_0, .string a2_1, .string a2_2, .string a2_3, .string a2_4, .string a2_5, .string a2_6, .string a2_7, .string a2_8]] w fun e w' => e = .returned (.string r) ∧ Below w.heap.size w w' := by
 have hu24 := Tryz.underlying24
 have HR0 := Aside0.mk hr0
 have HC0 := Aside0.mk hc0
 clear hr0 hc0
 have HB := Aside0.mk (Below.refl w.heap.size w)
 have H : (if 0 ≤ a1 then (if a1 < (l0.length : Int) then ((spec_LsMore.f k l0 a1 ((rd_T43 l0 a1).f1)).bind fun t139 => ((spec_LsFirst.f l0 a1).bind fun t140 => (if t140 = true then (if t139 = true then (spec_LtBullet.j0 k a1 t139 t140 false a2_0 a2_1 a2_2 a2_3 a2_4 a2_5 a2_6 a2_7 a2_8) else (spec_LtBullet.j0 k a1 t139 t140 (a1 == 0) a2_0 a2_1 a2_2 a2_3 a2_4 a2_5 a2_6 a2_7 a2_8)) else (spec_LtBullet.j0 k a1 t139 t140 false a2_0 a2_1 a2_2 a2_3 a2_4 a2_5 a2_6 a2_7 a2_8)))) else (none)) else (none)) = some r := h
 clear h
 by_cases c4 : 0 ≤ a1
 ·rw [if_pos c4] at H
  have c4b0 : decide (0 ≤ a1) = true := decide_eq_true c4
  clear c4
  by_cases c5 : a1 < (l0.length : Int)
  ·rw [if_pos c5] at H
   have c5b0 : decide (a1 < (l0.length : Int)) = true := decide_eq_true c5
   clear c5
   replace H := Option.bind_eq_some_iff.mp H
   obtain ⟨t139, A60, H⟩ := H
   replace H : ((spec_LsFirst.f l0 a1).bind fun t140 => (if t140 = true then (if t139 = true then (spec_LtBullet.j0 k a1 t139 t140 false a2_0 a2_1 a2_2 a2_3 a2_4 a2_5 a2_6 a2_7 a2_8) else (spec_LtBullet.j0 k a1 t139 t140 (a1 == 0) a2_0 a2_1 a2_2 a2_3 a2_4 a2_5 a2_6 a2_7 a2_8)) else (spec_LtBullet.j0 k a1 t139 t140 false a2_0 a2_1 a2_2 a2_3 a2_4 a2_5 a2_6 a2_7 a2_8))) = some r := H
   have A6 := Aside0.mk A60
   clear A60
   replace H := Option.bind_eq_some_iff.mp H
   obtain ⟨t140, A70, H⟩ := H
   replace H : (if t140 = true then (if t139 = true then (spec_LtBullet.j0 k a1 t139 t140 false a2_0 a2_1 a2_2 a2_3 a2_4 a2_5 a2_6 a2_7 a2_8) else (spec_LtBullet.j0 k a1 t139 t140 (a1 == 0) a2_0 a2_1 a2_2 a2_3 a2_4 a2_5 a2_6 a2_7 a2_8)) else (spec_LtBullet.j0 k a1 t139 t140 false a2_0 a2_1 a2_2 a2_3 a2_4 a2_5 a2_6 a2_7 a2_8)) = some r := H
   have A7 := Aside0.mk A70
   clear A70
   have HC8 := Aside0.mk H
   clear H
   go_enter Tryz.func76, Tryz.ntmps76
   go_upto_region 2 with (first | ((with_reducible refine gate_dst (N := 5) rfl ?_); refine box_event ?hg (N := 5) ?hd (cs := #[.int .i64 a2_0, .string a2_1, .string a2_2, .string a2_3, .string a2_4, .string a2_5, .string a2_6, .string a2_7, .string a2_8]) (t := 24) ?hr ?_; (case hd => rfl); (case hg => rfl); (case hr => first | (go_simp; done) | (go_simp; rfl)); intro gb137 hg w9 hbox hb; have n0_ := Aside0.mk (below_step (by repeat (first | (with_reducible first | exact HB.out | apply below_alloc | apply pw_below_drewN | apply below_drew1) | exact HB.out)) hb); have n1_ := Aside0.mk (hbox); have n2_ := Aside0.mk ((by rw [hg]; exact (below_size (by repeat (first | (with_reducible first | exact HB.out | apply below_alloc | apply pw_below_drewN | apply below_drew1) | exact HB.out))) : w.heap.size ≤ gb137)); have n3_ := Aside0.mk ((by rw [hg]; exact (below_size (by repeat (first | (with_reducible first | exact HB.out | apply below_alloc | apply pw_below_drewN | apply below_drew1) | exact HB.out))) : w.heap.size ≤ gb137)); clear HB; have HB := n0_; have BK137 := n1_; have GW137 := n2_; have GE137 := n3_; clear n0_ n1_ n2_ n3_; clear hb hbox hg; have p138 : 0 ≤ (a1 : Int) := of_decide_eq_true (by first | (with_reducible assumption) | assumption); have q138 : a1 < (l0.length : Int) := of_decide_eq_true (by first | (with_reducible assumption) | assumption); obtain ⟨ad138, e138, hx138_0, hx138_1⟩ := at_T43 HR0.out a1 p138 q138; cases e138; replace hx138_0 := (HB.out.cell (World.block_lt_of_cell? w _ hx138_0)).trans hx138_0; replace hx138_1 := (HB.out.cell (World.block_lt_of_cell? w _ hx138_1)).trans hx138_1; replace p138 := eq_true p138; replace q138 := eq_true q138) | ((with_reducible refine gate_callee (f := 24) rfl ?_); refine goesL_ (some 16) rfl rfl Tryz.func24 (by kernel_rfl) rfl #[.slice (some ad138) l0.length c0, .int .i64 a1, .int .i64 ((rd_T43 l0 a1).f1)] rfl (by (try simp only [List.map_toArray, List.map_cons, List.map_nil]); first | done | rfl | (simp only [List.length_drop, List.length_take]; rfl)) ?_; (with_reducible refine (spec_LsMore.calls k _ _ l0 a1 ((rd_T43 l0 a1).f1) t139 _ ?side1 ?side2 A6.out).mono ?_); (case side1 => repeat (first | exact (Kd.C_below HR0.out HB.out) | (with_reducible refine Kd.C_alloc ?_ _) | (with_reducible refine Kd.C_drewN ?_ _) | (with_reducible refine Kd.C_drew ?_))); (case side2 => exact HC0.out); rintro e w10 ⟨rfl, hb⟩; refine ⟨_, rfl, ?_⟩; have n0_ := Aside0.mk (blk_below (g := gb137) (o := .cells #[.int .i64 a2_0, .string a2_1, .string a2_2, .string a2_3, .string a2_4, .string a2_5, .string a2_6, .string a2_7, .string a2_8] 24 (0, 0)) (by (with_reducible repeat (first | refine blk_drewN ?_ _ | refine blk_drew ?_ | refine blk_alloc ?_ _)); exact BK137.out) hb); have n1_ := Aside0.mk (below_step (by repeat (first | (with_reducible first | exact HB.out | apply below_alloc | apply pw_below_drewN | apply below_drew1 | refine below_set ?_ GE137.out) | exact HB.out)) hb); clear BK137; clear HB; have BK137 := n0_; have HB := n1_; clear n0_ n1_; (try clear hb); (try clear hb2); (try clear hk); (try clear hi)) | ((with_reducible refine gate_callee (f := 95) rfl ?_); refine goesL_ (some 19) rfl rfl Tryz.func95 (by kernel_rfl) rfl #[.slice (some ad138) l0.length c0, .int .i64 a1] rfl (by (try simp only [List.map_toArray, List.map_cons, List.map_nil]); first | done | rfl | (simp only [List.length_drop, List.length_take]; rfl)) ?_; (with_reducible refine (spec_LsFirst.calls _ _ l0 a1 t140 _ ?side1 ?side2 A7.out).mono ?_); (case side1 => repeat (first | exact (Kd.C_below HR0.out HB.out) | (with_reducible refine Kd.C_alloc ?_ _) | (with_reducible refine Kd.C_drewN ?_ _) | (with_reducible refine Kd.C_drew ?_))); (case side2 => exact HC0.out); rintro e w' ⟨rfl, ⟨nd, rfl⟩⟩; refine ⟨_, rfl, ?_⟩))
   (try simp only [Act.put, List.setIfInBounds_toArray, List.set_cons_zero, List.set_cons_succ])
   go_cut [20] (fun v20 wc => ∃ (kq : Nat) (x20_7 : Bool), v20 = .bool x20_7 ∧ Aside0 (spec_LtBullet.j0 kq a1 t139 t140 x20_7 a2_0 a2_1 a2_2 a2_3 a2_4 a2_5 a2_6 a2_7 a2_8 = some r) ∧ Aside0 (kq ≤ k) ∧ Aside0 (wc.heap[gb137]? = some (.cells #[.int .i64 a2_0, .string a2_1, .string a2_2, .string a2_3, .string a2_4, .string a2_5, .string a2_6, .string a2_7, .string a2_8] 24 (0, 0))) ∧ Aside0 (Below w.heap.size w wc))
   case first =>
    have H := HC8.out
    clear HC8
    by_cases c11 : t140 = true
    ·subst c11
     have H1 : (if t139 = true then (spec_LtBullet.j0 k a1 t139 true false a2_0 a2_1 a2_2 a2_3 a2_4 a2_5 a2_6 a2_7 a2_8) else (spec_LtBullet.j0 k a1 t139 true (a1 == 0) a2_0 a2_1 a2_2 a2_3 a2_4 a2_5 a2_6 a2_7 a2_8)) = some r := by rw [if_pos rfl] at H; exact H
     clear H
     have H := H1
     clear H1
     by_cases c12 : t139 = true
     ·subst c12
      have H1 : (spec_LtBullet.j0 k a1 true true false a2_0 a2_1 a2_2 a2_3 a2_4 a2_5 a2_6 a2_7 a2_8) = some r := by rw [if_pos rfl] at H; exact H
      clear H
      have H := H1
      clear H1
      have H' := Aside0.mk H
      clear H
      go_wp2
      go_meet
      case rel => exact ⟨_, (false), (by first | rfl | (simp; done) | (simp [*]; done)), H', ⟨by first | omega | exact Nat.le_refl _⟩, ⟨by (with_reducible repeat (first | refine blk_drewN ?_ _ | refine blk_drew ?_ | refine blk_alloc ?_ _)); exact BK137.out⟩, ⟨by repeat (first | (with_reducible first | exact HB.out | apply below_alloc | apply pw_below_drewN | apply below_drew1 | refine below_set ?_ GE137.out) | exact HB.out)⟩⟩
     ·replace c12 := Bool.eq_false_iff.mpr c12
      subst c12
      have H1 : (spec_LtBullet.j0 k a1 false true (a1 == 0) a2_0 a2_1 a2_2 a2_3 a2_4 a2_5 a2_6 a2_7 a2_8) = some r := by rw [if_neg (show ¬ (false = true) by decide)] at H; exact H
      clear H
      have H := H1
      clear H1
      have H' := Aside0.mk H
      clear H
      go_wp2
      go_meet
      case rel => exact ⟨_, ((a1 == 0)), (by first | rfl | (simp; done) | (simp [*]; done)), H', ⟨by first | omega | exact Nat.le_refl _⟩, ⟨by (with_reducible repeat (first | refine blk_drewN ?_ _ | refine blk_drew ?_ | refine blk_alloc ?_ _)); exact BK137.out⟩, ⟨by repeat (first | (with_reducible first | exact HB.out | apply below_alloc | apply pw_below_drewN | apply below_drew1 | refine below_set ?_ GE137.out) | exact HB.out)⟩⟩
    ·replace c11 := Bool.eq_false_iff.mpr c11
     subst c11
     have H1 : (spec_LtBullet.j0 k a1 t139 false false a2_0 a2_1 a2_2 a2_3 a2_4 a2_5 a2_6 a2_7 a2_8) = some r := by rw [if_neg (show ¬ (false = true) by decide)] at H; exact H
     clear H
     have H := H1
     clear H1
     have H' := Aside0.mk H
     clear H
     go_wp2
     go_meet
     case rel => exact ⟨_, (false), (by first | rfl | (simp; done) | (simp [*]; done)), H', ⟨by first | omega | exact Nat.le_refl _⟩, ⟨by (with_reducible repeat (first | refine blk_drewN ?_ _ | refine blk_drew ?_ | refine blk_alloc ?_ _)); exact BK137.out⟩, ⟨by repeat (first | (with_reducible first | exact HB.out | apply below_alloc | apply pw_below_drewN | apply below_drew1 | refine below_set ?_ GE137.out) | exact HB.out)⟩⟩
   case rest =>
    clear HC8
    try clear c1
    try clear p1
    try clear q1
    try clear hx1
    try clear c2
    try clear p2
    try clear c4
    try clear c4b0
    try clear c5
    try clear c5b0
    try clear c7
    try clear c9
    try clear c11
    try clear c12
    try clear hx138_0
    try clear hx138_1
    try clear p138
    try clear q138
    obtain ⟨kq, x20_7, rfl, HA, HJ7, BK137, HB⟩ := hcut
    cases kq with
    | zero => exact absurd HA.out (by simp [spec_LtBullet.j0])
    | succ kj7 =>
     have H := HA.out
     clear HA
     simp only [spec_LtBullet.j0] at H
     by_cases c13 : x20_7 = true
     ·subst c13
      have H1 : (some a2_1) = some r := by rw [if_pos rfl] at H; exact H
      clear H
      have H := H1
      clear H1
      obtain rfl := Option.some.inj H
      have hcz14_0 : wc.cell? ⟨gb137, 0, none⟩ = some (.int .i64 a2_0) := (blk_cell BK137.out 0).trans rfl
      have hcz14_1 : wc.cell? ⟨gb137, 1, none⟩ = some (.string a2_1) := (blk_cell BK137.out 1).trans rfl
      have hcz14_2 : wc.cell? ⟨gb137, 2, none⟩ = some (.string a2_2) := (blk_cell BK137.out 2).trans rfl
      have hcz14_3 : wc.cell? ⟨gb137, 3, none⟩ = some (.string a2_3) := (blk_cell BK137.out 3).trans rfl
      have hcz14_4 : wc.cell? ⟨gb137, 4, none⟩ = some (.string a2_4) := (blk_cell BK137.out 4).trans rfl
      have hcz14_5 : wc.cell? ⟨gb137, 5, none⟩ = some (.string a2_5) := (blk_cell BK137.out 5).trans rfl
      have hcz14_6 : wc.cell? ⟨gb137, 6, none⟩ = some (.string a2_6) := (blk_cell BK137.out 6).trans rfl
      have hcz14_7 : wc.cell? ⟨gb137, 7, none⟩ = some (.string a2_7) := (blk_cell BK137.out 7).trans rfl
      have hcz14_8 : wc.cell? ⟨gb137, 8, none⟩ = some (.string a2_8) := (blk_cell BK137.out 8).trans rfl
      have hfz14_0 := blk_frozen BK137.out 0
      have hfz14_1 := blk_frozen BK137.out 1
      have hfz14_2 := blk_frozen BK137.out 2
      have hfz14_3 := blk_frozen BK137.out 3
      have hfz14_4 := blk_frozen BK137.out 4
      have hfz14_5 := blk_frozen BK137.out 5
      have hfz14_6 := blk_frozen BK137.out 6
      have hfz14_7 := blk_frozen BK137.out 7
      have hfz14_8 := blk_frozen BK137.out 8
      go_wp2
      go_ret
      exact ⟨by first | rfl | (simp [errW_none, errW_some] <;> rfl) | (have e_ : ∀ l_ : List UInt8, (l_ != []) = !l_.isEmpty := fun l_ => (by cases l_ <;> rfl); simp [errW_none, errW_some, e_]; done) | (simp [*, errW_none, errW_some] <;> rfl), by repeat (first | (with_reducible first | exact HB.out | apply below_alloc | apply pw_below_drewN | apply below_drew1 | refine below_set ?_ GE137.out) | exact HB.out)⟩
     ·replace c13 := Bool.eq_false_iff.mpr c13
      subst c13
      have H1 : (if a1 = 0 then (some a2_2) else (if t139 = true then (if t140 = true then (some a2_3) else (some a2_4)) else (some a2_6))) = some r := by rw [if_neg (show ¬ (false = true) by decide)] at H; exact H
      clear H
      have H := H1
      clear H1
      by_cases c15 : a1 = 0
      ·rw [if_pos c15] at H
       have c15b0 : (a1 == 0) = true := beq_iff_eq.mpr c15
       have c15b1 : (a1 != 0) = false := bne_eq_false_iff_eq.mpr c15
       clear c15
       obtain rfl := Option.some.inj H
       have hcz16_0 : wc.cell? ⟨gb137, 0, none⟩ = some (.int .i64 a2_0) := (blk_cell BK137.out 0).trans rfl
       have hcz16_1 : wc.cell? ⟨gb137, 1, none⟩ = some (.string a2_1) := (blk_cell BK137.out 1).trans rfl
       have hcz16_2 : wc.cell? ⟨gb137, 2, none⟩ = some (.string a2_2) := (blk_cell BK137.out 2).trans rfl
       have hcz16_3 : wc.cell? ⟨gb137, 3, none⟩ = some (.string a2_3) := (blk_cell BK137.out 3).trans rfl
       have hcz16_4 : wc.cell? ⟨gb137, 4, none⟩ = some (.string a2_4) := (blk_cell BK137.out 4).trans rfl
       have hcz16_5 : wc.cell? ⟨gb137, 5, none⟩ = some (.string a2_5) := (blk_cell BK137.out 5).trans rfl
       have hcz16_6 : wc.cell? ⟨gb137, 6, none⟩ = some (.string a2_6) := (blk_cell BK137.out 6).trans rfl
       have hcz16_7 : wc.cell? ⟨gb137, 7, none⟩ = some (.string a2_7) := (blk_cell BK137.out 7).trans rfl
       have hcz16_8 : wc.cell? ⟨gb137, 8, none⟩ = some (.string a2_8) := (blk_cell BK137.out 8).trans rfl
       have hfz16_0 := blk_frozen BK137.out 0
       have hfz16_1 := blk_frozen BK137.out 1
       have hfz16_2 := blk_frozen BK137.out 2
       have hfz16_3 := blk_frozen BK137.out 3
       have hfz16_4 := blk_frozen BK137.out 4
       have hfz16_5 := blk_frozen BK137.out 5
       have hfz16_6 := blk_frozen BK137.out 6
       have hfz16_7 := blk_frozen BK137.out 7
       have hfz16_8 := blk_frozen BK137.out 8
       go_wp2
       go_ret
       exact ⟨by first | rfl | (simp [errW_none, errW_some] <;> rfl) | (have e_ : ∀ l_ : List UInt8, (l_ != []) = !l_.isEmpty := fun l_ => (by cases l_ <;> rfl); simp [errW_none, errW_some, e_]; done) | (simp [*, errW_none, errW_some] <;> rfl), by repeat (first | (with_reducible first | exact HB.out | apply below_alloc | apply pw_below_drewN | apply below_drew1 | refine below_set ?_ GE137.out) | exact HB.out)⟩
      ·rw [if_neg c15] at H
       have c15b0 : (a1 == 0) = false := beq_eq_false_iff_ne.mpr c15
       have c15b1 : (a1 != 0) = true := bne_iff_ne.mpr c15
       by_cases c17 : t139 = true
       ·subst c17
        have H1 : (if t140 = true then (some a2_3) else (some a2_4)) = some r := by rw [if_pos rfl] at H; exact H
        clear H
        have H := H1
        clear H1
        by_cases c18 : t140 = true
        ·subst c18
         have H1 : (some a2_3) = some r := by rw [if_pos rfl] at H; exact H
         clear H
         have H := H1
         clear H1
         obtain rfl := Option.some.inj H
         have hcz19_0 : wc.cell? ⟨gb137, 0, none⟩ = some (.int .i64 a2_0) := (blk_cell BK137.out 0).trans rfl
         have hcz19_1 : wc.cell? ⟨gb137, 1, none⟩ = some (.string a2_1) := (blk_cell BK137.out 1).trans rfl
         have hcz19_2 : wc.cell? ⟨gb137, 2, none⟩ = some (.string a2_2) := (blk_cell BK137.out 2).trans rfl
         have hcz19_3 : wc.cell? ⟨gb137, 3, none⟩ = some (.string a2_3) := (blk_cell BK137.out 3).trans rfl
         have hcz19_4 : wc.cell? ⟨gb137, 4, none⟩ = some (.string a2_4) := (blk_cell BK137.out 4).trans rfl
         have hcz19_5 : wc.cell? ⟨gb137, 5, none⟩ = some (.string a2_5) := (blk_cell BK137.out 5).trans rfl
         have hcz19_6 : wc.cell? ⟨gb137, 6, none⟩ = some (.string a2_6) := (blk_cell BK137.out 6).trans rfl
         have hcz19_7 : wc.cell? ⟨gb137, 7, none⟩ = some (.string a2_7) := (blk_cell BK137.out 7).trans rfl
         have hcz19_8 : wc.cell? ⟨gb137, 8, none⟩ = some (.string a2_8) := (blk_cell BK137.out 8).trans rfl
         have hfz19_0 := blk_frozen BK137.out 0
         have hfz19_1 := blk_frozen BK137.out 1
         have hfz19_2 := blk_frozen BK137.out 2
         have hfz19_3 := blk_frozen BK137.out 3
         have hfz19_4 := blk_frozen BK137.out 4
         have hfz19_5 := blk_frozen BK137.out 5
         have hfz19_6 := blk_frozen BK137.out 6
         have hfz19_7 := blk_frozen BK137.out 7
         have hfz19_8 := blk_frozen BK137.out 8
         go_wp2
         go_ret
         exact ⟨by first | rfl | (simp [errW_none, errW_some] <;> rfl) | (have e_ : ∀ l_ : List UInt8, (l_ != []) = !l_.isEmpty := fun l_ => (by cases l_ <;> rfl); simp [errW_none, errW_some, e_]; done) | (simp [*, errW_none, errW_some] <;> rfl), by repeat (first | (with_reducible first | exact HB.out | apply below_alloc | apply pw_below_drewN | apply below_drew1 | refine below_set ?_ GE137.out) | exact HB.out)⟩
        ·replace c18 := Bool.eq_false_iff.mpr c18
         subst c18
         have H1 : (some a2_4) = some r := by rw [if_neg (show ¬ (false = true) by decide)] at H; exact H
         clear H
         have H := H1
         clear H1
         obtain rfl := Option.some.inj H
         have hcz20_0 : wc.cell? ⟨gb137, 0, none⟩ = some (.int .i64 a2_0) := (blk_cell BK137.out 0).trans rfl
         have hcz20_1 : wc.cell? ⟨gb137, 1, none⟩ = some (.string a2_1) := (blk_cell BK137.out 1).trans rfl
         have hcz20_2 : wc.cell? ⟨gb137, 2, none⟩ = some (.string a2_2) := (blk_cell BK137.out 2).trans rfl
         have hcz20_3 : wc.cell? ⟨gb137, 3, none⟩ = some (.string a2_3) := (blk_cell BK137.out 3).trans rfl
         have hcz20_4 : wc.cell? ⟨gb137, 4, none⟩ = some (.string a2_4) := (blk_cell BK137.out 4).trans rfl
         have hcz20_5 : wc.cell? ⟨gb137, 5, none⟩ = some (.string a2_5) := (blk_cell BK137.out 5).trans rfl
         have hcz20_6 : wc.cell? ⟨gb137, 6, none⟩ = some (.string a2_6) := (blk_cell BK137.out 6).trans rfl
         have hcz20_7 : wc.cell? ⟨gb137, 7, none⟩ = some (.string a2_7) := (blk_cell BK137.out 7).trans rfl
         have hcz20_8 : wc.cell? ⟨gb137, 8, none⟩ = some (.string a2_8) := (blk_cell BK137.out 8).trans rfl
         have hfz20_0 := blk_frozen BK137.out 0
         have hfz20_1 := blk_frozen BK137.out 1
         have hfz20_2 := blk_frozen BK137.out 2
         have hfz20_3 := blk_frozen BK137.out 3
         have hfz20_4 := blk_frozen BK137.out 4
         have hfz20_5 := blk_frozen BK137.out 5
         have hfz20_6 := blk_frozen BK137.out 6
         have hfz20_7 := blk_frozen BK137.out 7
         have hfz20_8 := blk_frozen BK137.out 8
         go_wp2
         go_ret
         exact ⟨by first | rfl | (simp [errW_none, errW_some] <;> rfl) | (have e_ : ∀ l_ : List UInt8, (l_ != []) = !l_.isEmpty := fun l_ => (by cases l_ <;> rfl); simp [errW_none, errW_some, e_]; done) | (simp [*, errW_none, errW_some] <;> rfl), by repeat (first | (with_reducible first | exact HB.out | apply below_alloc | apply pw_below_drewN | apply below_drew1 | refine below_set ?_ GE137.out) | exact HB.out)⟩
       ·replace c17 := Bool.eq_false_iff.mpr c17
        subst c17
        have H1 : (some a2_6) = some r := by rw [if_neg (show ¬ (false = true) by decide)] at H; exact H
        clear H
        have H := H1
        clear H1
        obtain rfl := Option.some.inj H
        have hcz21_0 : wc.cell? ⟨gb137, 0, none⟩ = some (.int .i64 a2_0) := (blk_cell BK137.out 0).trans rfl
        have hcz21_1 : wc.cell? ⟨gb137, 1, none⟩ = some (.string a2_1) := (blk_cell BK137.out 1).trans rfl
        have hcz21_2 : wc.cell? ⟨gb137, 2, none⟩ = some (.string a2_2) := (blk_cell BK137.out 2).trans rfl
        have hcz21_3 : wc.cell? ⟨gb137, 3, none⟩ = some (.string a2_3) := (blk_cell BK137.out 3).trans rfl
        have hcz21_4 : wc.cell? ⟨gb137, 4, none⟩ = some (.string a2_4) := (blk_cell BK137.out 4).trans rfl
        have hcz21_5 : wc.cell? ⟨gb137, 5, none⟩ = some (.string a2_5) := (blk_cell BK137.out 5).trans rfl
        have hcz21_6 : wc.cell? ⟨gb137, 6, none⟩ = some (.string a2_6) := (blk_cell BK137.out 6).trans rfl
        have hcz21_7 : wc.cell? ⟨gb137, 7, none⟩ = some (.string a2_7) := (blk_cell BK137.out 7).trans rfl
        have hcz21_8 : wc.cell? ⟨gb137, 8, none⟩ = some (.string a2_8) := (blk_cell BK137.out 8).trans rfl
        have hfz21_0 := blk_frozen BK137.out 0
        have hfz21_1 := blk_frozen BK137.out 1
        have hfz21_2 := blk_frozen BK137.out 2
        have hfz21_3 := blk_frozen BK137.out 3
        have hfz21_4 := blk_frozen BK137.out 4
        have hfz21_5 := blk_frozen BK137.out 5
        have hfz21_6 := blk_frozen BK137.out 6
        have hfz21_7 := blk_frozen BK137.out 7
        have hfz21_8 := blk_frozen BK137.out 8
        go_wp2
        go_ret
        exact ⟨by first | rfl | (simp [errW_none, errW_some] <;> rfl) | (have e_ : ∀ l_ : List UInt8, (l_ != []) = !l_.isEmpty := fun l_ => (by cases l_ <;> rfl); simp [errW_none, errW_some, e_]; done) | (simp [*, errW_none, errW_some] <;> rfl), by repeat (first | (with_reducible first | exact HB.out | apply below_alloc | apply pw_below_drewN | apply below_drew1 | refine below_set ?_ GE137.out) | exact HB.out)⟩
  ·rw [if_neg c5] at H
   exact absurd H (by simp)
 ·rw [if_neg c4] at H
  exact absurd H (by simp)

end Go.Proofs.YtejjjenjnfaopaaGreatDoor.P
