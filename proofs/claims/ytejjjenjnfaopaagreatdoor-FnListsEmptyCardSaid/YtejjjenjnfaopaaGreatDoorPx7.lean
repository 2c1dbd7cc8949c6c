/- Printed by a program of this session (pf.sh): Go functions as Lean functions, with their contracts. -/
import Derived.Test.YtejjjenjnfaopaaGreatDoorPx0
import Derived.Test.YtejjjenjnfaopaaGreatDoorPx2
import Derived.Test.YtejjjenjnfaopaaGreatDoorPx3
import Derived.Test.YtejjjenjnfaopaaGreatDoorFf
import Derived.Test.YtejjjenjnfaopaaGreatDoorFz
namespace Go.Proofs.YtejjjenjnfaopaaGreatDoor.P
open Go.RowKit Go.Proofs.YtejjjenjnfaopaaGreatDoorW.PrintWords Go.Proofs.YtejjjenjnfaopaaGreatDoorW.PrintLast Go.Proofs.YtejjjenjnfaopaaGreatDoorW.PrintMore
attribute [local go_sem] max2_int min2_int max_two min_two max_three min_three max_four min_four   -- for this text's walks alone
set_option linter.unusedVariables false
set_option linter.unusedSimpArgs false

/-! ### laws_FnListsEmpty: function 4 -/
mutual
def laws_FnListsEmpty.j0 : Nat → List (S50) → ByteArray → Bool → Int → ByteArray → ByteArray → ByteArray → ByteArray → ByteArray → ByteArray → ByteArray → ByteArray → Option (Bool)
  | 0, _, _, _, _, _, _, _, _, _, _, _, _ => none
  | k + 1, x0, x2, x19, x198000, x198001, x198002, x198003, x198004, x198005, x198006, x198007, x198008 => if x19 = true then (some true) else ((spec_LtRight.f k x0).bind fun t200 => (if t200 = true then ((spec_LtPlayed.f k x0).bind fun t201 => (if (t201.length : Int) > 0 then (laws_FnListsEmpty.j1 k x0 x2 true x198000 x198001 x198002 x198003 x198004 x198005 x198006 x198007 x198008) else ((spec_LtStyled.f x198000 x198001 x198002 x198003 x198004 x198005 x198006 x198007 x198008).bind fun t204 => (if t204 = true then (laws_FnListsEmpty.j1 k x0 x2 (decide ((x2.size : Int) > 60)) x198000 x198001 x198002 x198003 x198004 x198005 x198006 x198007 x198008) else (laws_FnListsEmpty.j1 k x0 x2 true x198000 x198001 x198002 x198003 x198004 x198005 x198006 x198007 x198008))))) else (laws_FnListsEmpty.j1 k x0 x2 true x198000 x198001 x198002 x198003 x198004 x198005 x198006 x198007 x198008)))
def laws_FnListsEmpty.j1 : Nat → List (S50) → ByteArray → Bool → Int → ByteArray → ByteArray → ByteArray → ByteArray → ByteArray → ByteArray → ByteArray → ByteArray → Option (Bool)
  | 0, _, _, _, _, _, _, _, _, _, _, _, _ => none
  | k + 1, x0, x2, x38, x198000, x198001, x198002, x198003, x198004, x198005, x198006, x198007, x198008 => if x38 = true then (some true) else ((impl_ListRender.f x0 x198000 x198001 x198002 x198003 x198004 x198005 x198006 x198007 x198008).bind fun t205 => (if t205.toList = ([] : List UInt8) then ((impl_ListPlain.f x0).bind fun t206 => (if t206.toList = ([] : List UInt8) then ((impl_ListMarkdown.f x0 x198000 x198001 x198002 x198003 x198004 x198005 x198006 x198007 x198008).bind fun t207 => (if t207.toList = ([] : List UInt8) then ((impl_ListHTML.f x0 x2).bind fun t208 => (if t208.toList = ([] : List UInt8) then ((impl_ListLength.f x0).bind fun t209 => (if t209 = 0 then ((laws_ltAlive.f).bind fun t210 => (some t210)) else (some false))) else (some false))) else (some false))) else (some false))) else (some false)))
end
def laws_FnListsEmpty.f (k : Nat) (l0 : List (S50)) (a1_0 : Int) (a1_1 : ByteArray) (a1_2 : ByteArray) (a1_3 : ByteArray) (a1_4 : ByteArray) (a1_5 : ByteArray) (a1_6 : ByteArray) (a1_7 : ByteArray) (a1_8 : ByteArray) (a2 : ByteArray) : Option (Bool) := (laws_zzFits11.f k l0).bind fun t198 => (if t198 = true then ((laws_zzFits14.f a1_0 a1_1 a1_2 a1_3 a1_4 a1_5 a1_6 a1_7 a1_8).bind fun t199 => (if t199 = true then (laws_FnListsEmpty.j0 k l0 a2 (decide ((a2.size : Int) > 2147483647)) a1_0 a1_1 a1_2 a1_3 a1_4 a1_5 a1_6 a1_7 a1_8) else (laws_FnListsEmpty.j0 k l0 a2 true a1_0 a1_1 a1_2 a1_3 a1_4 a1_5 a1_6 a1_7 a1_8))) else (laws_FnListsEmpty.j0 k l0 a2 true a1_0 a1_1 a1_2 a1_3 a1_4 a1_5 a1_6 a1_7 a1_8))
theorem laws_FnListsEmpty.mono_l : ∀ k, (∀ y0 y1 y2 y3 y4 y5 y6 y7 y8 y9 y10 y11, LeO (laws_FnListsEmpty.j0 k y0 y1 y2 y3 y4 y5 y6 y7 y8 y9 y10 y11) (laws_FnListsEmpty.j0 (k + 1) y0 y1 y2 y3 y4 y5 y6 y7 y8 y9 y10 y11)) ∧ (∀ y0 y1 y2 y3 y4 y5 y6 y7 y8 y9 y10 y11, LeO (laws_FnListsEmpty.j1 k y0 y1 y2 y3 y4 y5 y6 y7 y8 y9 y10 y11) (laws_FnListsEmpty.j1 (k + 1) y0 y1 y2 y3 y4 y5 y6 y7 y8 y9 y10 y11))
  | 0 => ⟨fun _ _ _ _ _ _ _ _ _ _ _ _ r h => by simp [laws_FnListsEmpty.j0] at h, fun _ _ _ _ _ _ _ _ _ _ _ _ r h => by simp [laws_FnListsEmpty.j1] at h⟩
  | k + 1 => by
    obtain ⟨ih0, ih1⟩ := laws_FnListsEmpty.mono_l k
    refine ⟨?_, ?_⟩
    · intro y0 y1 y2 y3 y4 y5 y6 y7 y8 y9 y10 y11
      unfold laws_FnListsEmpty.j0
      repeat' first
      | (with_reducible exact ih0 _ _ _ _ _ _ _ _ _ _ _ _)
      | (with_reducible exact ih1 _ _ _ _ _ _ _ _ _ _ _ _)
      | (with_reducible exact laws_zzFits11.mono _ _)
      | (with_reducible exact spec_LtPlayed.mono _ _)
      | (with_reducible exact spec_LtRight.mono _ _)
      | (with_reducible exact LeO.refl _)
      | (with_reducible exact LeO.none _)
      | (with_reducible refine LeO.ite ?_ ?_)
      | (with_reducible refine LeO.bind ?_ (fun _ => ?_))
      | exact ih0 _ _ _ _ _ _ _ _ _ _ _ _
      | exact ih1 _ _ _ _ _ _ _ _ _ _ _ _
      | exact laws_zzFits11.mono _ _
      | exact spec_LtPlayed.mono _ _
      | exact spec_LtRight.mono _ _
      | exact LeO.none _
      | refine LeO.ite ?_ ?_
      | refine LeO.bind ?_ (fun _ => ?_)
    · intro y0 y1 y2 y3 y4 y5 y6 y7 y8 y9 y10 y11
      unfold laws_FnListsEmpty.j1
      repeat' first
      | (with_reducible exact ih0 _ _ _ _ _ _ _ _ _ _ _ _)
      | (with_reducible exact ih1 _ _ _ _ _ _ _ _ _ _ _ _)
      | (with_reducible exact laws_zzFits11.mono _ _)
      | (with_reducible exact spec_LtPlayed.mono _ _)
      | (with_reducible exact spec_LtRight.mono _ _)
      | (with_reducible exact LeO.refl _)
      | (with_reducible exact LeO.none _)
      | (with_reducible refine LeO.ite ?_ ?_)
      | (with_reducible refine LeO.bind ?_ (fun _ => ?_))
      | exact ih0 _ _ _ _ _ _ _ _ _ _ _ _
      | exact ih1 _ _ _ _ _ _ _ _ _ _ _ _
      | exact laws_zzFits11.mono _ _
      | exact spec_LtPlayed.mono _ _
      | exact spec_LtRight.mono _ _
      | exact LeO.none _
      | refine LeO.ite ?_ ?_
      | refine LeO.bind ?_ (fun _ => ?_)
theorem laws_FnListsEmpty.mono : ∀ a0 a1 a2 a3 a4 a5 a6 a7 a8 a9 a10 k, LeO (laws_FnListsEmpty.f k a0 a1 a2 a3 a4 a5 a6 a7 a8 a9 a10) (laws_FnListsEmpty.f (k + 1) a0 a1 a2 a3 a4 a5 a6 a7 a8 a9 a10) := by
  intro a0 a1 a2 a3 a4 a5 a6 a7 a8 a9 a10 k
  obtain ⟨ih0, ih1⟩ := laws_FnListsEmpty.mono_l k
  unfold laws_FnListsEmpty.f
  repeat' first
      | (with_reducible exact ih0 _ _ _ _ _ _ _ _ _ _ _ _)
      | (with_reducible exact ih1 _ _ _ _ _ _ _ _ _ _ _ _)
      | (with_reducible exact laws_zzFits11.mono _ _)
      | (with_reducible exact spec_LtPlayed.mono _ _)
      | (with_reducible exact spec_LtRight.mono _ _)
      | (with_reducible exact LeO.refl _)
      | (with_reducible exact LeO.none _)
      | (with_reducible refine LeO.ite ?_ ?_)
      | (with_reducible refine LeO.bind ?_ (fun _ => ?_))
      | exact ih0 _ _ _ _ _ _ _ _ _ _ _ _
      | exact ih1 _ _ _ _ _ _ _ _ _ _ _ _
      | exact laws_zzFits11.mono _ _
      | exact spec_LtPlayed.mono _ _
      | exact spec_LtRight.mono _ _
      | exact LeO.none _
      | refine LeO.ite ?_ ?_
      | refine LeO.bind ?_ (fun _ => ?_)
set_option maxHeartbeats 8000000 in
set_option maxRecDepth 100000 in
theorem laws_FnListsEmpty.calls (k : Nat) (A0 : Option Addr) (c0 : Nat) (l0 : List (S50)) (a1_0 : Int) (a1_1 : ByteArray) (a1_2 : ByteArray) (a1_3 : ByteArray) (a1_4 : ByteArray) (a1_5 : ByteArray) (a1_6 : ByteArray) (a1_7 : ByteArray) (a1_8 : ByteArray) (a2 : ByteArray) (r : Bool) (w : World) (hr0 : Kd.C k50 w A0 l0.length l0) (hc0 : l0.length ≤ c0) (h : laws_FnListsEmpty.f k l0 a1_0 a1_1 a1_2 a1_3 a1_4 a1_5 a1_6 a1_7 a1_8 a2 = some r) :
    Calls Tryz.prog 4 #[.slice A0 l0.length c0, .agg #[.int .i64 a1_0, .string a1_1, .string a1_2, .string a1_3, .string a1_4, .string a1_5, .string a1_6, .string a1_7, .string a1_8], .string a2] w fun e w' => e = .returned (.bool r) ∧ Below w.heap.size w w' := by
  have hu24 := Tryz.underlying24
  have HR0 := Aside0.mk hr0
  have HC0 := Aside0.mk hc0
  clear hr0 hc0
  have HB := Aside0.mk (Below.refl w.heap.size w)
  have H : ((laws_zzFits11.f k l0).bind fun t198 => (if t198 = true then ((laws_zzFits14.f a1_0 a1_1 a1_2 a1_3 a1_4 a1_5 a1_6 a1_7 a1_8).bind fun t199 => (if t199 = true then (laws_FnListsEmpty.j0 k l0 a2 (decide ((a2.size : Int) > 2147483647)) a1_0 a1_1 a1_2 a1_3 a1_4 a1_5 a1_6 a1_7 a1_8) else (laws_FnListsEmpty.j0 k l0 a2 true a1_0 a1_1 a1_2 a1_3 a1_4 a1_5 a1_6 a1_7 a1_8))) else (laws_FnListsEmpty.j0 k l0 a2 true a1_0 a1_1 a1_2 a1_3 a1_4 a1_5 a1_6 a1_7 a1_8))) = some r := h
  clear h
  have HC4 := Aside0.mk H
  clear H
  go_enter Tryz.func4, Tryz.ntmps4
  go_upto_region 1 with (first | ((with_reducible refine gate_dst (N := 4) rfl ?_); (try (refine gate_guard (by rfl) ?_; dsimp only)); refine box_event ?hg (N := 4) ?hd (cs := #[.int .i64 a1_0, .string a1_1, .string a1_2, .string a1_3, .string a1_4, .string a1_5, .string a1_6, .string a1_7, .string a1_8]) (t := 24) ?hr ?_; (case hd => rfl); (case hg => rfl); (case hr => first | (go_simp; done) | (go_simp; rfl)); intro gb197 hg w5 hbox hb; have n0_ := Aside0.mk (below_step (by repeat (first | (with_reducible first | exact HB.out | apply below_alloc | apply pw_below_drewN | apply below_drew1) | exact HB.out)) hb); have n1_ := Aside0.mk (hbox); have n2_ := Aside0.mk ((by rw [hg]; exact (below_size (by repeat (first | (with_reducible first | exact HB.out | apply below_alloc | apply pw_below_drewN | apply below_drew1) | exact HB.out))) : w.heap.size ≤ gb197)); have n3_ := Aside0.mk ((by rw [hg]; exact (below_size (by repeat (first | (with_reducible first | exact HB.out | apply below_alloc | apply pw_below_drewN | apply below_drew1) | exact HB.out))) : w.heap.size ≤ gb197)); clear HB; have HB := n0_; have BK197 := n1_; have GW197 := n2_; have GE197 := n3_; clear n0_ n1_ n2_ n3_; clear hb hbox hg))
  (try simp only [Act.put, List.setIfInBounds_toArray, List.set_cons_zero, List.set_cons_succ])
  go_cut [19] (fun v19 wc => ∃ (kq : Nat) (x19_3 : Bool), v19 = .bool x19_3 ∧ Aside0 (laws_FnListsEmpty.j0 kq l0 a2 x19_3 a1_0 a1_1 a1_2 a1_3 a1_4 a1_5 a1_6 a1_7 a1_8 = some r) ∧ Aside0 (kq ≤ k) ∧ Aside0 (wc.heap[gb197]? = some (.cells #[.int .i64 a1_0, .string a1_1, .string a1_2, .string a1_3, .string a1_4, .string a1_5, .string a1_6, .string a1_7, .string a1_8] 24 (0, 0))) ∧ Aside0 (Below w.heap.size w wc))
  case first =>
    have H := HC4.out
    clear HC4
    replace H := Option.bind_eq_some_iff.mp H
    obtain ⟨t198, A60, H⟩ := H
    replace H : (if t198 = true then ((laws_zzFits14.f a1_0 a1_1 a1_2 a1_3 a1_4 a1_5 a1_6 a1_7 a1_8).bind fun t199 => (if t199 = true then (laws_FnListsEmpty.j0 k l0 a2 (decide ((a2.size : Int) > 2147483647)) a1_0 a1_1 a1_2 a1_3 a1_4 a1_5 a1_6 a1_7 a1_8) else (laws_FnListsEmpty.j0 k l0 a2 true a1_0 a1_1 a1_2 a1_3 a1_4 a1_5 a1_6 a1_7 a1_8))) else (laws_FnListsEmpty.j0 k l0 a2 true a1_0 a1_1 a1_2 a1_3 a1_4 a1_5 a1_6 a1_7 a1_8)) = some r := H
    have A6 := Aside0.mk A60
    clear A60
    by_cases c7 : t198 = true
    · subst c7
      have H1 : ((laws_zzFits14.f a1_0 a1_1 a1_2 a1_3 a1_4 a1_5 a1_6 a1_7 a1_8).bind fun t199 => (if t199 = true then (laws_FnListsEmpty.j0 k l0 a2 (decide ((a2.size : Int) > 2147483647)) a1_0 a1_1 a1_2 a1_3 a1_4 a1_5 a1_6 a1_7 a1_8) else (laws_FnListsEmpty.j0 k l0 a2 true a1_0 a1_1 a1_2 a1_3 a1_4 a1_5 a1_6 a1_7 a1_8))) = some r := by rw [if_pos rfl] at H; exact H
      clear H
      have H := H1
      clear H1
      replace H := Option.bind_eq_some_iff.mp H
      obtain ⟨t199, A80, H⟩ := H
      replace H : (if t199 = true then (laws_FnListsEmpty.j0 k l0 a2 (decide ((a2.size : Int) > 2147483647)) a1_0 a1_1 a1_2 a1_3 a1_4 a1_5 a1_6 a1_7 a1_8) else (laws_FnListsEmpty.j0 k l0 a2 true a1_0 a1_1 a1_2 a1_3 a1_4 a1_5 a1_6 a1_7 a1_8)) = some r := H
      have A8 := Aside0.mk A80
      clear A80
      by_cases c9 : t199 = true
      · subst c9
        have H1 : (laws_FnListsEmpty.j0 k l0 a2 (decide ((a2.size : Int) > 2147483647)) a1_0 a1_1 a1_2 a1_3 a1_4 a1_5 a1_6 a1_7 a1_8) = some r := by rw [if_pos rfl] at H; exact H
        clear H
        have H := H1
        clear H1
        have H' := Aside0.mk H
        clear H
        go_wp2_with (first | ((with_reducible refine gate_callee (f := 6) rfl ?_); refine goesL_ (some 8) rfl rfl Tryz.func6 (by kernel_rfl) rfl #[.slice A0 l0.length c0] rfl (by (try simp only [List.map_toArray, List.map_cons, List.map_nil]); first | done | rfl | (simp only [List.length_drop, List.length_take]; rfl)) ?_; (with_reducible refine (laws_zzFits11.calls k _ _ l0 true _ ?side1 ?side2 A6.out).mono ?_); (case side1 => repeat (first | exact (Kd.C_below HR0.out HB.out) | (with_reducible refine Kd.C_alloc ?_ _) | (with_reducible refine Kd.C_drewN ?_ _) | (with_reducible refine Kd.C_drew ?_))); (case side2 => exact HC0.out); rintro e w10 ⟨rfl, hb⟩; refine ⟨_, rfl, ?_⟩; have n0_ := Aside0.mk (blk_below (g := gb197) (o := .cells #[.int .i64 a1_0, .string a1_1, .string a1_2, .string a1_3, .string a1_4, .string a1_5, .string a1_6, .string a1_7, .string a1_8] 24 (0, 0)) (by (with_reducible repeat (first | refine blk_drewN ?_ _ | refine blk_drew ?_ | refine blk_alloc ?_ _)); exact BK197.out) hb); have n1_ := Aside0.mk (below_step (by repeat (first | (with_reducible first | exact HB.out | apply below_alloc | apply pw_below_drewN | apply below_drew1 | refine below_set ?_ GE197.out) | exact HB.out)) hb); clear BK197; clear HB; have BK197 := n0_; have HB := n1_; clear n0_ n1_; (try clear hb); (try clear hb2); (try clear hk); (try clear hi); have hcz11_0 : w10.cell? ⟨gb197, 0, none⟩ = some (.int .i64 a1_0) := (blk_cell BK197.out 0).trans rfl; have hcz11_1 : w10.cell? ⟨gb197, 1, none⟩ = some (.string a1_1) := (blk_cell BK197.out 1).trans rfl; have hcz11_2 : w10.cell? ⟨gb197, 2, none⟩ = some (.string a1_2) := (blk_cell BK197.out 2).trans rfl; have hcz11_3 : w10.cell? ⟨gb197, 3, none⟩ = some (.string a1_3) := (blk_cell BK197.out 3).trans rfl; have hcz11_4 : w10.cell? ⟨gb197, 4, none⟩ = some (.string a1_4) := (blk_cell BK197.out 4).trans rfl; have hcz11_5 : w10.cell? ⟨gb197, 5, none⟩ = some (.string a1_5) := (blk_cell BK197.out 5).trans rfl; have hcz11_6 : w10.cell? ⟨gb197, 6, none⟩ = some (.string a1_6) := (blk_cell BK197.out 6).trans rfl; have hcz11_7 : w10.cell? ⟨gb197, 7, none⟩ = some (.string a1_7) := (blk_cell BK197.out 7).trans rfl; have hcz11_8 : w10.cell? ⟨gb197, 8, none⟩ = some (.string a1_8) := (blk_cell BK197.out 8).trans rfl; have hfz11_0 := blk_frozen BK197.out 0; have hfz11_1 := blk_frozen BK197.out 1; have hfz11_2 := blk_frozen BK197.out 2; have hfz11_3 := blk_frozen BK197.out 3; have hfz11_4 := blk_frozen BK197.out 4; have hfz11_5 := blk_frozen BK197.out 5; have hfz11_6 := blk_frozen BK197.out 6; have hfz11_7 := blk_frozen BK197.out 7; have hfz11_8 := blk_frozen BK197.out 8) | (go_at_call 7; (with_reducible refine (laws_zzFits14.calls a1_0 a1_1 a1_2 a1_3 a1_4 a1_5 a1_6 a1_7 a1_8 true _ A8.out).mono ?_); rintro e w12 ⟨rfl, hb⟩; have n0_ := Aside0.mk (blk_below (g := gb197) (o := .cells #[.int .i64 a1_0, .string a1_1, .string a1_2, .string a1_3, .string a1_4, .string a1_5, .string a1_6, .string a1_7, .string a1_8] 24 (0, 0)) (by (with_reducible repeat (first | refine blk_drewN ?_ _ | refine blk_drew ?_ | refine blk_alloc ?_ _)); exact BK197.out) hb); have n1_ := Aside0.mk (below_step (by repeat (first | (with_reducible first | exact HB.out | apply below_alloc | apply pw_below_drewN | apply below_drew1 | refine below_set ?_ GE197.out) | exact HB.out)) hb); clear BK197; clear HB; have BK197 := n0_; have HB := n1_; clear n0_ n1_; (try clear hb); (try clear hb2); (try clear hk); (try clear hi)))
        go_meet
        case rel => exact ⟨_, (decide ((a2.size : Int) > 2147483647)), (by first | rfl | (simp; done) | (simp [*]; done)), H', ⟨by first | omega | exact Nat.le_refl _⟩, ⟨by (with_reducible repeat (first | refine blk_drewN ?_ _ | refine blk_drew ?_ | refine blk_alloc ?_ _)); exact BK197.out⟩, ⟨by repeat (first | (with_reducible first | exact HB.out | apply below_alloc | apply pw_below_drewN | apply below_drew1 | refine below_set ?_ GE197.out) | exact HB.out)⟩⟩
      · replace c9 := Bool.eq_false_iff.mpr c9
        subst c9
        have H1 : (laws_FnListsEmpty.j0 k l0 a2 true a1_0 a1_1 a1_2 a1_3 a1_4 a1_5 a1_6 a1_7 a1_8) = some r := by rw [if_neg (show ¬ (false = true) by decide)] at H; exact H
        clear H
        have H := H1
        clear H1
        have H' := Aside0.mk H
        clear H
        go_wp2_with (first | ((with_reducible refine gate_callee (f := 6) rfl ?_); refine goesL_ (some 8) rfl rfl Tryz.func6 (by kernel_rfl) rfl #[.slice A0 l0.length c0] rfl (by (try simp only [List.map_toArray, List.map_cons, List.map_nil]); first | done | rfl | (simp only [List.length_drop, List.length_take]; rfl)) ?_; (with_reducible refine (laws_zzFits11.calls k _ _ l0 true _ ?side1 ?side2 A6.out).mono ?_); (case side1 => repeat (first | exact (Kd.C_below HR0.out HB.out) | (with_reducible refine Kd.C_alloc ?_ _) | (with_reducible refine Kd.C_drewN ?_ _) | (with_reducible refine Kd.C_drew ?_))); (case side2 => exact HC0.out); rintro e w13 ⟨rfl, hb⟩; refine ⟨_, rfl, ?_⟩; have n0_ := Aside0.mk (blk_below (g := gb197) (o := .cells #[.int .i64 a1_0, .string a1_1, .string a1_2, .string a1_3, .string a1_4, .string a1_5, .string a1_6, .string a1_7, .string a1_8] 24 (0, 0)) (by (with_reducible repeat (first | refine blk_drewN ?_ _ | refine blk_drew ?_ | refine blk_alloc ?_ _)); exact BK197.out) hb); have n1_ := Aside0.mk (below_step (by repeat (first | (with_reducible first | exact HB.out | apply below_alloc | apply pw_below_drewN | apply below_drew1 | refine below_set ?_ GE197.out) | exact HB.out)) hb); clear BK197; clear HB; have BK197 := n0_; have HB := n1_; clear n0_ n1_; (try clear hb); (try clear hb2); (try clear hk); (try clear hi); have hcz14_0 : w13.cell? ⟨gb197, 0, none⟩ = some (.int .i64 a1_0) := (blk_cell BK197.out 0).trans rfl; have hcz14_1 : w13.cell? ⟨gb197, 1, none⟩ = some (.string a1_1) := (blk_cell BK197.out 1).trans rfl; have hcz14_2 : w13.cell? ⟨gb197, 2, none⟩ = some (.string a1_2) := (blk_cell BK197.out 2).trans rfl; have hcz14_3 : w13.cell? ⟨gb197, 3, none⟩ = some (.string a1_3) := (blk_cell BK197.out 3).trans rfl; have hcz14_4 : w13.cell? ⟨gb197, 4, none⟩ = some (.string a1_4) := (blk_cell BK197.out 4).trans rfl; have hcz14_5 : w13.cell? ⟨gb197, 5, none⟩ = some (.string a1_5) := (blk_cell BK197.out 5).trans rfl; have hcz14_6 : w13.cell? ⟨gb197, 6, none⟩ = some (.string a1_6) := (blk_cell BK197.out 6).trans rfl; have hcz14_7 : w13.cell? ⟨gb197, 7, none⟩ = some (.string a1_7) := (blk_cell BK197.out 7).trans rfl; have hcz14_8 : w13.cell? ⟨gb197, 8, none⟩ = some (.string a1_8) := (blk_cell BK197.out 8).trans rfl; have hfz14_0 := blk_frozen BK197.out 0; have hfz14_1 := blk_frozen BK197.out 1; have hfz14_2 := blk_frozen BK197.out 2; have hfz14_3 := blk_frozen BK197.out 3; have hfz14_4 := blk_frozen BK197.out 4; have hfz14_5 := blk_frozen BK197.out 5; have hfz14_6 := blk_frozen BK197.out 6; have hfz14_7 := blk_frozen BK197.out 7; have hfz14_8 := blk_frozen BK197.out 8) | (go_at_call 7; (with_reducible refine (laws_zzFits14.calls a1_0 a1_1 a1_2 a1_3 a1_4 a1_5 a1_6 a1_7 a1_8 false _ A8.out).mono ?_); rintro e w15 ⟨rfl, hb⟩; have n0_ := Aside0.mk (blk_below (g := gb197) (o := .cells #[.int .i64 a1_0, .string a1_1, .string a1_2, .string a1_3, .string a1_4, .string a1_5, .string a1_6, .string a1_7, .string a1_8] 24 (0, 0)) (by (with_reducible repeat (first | refine blk_drewN ?_ _ | refine blk_drew ?_ | refine blk_alloc ?_ _)); exact BK197.out) hb); have n1_ := Aside0.mk (below_step (by repeat (first | (with_reducible first | exact HB.out | apply below_alloc | apply pw_below_drewN | apply below_drew1 | refine below_set ?_ GE197.out) | exact HB.out)) hb); clear BK197; clear HB; have BK197 := n0_; have HB := n1_; clear n0_ n1_; (try clear hb); (try clear hb2); (try clear hk); (try clear hi)))
        go_meet
        case rel => exact ⟨_, (true), (by first | rfl | (simp; done) | (simp [*]; done)), H', ⟨by first | omega | exact Nat.le_refl _⟩, ⟨by (with_reducible repeat (first | refine blk_drewN ?_ _ | refine blk_drew ?_ | refine blk_alloc ?_ _)); exact BK197.out⟩, ⟨by repeat (first | (with_reducible first | exact HB.out | apply below_alloc | apply pw_below_drewN | apply below_drew1 | refine below_set ?_ GE197.out) | exact HB.out)⟩⟩
    · replace c7 := Bool.eq_false_iff.mpr c7
      subst c7
      have H1 : (laws_FnListsEmpty.j0 k l0 a2 true a1_0 a1_1 a1_2 a1_3 a1_4 a1_5 a1_6 a1_7 a1_8) = some r := by rw [if_neg (show ¬ (false = true) by decide)] at H; exact H
      clear H
      have H := H1
      clear H1
      have H' := Aside0.mk H
      clear H
      go_wp2_with (first | ((with_reducible refine gate_callee (f := 6) rfl ?_); refine goesL_ (some 8) rfl rfl Tryz.func6 (by kernel_rfl) rfl #[.slice A0 l0.length c0] rfl (by (try simp only [List.map_toArray, List.map_cons, List.map_nil]); first | done | rfl | (simp only [List.length_drop, List.length_take]; rfl)) ?_; (with_reducible refine (laws_zzFits11.calls k _ _ l0 false _ ?side1 ?side2 A6.out).mono ?_); (case side1 => repeat (first | exact (Kd.C_below HR0.out HB.out) | (with_reducible refine Kd.C_alloc ?_ _) | (with_reducible refine Kd.C_drewN ?_ _) | (with_reducible refine Kd.C_drew ?_))); (case side2 => exact HC0.out); rintro e w16 ⟨rfl, hb⟩; refine ⟨_, rfl, ?_⟩; have n0_ := Aside0.mk (blk_below (g := gb197) (o := .cells #[.int .i64 a1_0, .string a1_1, .string a1_2, .string a1_3, .string a1_4, .string a1_5, .string a1_6, .string a1_7, .string a1_8] 24 (0, 0)) (by (with_reducible repeat (first | refine blk_drewN ?_ _ | refine blk_drew ?_ | refine blk_alloc ?_ _)); exact BK197.out) hb); have n1_ := Aside0.mk (below_step (by repeat (first | (with_reducible first | exact HB.out | apply below_alloc | apply pw_below_drewN | apply below_drew1 | refine below_set ?_ GE197.out) | exact HB.out)) hb); clear BK197; clear HB; have BK197 := n0_; have HB := n1_; clear n0_ n1_; (try clear hb); (try clear hb2); (try clear hk); (try clear hi)))
      go_meet
      case rel => exact ⟨_, (true), (by first | rfl | (simp; done) | (simp [*]; done)), H', ⟨by first | omega | exact Nat.le_refl _⟩, ⟨by (with_reducible repeat (first | refine blk_drewN ?_ _ | refine blk_drew ?_ | refine blk_alloc ?_ _)); exact BK197.out⟩, ⟨by repeat (first | (with_reducible first | exact HB.out | apply below_alloc | apply pw_below_drewN | apply below_drew1 | refine below_set ?_ GE197.out) | exact HB.out)⟩⟩
  case rest =>
    clear HC4
    try clear p2
    try clear c4
    try clear c6
    try clear c7
    try clear c9
    try clear hcz11_0
    try clear hcz11_1
    try clear hcz11_2
    try clear hcz11_3
    try clear hcz11_4
    try clear hcz11_5
    try clear hcz11_6
    try clear hcz11_7
    try clear hcz11_8
    try clear hcz14_0
    try clear hcz14_1
    try clear hcz14_2
    try clear hcz14_3
    try clear hcz14_4
    try clear hcz14_5
    try clear hcz14_6
    try clear hcz14_7
    try clear hcz14_8
    try clear hfz11_0
    try clear hfz11_1
    try clear hfz11_2
    try clear hfz11_3
    try clear hfz11_4
    try clear hfz11_5
    try clear hfz11_6
    try clear hfz11_7
    try clear hfz11_8
    try clear hfz14_0
    try clear hfz14_1
    try clear hfz14_2
    try clear hfz14_3
    try clear hfz14_4
    try clear hfz14_5
    try clear hfz14_6
    try clear hfz14_7
    try clear hfz14_8
    obtain ⟨kq, x19_3, rfl, HA, HJ3, BK197, HB⟩ := hcut
    cases kq with
    | zero => exact absurd HA.out (by simp [laws_FnListsEmpty.j0])
    | succ kj3 =>
      have H := HA.out
      clear HA
      simp only [laws_FnListsEmpty.j0] at H
      by_cases c17 : x19_3 = true
      · subst c17
        have H1 : (some true) = some r := by rw [if_pos rfl] at H; exact H
        clear H
        have H := H1
        clear H1
        obtain rfl := Option.some.inj H
        go_wp2
        go_ret
        exact ⟨by first | rfl | (simp [errW_none, errW_some] <;> rfl) | (have e_ : ∀ l_ : List UInt8, (l_ != []) = !l_.isEmpty := fun l_ => (by cases l_ <;> rfl); simp [errW_none, errW_some, e_]; done) | (simp [*, errW_none, errW_some] <;> rfl), by repeat (first | (with_reducible first | exact HB.out | apply below_alloc | apply pw_below_drewN | apply below_drew1 | refine below_set ?_ GE197.out) | exact HB.out)⟩
      · replace c17 := Bool.eq_false_iff.mpr c17
        subst c17
        have H1 : ((spec_LtRight.f kj3 l0).bind fun t200 => (if t200 = true then ((spec_LtPlayed.f kj3 l0).bind fun t201 => (if (t201.length : Int) > 0 then (laws_FnListsEmpty.j1 kj3 l0 a2 true a1_0 a1_1 a1_2 a1_3 a1_4 a1_5 a1_6 a1_7 a1_8) else ((spec_LtStyled.f a1_0 a1_1 a1_2 a1_3 a1_4 a1_5 a1_6 a1_7 a1_8).bind fun t204 => (if t204 = true then (laws_FnListsEmpty.j1 kj3 l0 a2 (decide ((a2.size : Int) > 60)) a1_0 a1_1 a1_2 a1_3 a1_4 a1_5 a1_6 a1_7 a1_8) else (laws_FnListsEmpty.j1 kj3 l0 a2 true a1_0 a1_1 a1_2 a1_3 a1_4 a1_5 a1_6 a1_7 a1_8))))) else (laws_FnListsEmpty.j1 kj3 l0 a2 true a1_0 a1_1 a1_2 a1_3 a1_4 a1_5 a1_6 a1_7 a1_8))) = some r := by rw [if_neg (show ¬ (false = true) by decide)] at H; exact H
        clear H
        have H := H1
        clear H1
        have HC18 := Aside0.mk H
        clear H
        go_upto_region 3 with (fail)
        go_cut [38] (fun v38 wc => ∃ (kq : Nat) (x38_17 : Bool), v38 = .bool x38_17 ∧ Aside0 (laws_FnListsEmpty.j1 kq l0 a2 x38_17 a1_0 a1_1 a1_2 a1_3 a1_4 a1_5 a1_6 a1_7 a1_8 = some r) ∧ Aside0 (kq ≤ kj3) ∧ Aside0 (wc.heap[gb197]? = some (.cells #[.int .i64 a1_0, .string a1_1, .string a1_2, .string a1_3, .string a1_4, .string a1_5, .string a1_6, .string a1_7, .string a1_8] 24 (0, 0))) ∧ Aside0 (Below w.heap.size w wc))
        case first =>
          have H := HC18.out
          clear HC18
          replace H := Option.bind_eq_some_iff.mp H
          obtain ⟨t200, A190, H⟩ := H
          replace H : (if t200 = true then ((spec_LtPlayed.f kj3 l0).bind fun t201 => (if (t201.length : Int) > 0 then (laws_FnListsEmpty.j1 kj3 l0 a2 true a1_0 a1_1 a1_2 a1_3 a1_4 a1_5 a1_6 a1_7 a1_8) else ((spec_LtStyled.f a1_0 a1_1 a1_2 a1_3 a1_4 a1_5 a1_6 a1_7 a1_8).bind fun t204 => (if t204 = true then (laws_FnListsEmpty.j1 kj3 l0 a2 (decide ((a2.size : Int) > 60)) a1_0 a1_1 a1_2 a1_3 a1_4 a1_5 a1_6 a1_7 a1_8) else (laws_FnListsEmpty.j1 kj3 l0 a2 true a1_0 a1_1 a1_2 a1_3 a1_4 a1_5 a1_6 a1_7 a1_8))))) else (laws_FnListsEmpty.j1 kj3 l0 a2 true a1_0 a1_1 a1_2 a1_3 a1_4 a1_5 a1_6 a1_7 a1_8)) = some r := H
          have A19 := Aside0.mk A190
          clear A190
          by_cases c20 : t200 = true
          · subst c20
            have H1 : ((spec_LtPlayed.f kj3 l0).bind fun t201 => (if (t201.length : Int) > 0 then (laws_FnListsEmpty.j1 kj3 l0 a2 true a1_0 a1_1 a1_2 a1_3 a1_4 a1_5 a1_6 a1_7 a1_8) else ((spec_LtStyled.f a1_0 a1_1 a1_2 a1_3 a1_4 a1_5 a1_6 a1_7 a1_8).bind fun t204 => (if t204 = true then (laws_FnListsEmpty.j1 kj3 l0 a2 (decide ((a2.size : Int) > 60)) a1_0 a1_1 a1_2 a1_3 a1_4 a1_5 a1_6 a1_7 a1_8) else (laws_FnListsEmpty.j1 kj3 l0 a2 true a1_0 a1_1 a1_2 a1_3 a1_4 a1_5 a1_6 a1_7 a1_8))))) = some r := by rw [if_pos rfl] at H; exact H
            clear H
            have H := H1
            clear H1
            replace H := Option.bind_eq_some_iff.mp H
            obtain ⟨t201, A210, H⟩ := H
            replace H : (if (t201.length : Int) > 0 then (laws_FnListsEmpty.j1 kj3 l0 a2 true a1_0 a1_1 a1_2 a1_3 a1_4 a1_5 a1_6 a1_7 a1_8) else ((spec_LtStyled.f a1_0 a1_1 a1_2 a1_3 a1_4 a1_5 a1_6 a1_7 a1_8).bind fun t204 => (if t204 = true then (laws_FnListsEmpty.j1 kj3 l0 a2 (decide ((a2.size : Int) > 60)) a1_0 a1_1 a1_2 a1_3 a1_4 a1_5 a1_6 a1_7 a1_8) else (laws_FnListsEmpty.j1 kj3 l0 a2 true a1_0 a1_1 a1_2 a1_3 a1_4 a1_5 a1_6 a1_7 a1_8)))) = some r := H
            have A21 := Aside0.mk A210
            clear A210
            by_cases c22 : (t201.length : Int) > 0
            · rw [if_pos c22] at H
              have c22b0 : decide (0 < (t201.length : Int)) = true := decide_eq_true c22
              have c22b1 : decide (0 < t201.length) = true := decide_eq_true (by omega)
              clear c22
              (first | rw [c22b0] | (simp only [i64_w, i32_w]; rw [c22b0]) | skip)
              have H' := Aside0.mk H
              clear H
              go_wp2_with (first | ((with_reducible refine gate_callee (f := 9) rfl ?_); refine goesL_ (some 21) rfl rfl Tryz.func9 (by kernel_rfl) rfl #[.slice A0 l0.length c0] rfl (by (try simp only [List.map_toArray, List.map_cons, List.map_nil]); first | done | rfl | (simp only [List.length_drop, List.length_take]; rfl)) ?_; (with_reducible refine (spec_LtRight.calls kj3 _ _ l0 true _ ?side1 ?side2 A19.out).mono ?_); (case side1 => repeat (first | exact (Kd.C_below HR0.out HB.out) | (with_reducible refine Kd.C_alloc ?_ _) | (with_reducible refine Kd.C_drewN ?_ _) | (with_reducible refine Kd.C_drew ?_))); (case side2 => exact HC0.out); rintro e w23 ⟨rfl, hb⟩; refine ⟨_, rfl, ?_⟩; have n0_ := Aside0.mk (blk_below (g := gb197) (o := .cells #[.int .i64 a1_0, .string a1_1, .string a1_2, .string a1_3, .string a1_4, .string a1_5, .string a1_6, .string a1_7, .string a1_8] 24 (0, 0)) (by (with_reducible repeat (first | refine blk_drewN ?_ _ | refine blk_drew ?_ | refine blk_alloc ?_ _)); exact BK197.out) hb); have n1_ := Aside0.mk (below_step (by repeat (first | (with_reducible first | exact HB.out | apply below_alloc | apply pw_below_drewN | apply below_drew1 | refine below_set ?_ GE197.out) | exact HB.out)) hb); clear BK197; clear HB; have BK197 := n0_; have HB := n1_; clear n0_ n1_; (try clear hb); (try clear hb2); (try clear hk); (try clear hi)) | (go_at_call 8; (with_reducible refine (spec_LtPlayed.calls kj3 _ _ l0 t201 _ ?side1 ?side2 A21.out).mono ?_); (case side1 => repeat (first | exact (Kd.C_below HR0.out HB.out) | (with_reducible refine Kd.C_alloc ?_ _) | (with_reducible refine Kd.C_drewN ?_ _) | (with_reducible refine Kd.C_drew ?_))); (case side2 => exact HC0.out); rintro e w24 ⟨v202, rfl, ho0, hb⟩; have n0_ := Aside0.mk (Kd.R_lower ho0 (below_size (by repeat (first | (with_reducible first | exact HB.out | apply below_alloc | apply pw_below_drewN | apply below_drew1 | refine below_set ?_ GE197.out) | exact HB.out)))); have n1_ := Aside0.mk (blk_below (g := gb197) (o := .cells #[.int .i64 a1_0, .string a1_1, .string a1_2, .string a1_3, .string a1_4, .string a1_5, .string a1_6, .string a1_7, .string a1_8] 24 (0, 0)) (by (with_reducible repeat (first | refine blk_drewN ?_ _ | refine blk_drew ?_ | refine blk_alloc ?_ _)); exact BK197.out) hb); have n2_ := Aside0.mk (below_step (by repeat (first | (with_reducible first | exact HB.out | apply below_alloc | apply pw_below_drewN | apply below_drew1 | refine below_set ?_ GE197.out) | exact HB.out)) hb); clear BK197; clear HB; have HO203 := n0_; have BK197 := n1_; have HB := n2_; clear n0_ n1_ n2_; (try clear hb); (try clear hb2); (try clear hk); (try clear hi); (try clear ho0); obtain ⟨Ao25, co25, eo25⟩ := Kd.R_slice HO203.out; subst eo25))
              go_meet
              case rel => exact ⟨_, (true), (by first | rfl | (simp; done) | (simp [*]; done)), H', ⟨by have := HJ3.out; first | omega | exact Nat.le_refl _⟩, ⟨by (with_reducible repeat (first | refine blk_drewN ?_ _ | refine blk_drew ?_ | refine blk_alloc ?_ _)); exact BK197.out⟩, ⟨by repeat (first | (with_reducible first | exact HB.out | apply below_alloc | apply pw_below_drewN | apply below_drew1 | refine below_set ?_ GE197.out) | exact HB.out)⟩⟩
            · rw [if_neg c22] at H
              have c22b0 : decide (0 < (t201.length : Int)) = false := decide_eq_false c22
              have c22b1 : decide (0 < t201.length) = false := decide_eq_false (by omega)
              clear c22
              (first | rw [c22b0] | (simp only [i64_w, i32_w]; rw [c22b0]) | skip)
              replace H := Option.bind_eq_some_iff.mp H
              obtain ⟨t204, A260, H⟩ := H
              replace H : (if t204 = true then (laws_FnListsEmpty.j1 kj3 l0 a2 (decide ((a2.size : Int) > 60)) a1_0 a1_1 a1_2 a1_3 a1_4 a1_5 a1_6 a1_7 a1_8) else (laws_FnListsEmpty.j1 kj3 l0 a2 true a1_0 a1_1 a1_2 a1_3 a1_4 a1_5 a1_6 a1_7 a1_8)) = some r := H
              have A26 := Aside0.mk A260
              clear A260
              by_cases c27 : t204 = true
              · subst c27
                have H1 : (laws_FnListsEmpty.j1 kj3 l0 a2 (decide ((a2.size : Int) > 60)) a1_0 a1_1 a1_2 a1_3 a1_4 a1_5 a1_6 a1_7 a1_8) = some r := by rw [if_pos rfl] at H; exact H
                clear H
                have H := H1
                clear H1
                have H' := Aside0.mk H
                clear H
                go_wp2_with (first | ((with_reducible refine gate_callee (f := 9) rfl ?_); refine goesL_ (some 21) rfl rfl Tryz.func9 (by kernel_rfl) rfl #[.slice A0 l0.length c0] rfl (by (try simp only [List.map_toArray, List.map_cons, List.map_nil]); first | done | rfl | (simp only [List.length_drop, List.length_take]; rfl)) ?_; (with_reducible refine (spec_LtRight.calls kj3 _ _ l0 true _ ?side1 ?side2 A19.out).mono ?_); (case side1 => repeat (first | exact (Kd.C_below HR0.out HB.out) | (with_reducible refine Kd.C_alloc ?_ _) | (with_reducible refine Kd.C_drewN ?_ _) | (with_reducible refine Kd.C_drew ?_))); (case side2 => exact HC0.out); rintro e w28 ⟨rfl, hb⟩; refine ⟨_, rfl, ?_⟩; have n0_ := Aside0.mk (blk_below (g := gb197) (o := .cells #[.int .i64 a1_0, .string a1_1, .string a1_2, .string a1_3, .string a1_4, .string a1_5, .string a1_6, .string a1_7, .string a1_8] 24 (0, 0)) (by (with_reducible repeat (first | refine blk_drewN ?_ _ | refine blk_drew ?_ | refine blk_alloc ?_ _)); exact BK197.out) hb); have n1_ := Aside0.mk (below_step (by repeat (first | (with_reducible first | exact HB.out | apply below_alloc | apply pw_below_drewN | apply below_drew1 | refine below_set ?_ GE197.out) | exact HB.out)) hb); clear BK197; clear HB; have BK197 := n0_; have HB := n1_; clear n0_ n1_; (try clear hb); (try clear hb2); (try clear hk); (try clear hi)) | (go_at_call 8; (with_reducible refine (spec_LtPlayed.calls kj3 _ _ l0 t201 _ ?side1 ?side2 A21.out).mono ?_); (case side1 => repeat (first | exact (Kd.C_below HR0.out HB.out) | (with_reducible refine Kd.C_alloc ?_ _) | (with_reducible refine Kd.C_drewN ?_ _) | (with_reducible refine Kd.C_drew ?_))); (case side2 => exact HC0.out); rintro e w29 ⟨v202, rfl, ho0, hb⟩; have n0_ := Aside0.mk (Kd.R_lower ho0 (below_size (by repeat (first | (with_reducible first | exact HB.out | apply below_alloc | apply pw_below_drewN | apply below_drew1 | refine below_set ?_ GE197.out) | exact HB.out)))); have n1_ := Aside0.mk (blk_below (g := gb197) (o := .cells #[.int .i64 a1_0, .string a1_1, .string a1_2, .string a1_3, .string a1_4, .string a1_5, .string a1_6, .string a1_7, .string a1_8] 24 (0, 0)) (by (with_reducible repeat (first | refine blk_drewN ?_ _ | refine blk_drew ?_ | refine blk_alloc ?_ _)); exact BK197.out) hb); have n2_ := Aside0.mk (below_step (by repeat (first | (with_reducible first | exact HB.out | apply below_alloc | apply pw_below_drewN | apply below_drew1 | refine below_set ?_ GE197.out) | exact HB.out)) hb); clear BK197; clear HB; have HO203 := n0_; have BK197 := n1_; have HB := n2_; clear n0_ n1_ n2_; (try clear hb); (try clear hb2); (try clear hk); (try clear hi); (try clear ho0); obtain ⟨Ao30, co30, eo30⟩ := Kd.R_slice HO203.out; subst eo30; have hcz31_0 : w29.cell? ⟨gb197, 0, none⟩ = some (.int .i64 a1_0) := (blk_cell BK197.out 0).trans rfl; have hcz31_1 : w29.cell? ⟨gb197, 1, none⟩ = some (.string a1_1) := (blk_cell BK197.out 1).trans rfl; have hcz31_2 : w29.cell? ⟨gb197, 2, none⟩ = some (.string a1_2) := (blk_cell BK197.out 2).trans rfl; have hcz31_3 : w29.cell? ⟨gb197, 3, none⟩ = some (.string a1_3) := (blk_cell BK197.out 3).trans rfl; have hcz31_4 : w29.cell? ⟨gb197, 4, none⟩ = some (.string a1_4) := (blk_cell BK197.out 4).trans rfl; have hcz31_5 : w29.cell? ⟨gb197, 5, none⟩ = some (.string a1_5) := (blk_cell BK197.out 5).trans rfl; have hcz31_6 : w29.cell? ⟨gb197, 6, none⟩ = some (.string a1_6) := (blk_cell BK197.out 6).trans rfl; have hcz31_7 : w29.cell? ⟨gb197, 7, none⟩ = some (.string a1_7) := (blk_cell BK197.out 7).trans rfl; have hcz31_8 : w29.cell? ⟨gb197, 8, none⟩ = some (.string a1_8) := (blk_cell BK197.out 8).trans rfl; have hfz31_0 := blk_frozen BK197.out 0; have hfz31_1 := blk_frozen BK197.out 1; have hfz31_2 := blk_frozen BK197.out 2; have hfz31_3 := blk_frozen BK197.out 3; have hfz31_4 := blk_frozen BK197.out 4; have hfz31_5 := blk_frozen BK197.out 5; have hfz31_6 := blk_frozen BK197.out 6; have hfz31_7 := blk_frozen BK197.out 7; have hfz31_8 := blk_frozen BK197.out 8) | (go_at_call 20; (with_reducible refine (spec_LtStyled.calls a1_0 a1_1 a1_2 a1_3 a1_4 a1_5 a1_6 a1_7 a1_8 true _ A26.out).mono ?_); rintro e w32 ⟨rfl, hb⟩; have n0_ := Aside0.mk (Kd.R_below (by (with_reducible repeat (first | apply Kd.R_alloc | apply Kd.R_drewN | apply Kd.R_drew)); exact HO203.out) hb); have n1_ := Aside0.mk (blk_below (g := gb197) (o := .cells #[.int .i64 a1_0, .string a1_1, .string a1_2, .string a1_3, .string a1_4, .string a1_5, .string a1_6, .string a1_7, .string a1_8] 24 (0, 0)) (by (with_reducible repeat (first | refine blk_drewN ?_ _ | refine blk_drew ?_ | refine blk_alloc ?_ _)); exact BK197.out) hb); have n2_ := Aside0.mk (below_step (by repeat (first | (with_reducible first | exact HB.out | apply below_alloc | apply pw_below_drewN | apply below_drew1 | refine below_set ?_ GE197.out) | exact HB.out)) hb); clear HO203; clear BK197; clear HB; have HO203 := n0_; have BK197 := n1_; have HB := n2_; clear n0_ n1_ n2_; (try clear hb); (try clear hb2); (try clear hk); (try clear hi)))
                go_meet
                case rel => exact ⟨_, (decide ((a2.size : Int) > 60)), (by first | rfl | (simp; done) | (simp [*]; done)), H', ⟨by have := HJ3.out; first | omega | exact Nat.le_refl _⟩, ⟨by (with_reducible repeat (first | refine blk_drewN ?_ _ | refine blk_drew ?_ | refine blk_alloc ?_ _)); exact BK197.out⟩, ⟨by repeat (first | (with_reducible first | exact HB.out | apply below_alloc | apply pw_below_drewN | apply below_drew1 | refine below_set ?_ GE197.out) | exact HB.out)⟩⟩
              · replace c27 := Bool.eq_false_iff.mpr c27
                subst c27
                have H1 : (laws_FnListsEmpty.j1 kj3 l0 a2 true a1_0 a1_1 a1_2 a1_3 a1_4 a1_5 a1_6 a1_7 a1_8) = some r := by rw [if_neg (show ¬ (false = true) by decide)] at H; exact H
                clear H
                have H := H1
                clear H1
                have H' := Aside0.mk H
                clear H
                go_wp2_with (first | ((with_reducible refine gate_callee (f := 9) rfl ?_); refine goesL_ (some 21) rfl rfl Tryz.func9 (by kernel_rfl) rfl #[.slice A0 l0.length c0] rfl (by (try simp only [List.map_toArray, List.map_cons, List.map_nil]); first | done | rfl | (simp only [List.length_drop, List.length_take]; rfl)) ?_; (with_reducible refine (spec_LtRight.calls kj3 _ _ l0 true _ ?side1 ?side2 A19.out).mono ?_); (case side1 => repeat (first | exact (Kd.C_below HR0.out HB.out) | (with_reducible refine Kd.C_alloc ?_ _) | (with_reducible refine Kd.C_drewN ?_ _) | (with_reducible refine Kd.C_drew ?_))); (case side2 => exact HC0.out); rintro e w33 ⟨rfl, hb⟩; refine ⟨_, rfl, ?_⟩; have n0_ := Aside0.mk (blk_below (g := gb197) (o := .cells #[.int .i64 a1_0, .string a1_1, .string a1_2, .string a1_3, .string a1_4, .string a1_5, .string a1_6, .string a1_7, .string a1_8] 24 (0, 0)) (by (with_reducible repeat (first | refine blk_drewN ?_ _ | refine blk_drew ?_ | refine blk_alloc ?_ _)); exact BK197.out) hb); have n1_ := Aside0.mk (below_step (by repeat (first | (with_reducible first | exact HB.out | apply below_alloc | apply pw_below_drewN | apply below_drew1 | refine below_set ?_ GE197.out) | exact HB.out)) hb); clear BK197; clear HB; have BK197 := n0_; have HB := n1_; clear n0_ n1_; (try clear hb); (try clear hb2); (try clear hk); (try clear hi)) | (go_at_call 8; (with_reducible refine (spec_LtPlayed.calls kj3 _ _ l0 t201 _ ?side1 ?side2 A21.out).mono ?_); (case side1 => repeat (first | exact (Kd.C_below HR0.out HB.out) | (with_reducible refine Kd.C_alloc ?_ _) | (with_reducible refine Kd.C_drewN ?_ _) | (with_reducible refine Kd.C_drew ?_))); (case side2 => exact HC0.out); rintro e w34 ⟨v202, rfl, ho0, hb⟩; have n0_ := Aside0.mk (Kd.R_lower ho0 (below_size (by repeat (first | (with_reducible first | exact HB.out | apply below_alloc | apply pw_below_drewN | apply below_drew1 | refine below_set ?_ GE197.out) | exact HB.out)))); have n1_ := Aside0.mk (blk_below (g := gb197) (o := .cells #[.int .i64 a1_0, .string a1_1, .string a1_2, .string a1_3, .string a1_4, .string a1_5, .string a1_6, .string a1_7, .string a1_8] 24 (0, 0)) (by (with_reducible repeat (first | refine blk_drewN ?_ _ | refine blk_drew ?_ | refine blk_alloc ?_ _)); exact BK197.out) hb); have n2_ := Aside0.mk (below_step (by repeat (first | (with_reducible first | exact HB.out | apply below_alloc | apply pw_below_drewN | apply below_drew1 | refine below_set ?_ GE197.out) | exact HB.out)) hb); clear BK197; clear HB; have HO203 := n0_; have BK197 := n1_; have HB := n2_; clear n0_ n1_ n2_; (try clear hb); (try clear hb2); (try clear hk); (try clear hi); (try clear ho0); obtain ⟨Ao35, co35, eo35⟩ := Kd.R_slice HO203.out; subst eo35; have hcz36_0 : w34.cell? ⟨gb197, 0, none⟩ = some (.int .i64 a1_0) := (blk_cell BK197.out 0).trans rfl; have hcz36_1 : w34.cell? ⟨gb197, 1, none⟩ = some (.string a1_1) := (blk_cell BK197.out 1).trans rfl; have hcz36_2 : w34.cell? ⟨gb197, 2, none⟩ = some (.string a1_2) := (blk_cell BK197.out 2).trans rfl; have hcz36_3 : w34.cell? ⟨gb197, 3, none⟩ = some (.string a1_3) := (blk_cell BK197.out 3).trans rfl; have hcz36_4 : w34.cell? ⟨gb197, 4, none⟩ = some (.string a1_4) := (blk_cell BK197.out 4).trans rfl; have hcz36_5 : w34.cell? ⟨gb197, 5, none⟩ = some (.string a1_5) := (blk_cell BK197.out 5).trans rfl; have hcz36_6 : w34.cell? ⟨gb197, 6, none⟩ = some (.string a1_6) := (blk_cell BK197.out 6).trans rfl; have hcz36_7 : w34.cell? ⟨gb197, 7, none⟩ = some (.string a1_7) := (blk_cell BK197.out 7).trans rfl; have hcz36_8 : w34.cell? ⟨gb197, 8, none⟩ = some (.string a1_8) := (blk_cell BK197.out 8).trans rfl; have hfz36_0 := blk_frozen BK197.out 0; have hfz36_1 := blk_frozen BK197.out 1; have hfz36_2 := blk_frozen BK197.out 2; have hfz36_3 := blk_frozen BK197.out 3; have hfz36_4 := blk_frozen BK197.out 4; have hfz36_5 := blk_frozen BK197.out 5; have hfz36_6 := blk_frozen BK197.out 6; have hfz36_7 := blk_frozen BK197.out 7; have hfz36_8 := blk_frozen BK197.out 8) | (go_at_call 20; (with_reducible refine (spec_LtStyled.calls a1_0 a1_1 a1_2 a1_3 a1_4 a1_5 a1_6 a1_7 a1_8 false _ A26.out).mono ?_); rintro e w37 ⟨rfl, hb⟩; have n0_ := Aside0.mk (Kd.R_below (by (with_reducible repeat (first | apply Kd.R_alloc | apply Kd.R_drewN | apply Kd.R_drew)); exact HO203.out) hb); have n1_ := Aside0.mk (blk_below (g := gb197) (o := .cells #[.int .i64 a1_0, .string a1_1, .string a1_2, .string a1_3, .string a1_4, .string a1_5, .string a1_6, .string a1_7, .string a1_8] 24 (0, 0)) (by (with_reducible repeat (first | refine blk_drewN ?_ _ | refine blk_drew ?_ | refine blk_alloc ?_ _)); exact BK197.out) hb); have n2_ := Aside0.mk (below_step (by repeat (first | (with_reducible first | exact HB.out | apply below_alloc | apply pw_below_drewN | apply below_drew1 | refine below_set ?_ GE197.out) | exact HB.out)) hb); clear HO203; clear BK197; clear HB; have HO203 := n0_; have BK197 := n1_; have HB := n2_; clear n0_ n1_ n2_; (try clear hb); (try clear hb2); (try clear hk); (try clear hi)))
                go_meet
                case rel => exact ⟨_, (true), (by first | rfl | (simp; done) | (simp [*]; done)), H', ⟨by have := HJ3.out; first | omega | exact Nat.le_refl _⟩, ⟨by (with_reducible repeat (first | refine blk_drewN ?_ _ | refine blk_drew ?_ | refine blk_alloc ?_ _)); exact BK197.out⟩, ⟨by repeat (first | (with_reducible first | exact HB.out | apply below_alloc | apply pw_below_drewN | apply below_drew1 | refine below_set ?_ GE197.out) | exact HB.out)⟩⟩
          · replace c20 := Bool.eq_false_iff.mpr c20
            subst c20
            have H1 : (laws_FnListsEmpty.j1 kj3 l0 a2 true a1_0 a1_1 a1_2 a1_3 a1_4 a1_5 a1_6 a1_7 a1_8) = some r := by rw [if_neg (show ¬ (false = true) by decide)] at H; exact H
            clear H
            have H := H1
            clear H1
            have H' := Aside0.mk H
            clear H
            go_wp2_with (first | ((with_reducible refine gate_callee (f := 9) rfl ?_); refine goesL_ (some 21) rfl rfl Tryz.func9 (by kernel_rfl) rfl #[.slice A0 l0.length c0] rfl (by (try simp only [List.map_toArray, List.map_cons, List.map_nil]); first | done | rfl | (simp only [List.length_drop, List.length_take]; rfl)) ?_; (with_reducible refine (spec_LtRight.calls kj3 _ _ l0 false _ ?side1 ?side2 A19.out).mono ?_); (case side1 => repeat (first | exact (Kd.C_below HR0.out HB.out) | (with_reducible refine Kd.C_alloc ?_ _) | (with_reducible refine Kd.C_drewN ?_ _) | (with_reducible refine Kd.C_drew ?_))); (case side2 => exact HC0.out); rintro e w38 ⟨rfl, hb⟩; refine ⟨_, rfl, ?_⟩; have n0_ := Aside0.mk (blk_below (g := gb197) (o := .cells #[.int .i64 a1_0, .string a1_1, .string a1_2, .string a1_3, .string a1_4, .string a1_5, .string a1_6, .string a1_7, .string a1_8] 24 (0, 0)) (by (with_reducible repeat (first | refine blk_drewN ?_ _ | refine blk_drew ?_ | refine blk_alloc ?_ _)); exact BK197.out) hb); have n1_ := Aside0.mk (below_step (by repeat (first | (with_reducible first | exact HB.out | apply below_alloc | apply pw_below_drewN | apply below_drew1 | refine below_set ?_ GE197.out) | exact HB.out)) hb); clear BK197; clear HB; have BK197 := n0_; have HB := n1_; clear n0_ n1_; (try clear hb); (try clear hb2); (try clear hk); (try clear hi)))
            go_meet
            case rel => exact ⟨_, (true), (by first | rfl | (simp; done) | (simp [*]; done)), H', ⟨by have := HJ3.out; first | omega | exact Nat.le_refl _⟩, ⟨by (with_reducible repeat (first | refine blk_drewN ?_ _ | refine blk_drew ?_ | refine blk_alloc ?_ _)); exact BK197.out⟩, ⟨by repeat (first | (with_reducible first | exact HB.out | apply below_alloc | apply pw_below_drewN | apply below_drew1 | refine below_set ?_ GE197.out) | exact HB.out)⟩⟩
        case rest =>
          clear HC18
          try clear c1
          try clear c2
          try clear p2
          try clear c4
          try clear c6
          try clear c7
          try clear c9
          try clear c17
          try clear c20
          try clear c22
          try clear c22b0
          try clear c22b1
          try clear c27
          try clear hcz11_0
          try clear hcz11_1
          try clear hcz11_2
          try clear hcz11_3
          try clear hcz11_4
          try clear hcz11_5
          try clear hcz11_6
          try clear hcz11_7
          try clear hcz11_8
          try clear hcz14_0
          try clear hcz14_1
          try clear hcz14_2
          try clear hcz14_3
          try clear hcz14_4
          try clear hcz14_5
          try clear hcz14_6
          try clear hcz14_7
          try clear hcz14_8
          try clear hcz31_0
          try clear hcz31_1
          try clear hcz31_2
          try clear hcz31_3
          try clear hcz31_4
          try clear hcz31_5
          try clear hcz31_6
          try clear hcz31_7
          try clear hcz31_8
          try clear hcz36_0
          try clear hcz36_1
          try clear hcz36_2
          try clear hcz36_3
          try clear hcz36_4
          try clear hcz36_5
          try clear hcz36_6
          try clear hcz36_7
          try clear hcz36_8
          try clear hfz11_0
          try clear hfz11_1
          try clear hfz11_2
          try clear hfz11_3
          try clear hfz11_4
          try clear hfz11_5
          try clear hfz11_6
          try clear hfz11_7
          try clear hfz11_8
          try clear hfz14_0
          try clear hfz14_1
          try clear hfz14_2
          try clear hfz14_3
          try clear hfz14_4
          try clear hfz14_5
          try clear hfz14_6
          try clear hfz14_7
          try clear hfz14_8
          try clear hfz31_0
          try clear hfz31_1
          try clear hfz31_2
          try clear hfz31_3
          try clear hfz31_4
          try clear hfz31_5
          try clear hfz31_6
          try clear hfz31_7
          try clear hfz31_8
          try clear hfz36_0
          try clear hfz36_1
          try clear hfz36_2
          try clear hfz36_3
          try clear hfz36_4
          try clear hfz36_5
          try clear hfz36_6
          try clear hfz36_7
          try clear hfz36_8
          try clear p2
          obtain ⟨kq, x38_17, rfl, HA, HJ17, BK197, HB⟩ := hcut
          cases kq with
          | zero => exact absurd HA.out (by simp [laws_FnListsEmpty.j1])
          | succ kj17 =>
            have H := HA.out
            clear HA
            simp only [laws_FnListsEmpty.j1] at H
            by_cases c39 : x38_17 = true
            · subst c39
              have H1 : (some true) = some r := by rw [if_pos rfl] at H; exact H
              clear H
              have H := H1
              clear H1
              obtain rfl := Option.some.inj H
              go_wp2
              go_ret
              exact ⟨by first | rfl | (simp [errW_none, errW_some] <;> rfl) | (have e_ : ∀ l_ : List UInt8, (l_ != []) = !l_.isEmpty := fun l_ => (by cases l_ <;> rfl); simp [errW_none, errW_some, e_]; done) | (simp [*, errW_none, errW_some] <;> rfl), by repeat (first | (with_reducible first | exact HB.out | apply below_alloc | apply pw_below_drewN | apply below_drew1 | refine below_set ?_ GE197.out) | exact HB.out)⟩
            · replace c39 := Bool.eq_false_iff.mpr c39
              subst c39
              have H1 : ((impl_ListRender.f l0 a1_0 a1_1 a1_2 a1_3 a1_4 a1_5 a1_6 a1_7 a1_8).bind fun t205 => (if t205.toList = ([] : List UInt8) then ((impl_ListPlain.f l0).bind fun t206 => (if t206.toList = ([] : List UInt8) then ((impl_ListMarkdown.f l0 a1_0 a1_1 a1_2 a1_3 a1_4 a1_5 a1_6 a1_7 a1_8).bind fun t207 => (if t207.toList = ([] : List UInt8) then ((impl_ListHTML.f l0 a2).bind fun t208 => (if t208.toList = ([] : List UInt8) then ((impl_ListLength.f l0).bind fun t209 => (if t209 = 0 then ((laws_ltAlive.f).bind fun t210 => (some t210)) else (some false))) else (some false))) else (some false))) else (some false))) else (some false))) = some r := by rw [if_neg (show ¬ (false = true) by decide)] at H; exact H
              clear H
              have H := H1
              clear H1
              replace H := Option.bind_eq_some_iff.mp H
              obtain ⟨t205, A400, H⟩ := H
              replace H : (if t205.toList = ([] : List UInt8) then ((impl_ListPlain.f l0).bind fun t206 => (if t206.toList = ([] : List UInt8) then ((impl_ListMarkdown.f l0 a1_0 a1_1 a1_2 a1_3 a1_4 a1_5 a1_6 a1_7 a1_8).bind fun t207 => (if t207.toList = ([] : List UInt8) then ((impl_ListHTML.f l0 a2).bind fun t208 => (if t208.toList = ([] : List UInt8) then ((impl_ListLength.f l0).bind fun t209 => (if t209 = 0 then ((laws_ltAlive.f).bind fun t210 => (some t210)) else (some false))) else (some false))) else (some false))) else (some false))) else (some false)) = some r := H
              have A40 := Aside0.mk A400
              clear A400
              by_cases c41 : t205.toList = ([] : List UInt8)
              · rw [if_pos c41] at H
                have c41b0 : (t205.toList == ([] : List UInt8)) = true := beq_iff_eq.mpr c41
                have c41b7 : t205.toList.isEmpty = true := by simpa using c41
                have c41b1 : (t205.toList != ([] : List UInt8)) = false := bne_eq_false_iff_eq.mpr c41
                clear c41
                replace H := Option.bind_eq_some_iff.mp H
                obtain ⟨t206, A420, H⟩ := H
                replace H : (if t206.toList = ([] : List UInt8) then ((impl_ListMarkdown.f l0 a1_0 a1_1 a1_2 a1_3 a1_4 a1_5 a1_6 a1_7 a1_8).bind fun t207 => (if t207.toList = ([] : List UInt8) then ((impl_ListHTML.f l0 a2).bind fun t208 => (if t208.toList = ([] : List UInt8) then ((impl_ListLength.f l0).bind fun t209 => (if t209 = 0 then ((laws_ltAlive.f).bind fun t210 => (some t210)) else (some false))) else (some false))) else (some false))) else (some false)) = some r := H
                have A42 := Aside0.mk A420
                clear A420
                by_cases c43 : t206.toList = ([] : List UInt8)
                · rw [if_pos c43] at H
                  have c43b0 : (t206.toList == ([] : List UInt8)) = true := beq_iff_eq.mpr c43
                  have c43b7 : t206.toList.isEmpty = true := by simpa using c43
                  have c43b1 : (t206.toList != ([] : List UInt8)) = false := bne_eq_false_iff_eq.mpr c43
                  clear c43
                  replace H := Option.bind_eq_some_iff.mp H
                  obtain ⟨t207, A440, H⟩ := H
                  replace H : (if t207.toList = ([] : List UInt8) then ((impl_ListHTML.f l0 a2).bind fun t208 => (if t208.toList = ([] : List UInt8) then ((impl_ListLength.f l0).bind fun t209 => (if t209 = 0 then ((laws_ltAlive.f).bind fun t210 => (some t210)) else (some false))) else (some false))) else (some false)) = some r := H
                  have A44 := Aside0.mk A440
                  clear A440
                  by_cases c45 : t207.toList = ([] : List UInt8)
                  · rw [if_pos c45] at H
                    have c45b0 : (t207.toList == ([] : List UInt8)) = true := beq_iff_eq.mpr c45
                    have c45b7 : t207.toList.isEmpty = true := by simpa using c45
                    have c45b1 : (t207.toList != ([] : List UInt8)) = false := bne_eq_false_iff_eq.mpr c45
                    clear c45
                    replace H := Option.bind_eq_some_iff.mp H
                    obtain ⟨t208, A460, H⟩ := H
                    replace H : (if t208.toList = ([] : List UInt8) then ((impl_ListLength.f l0).bind fun t209 => (if t209 = 0 then ((laws_ltAlive.f).bind fun t210 => (some t210)) else (some false))) else (some false)) = some r := H
                    have A46 := Aside0.mk A460
                    clear A460
                    by_cases c47 : t208.toList = ([] : List UInt8)
                    · rw [if_pos c47] at H
                      have c47b0 : (t208.toList == ([] : List UInt8)) = true := beq_iff_eq.mpr c47
                      have c47b7 : t208.toList.isEmpty = true := by simpa using c47
                      have c47b1 : (t208.toList != ([] : List UInt8)) = false := bne_eq_false_iff_eq.mpr c47
                      clear c47
                      replace H := Option.bind_eq_some_iff.mp H
                      obtain ⟨t209, A480, H⟩ := H
                      replace H : (if t209 = 0 then ((laws_ltAlive.f).bind fun t210 => (some t210)) else (some false)) = some r := H
                      have A48 := Aside0.mk A480
                      clear A480
                      by_cases c49 : t209 = 0
                      · rw [if_pos c49] at H
                        have c49b0 : (t209 == 0) = true := beq_iff_eq.mpr c49
                        have c49b1 : (t209 != 0) = false := bne_eq_false_iff_eq.mpr c49
                        clear c49
                        replace H := Option.bind_eq_some_iff.mp H
                        obtain ⟨t210, A500, H⟩ := H
                        replace H : (some t210) = some r := H
                        have A50 := Aside0.mk A500
                        clear A500
                        obtain rfl := Option.some.inj H
                        have hcz51_0 : wc.cell? ⟨gb197, 0, none⟩ = some (.int .i64 a1_0) := (blk_cell BK197.out 0).trans rfl
                        have hcz51_1 : wc.cell? ⟨gb197, 1, none⟩ = some (.string a1_1) := (blk_cell BK197.out 1).trans rfl
                        have hcz51_2 : wc.cell? ⟨gb197, 2, none⟩ = some (.string a1_2) := (blk_cell BK197.out 2).trans rfl
                        have hcz51_3 : wc.cell? ⟨gb197, 3, none⟩ = some (.string a1_3) := (blk_cell BK197.out 3).trans rfl
                        have hcz51_4 : wc.cell? ⟨gb197, 4, none⟩ = some (.string a1_4) := (blk_cell BK197.out 4).trans rfl
                        have hcz51_5 : wc.cell? ⟨gb197, 5, none⟩ = some (.string a1_5) := (blk_cell BK197.out 5).trans rfl
                        have hcz51_6 : wc.cell? ⟨gb197, 6, none⟩ = some (.string a1_6) := (blk_cell BK197.out 6).trans rfl
                        have hcz51_7 : wc.cell? ⟨gb197, 7, none⟩ = some (.string a1_7) := (blk_cell BK197.out 7).trans rfl
                        have hcz51_8 : wc.cell? ⟨gb197, 8, none⟩ = some (.string a1_8) := (blk_cell BK197.out 8).trans rfl
                        have hfz51_0 := blk_frozen BK197.out 0
                        have hfz51_1 := blk_frozen BK197.out 1
                        have hfz51_2 := blk_frozen BK197.out 2
                        have hfz51_3 := blk_frozen BK197.out 3
                        have hfz51_4 := blk_frozen BK197.out 4
                        have hfz51_5 := blk_frozen BK197.out 5
                        have hfz51_6 := blk_frozen BK197.out 6
                        have hfz51_7 := blk_frozen BK197.out 7
                        have hfz51_8 := blk_frozen BK197.out 8
                        go_wp2_with (first | ((with_reducible refine gate_callee (f := 14) rfl ?_); refine goesL_ (some 41) rfl rfl Tryz.func14 (by kernel_rfl) rfl #[.slice A0 l0.length c0, .agg #[.int .i64 a1_0, .string a1_1, .string a1_2, .string a1_3, .string a1_4, .string a1_5, .string a1_6, .string a1_7, .string a1_8]] rfl (by (try simp only [List.map_toArray, List.map_cons, List.map_nil]); first | done | rfl | (simp only [List.length_drop, List.length_take]; rfl)) ?_; (with_reducible refine (impl_ListRender.calls _ _ l0 a1_0 a1_1 a1_2 a1_3 a1_4 a1_5 a1_6 a1_7 a1_8 t205 _ ?side1 ?side2 A40.out).mono ?_); (case side1 => repeat (first | exact (Kd.C_below HR0.out HB.out) | (with_reducible refine Kd.C_alloc ?_ _) | (with_reducible refine Kd.C_drewN ?_ _) | (with_reducible refine Kd.C_drew ?_))); (case side2 => exact HC0.out); rintro e w52 ⟨rfl, hb⟩; refine ⟨_, rfl, ?_⟩; have n0_ := Aside0.mk (blk_below (g := gb197) (o := .cells #[.int .i64 a1_0, .string a1_1, .string a1_2, .string a1_3, .string a1_4, .string a1_5, .string a1_6, .string a1_7, .string a1_8] 24 (0, 0)) (by (with_reducible repeat (first | refine blk_drewN ?_ _ | refine blk_drew ?_ | refine blk_alloc ?_ _)); exact BK197.out) hb); have n1_ := Aside0.mk (below_step (by repeat (first | (with_reducible first | exact HB.out | apply below_alloc | apply pw_below_drewN | apply below_drew1 | refine below_set ?_ GE197.out) | exact HB.out)) hb); clear BK197; clear HB; have BK197 := n0_; have HB := n1_; clear n0_ n1_; (try clear hb); (try clear hb2); (try clear hk); (try clear hi)) | (go_at_call 21; (with_reducible refine (impl_ListPlain.calls _ _ l0 t206 _ ?side1 ?side2 A42.out).mono ?_); (case side1 => repeat (first | exact (Kd.C_below HR0.out HB.out) | (with_reducible refine Kd.C_alloc ?_ _) | (with_reducible refine Kd.C_drewN ?_ _) | (with_reducible refine Kd.C_drew ?_))); (case side2 => exact HC0.out); rintro e w53 ⟨rfl, hb⟩; have n0_ := Aside0.mk (blk_below (g := gb197) (o := .cells #[.int .i64 a1_0, .string a1_1, .string a1_2, .string a1_3, .string a1_4, .string a1_5, .string a1_6, .string a1_7, .string a1_8] 24 (0, 0)) (by (with_reducible repeat (first | refine blk_drewN ?_ _ | refine blk_drew ?_ | refine blk_alloc ?_ _)); exact BK197.out) hb); have n1_ := Aside0.mk (below_step (by repeat (first | (with_reducible first | exact HB.out | apply below_alloc | apply pw_below_drewN | apply below_drew1 | refine below_set ?_ GE197.out) | exact HB.out)) hb); clear BK197; clear HB; have BK197 := n0_; have HB := n1_; clear n0_ n1_; (try clear hb); (try clear hb2); (try clear hk); (try clear hi); have hcz54_0 : w53.cell? ⟨gb197, 0, none⟩ = some (.int .i64 a1_0) := (blk_cell BK197.out 0).trans rfl; have hcz54_1 : w53.cell? ⟨gb197, 1, none⟩ = some (.string a1_1) := (blk_cell BK197.out 1).trans rfl; have hcz54_2 : w53.cell? ⟨gb197, 2, none⟩ = some (.string a1_2) := (blk_cell BK197.out 2).trans rfl; have hcz54_3 : w53.cell? ⟨gb197, 3, none⟩ = some (.string a1_3) := (blk_cell BK197.out 3).trans rfl; have hcz54_4 : w53.cell? ⟨gb197, 4, none⟩ = some (.string a1_4) := (blk_cell BK197.out 4).trans rfl; have hcz54_5 : w53.cell? ⟨gb197, 5, none⟩ = some (.string a1_5) := (blk_cell BK197.out 5).trans rfl; have hcz54_6 : w53.cell? ⟨gb197, 6, none⟩ = some (.string a1_6) := (blk_cell BK197.out 6).trans rfl; have hcz54_7 : w53.cell? ⟨gb197, 7, none⟩ = some (.string a1_7) := (blk_cell BK197.out 7).trans rfl; have hcz54_8 : w53.cell? ⟨gb197, 8, none⟩ = some (.string a1_8) := (blk_cell BK197.out 8).trans rfl; have hfz54_0 := blk_frozen BK197.out 0; have hfz54_1 := blk_frozen BK197.out 1; have hfz54_2 := blk_frozen BK197.out 2; have hfz54_3 := blk_frozen BK197.out 3; have hfz54_4 := blk_frozen BK197.out 4; have hfz54_5 := blk_frozen BK197.out 5; have hfz54_6 := blk_frozen BK197.out 6; have hfz54_7 := blk_frozen BK197.out 7; have hfz54_8 := blk_frozen BK197.out 8) | (go_at_call 16; (with_reducible refine (impl_ListMarkdown.calls _ _ l0 a1_0 a1_1 a1_2 a1_3 a1_4 a1_5 a1_6 a1_7 a1_8 t207 _ ?side1 ?side2 A44.out).mono ?_); (case side1 => repeat (first | exact (Kd.C_below HR0.out HB.out) | (with_reducible refine Kd.C_alloc ?_ _) | (with_reducible refine Kd.C_drewN ?_ _) | (with_reducible refine Kd.C_drew ?_))); (case side2 => exact HC0.out); rintro e w55 ⟨rfl, hb⟩; have n0_ := Aside0.mk (blk_below (g := gb197) (o := .cells #[.int .i64 a1_0, .string a1_1, .string a1_2, .string a1_3, .string a1_4, .string a1_5, .string a1_6, .string a1_7, .string a1_8] 24 (0, 0)) (by (with_reducible repeat (first | refine blk_drewN ?_ _ | refine blk_drew ?_ | refine blk_alloc ?_ _)); exact BK197.out) hb); have n1_ := Aside0.mk (below_step (by repeat (first | (with_reducible first | exact HB.out | apply below_alloc | apply pw_below_drewN | apply below_drew1 | refine below_set ?_ GE197.out) | exact HB.out)) hb); clear BK197; clear HB; have BK197 := n0_; have HB := n1_; clear n0_ n1_; (try clear hb); (try clear hb2); (try clear hk); (try clear hi)) | (go_at_call 18; (with_reducible refine (impl_ListHTML.calls _ _ l0 a2 t208 _ ?side1 ?side2 A46.out).mono ?_); (case side1 => repeat (first | exact (Kd.C_below HR0.out HB.out) | (with_reducible refine Kd.C_alloc ?_ _) | (with_reducible refine Kd.C_drewN ?_ _) | (with_reducible refine Kd.C_drew ?_))); (case side2 => exact HC0.out); rintro e w56 ⟨rfl, hb⟩; have n0_ := Aside0.mk (blk_below (g := gb197) (o := .cells #[.int .i64 a1_0, .string a1_1, .string a1_2, .string a1_3, .string a1_4, .string a1_5, .string a1_6, .string a1_7, .string a1_8] 24 (0, 0)) (by (with_reducible repeat (first | refine blk_drewN ?_ _ | refine blk_drew ?_ | refine blk_alloc ?_ _)); exact BK197.out) hb); have n1_ := Aside0.mk (below_step (by repeat (first | (with_reducible first | exact HB.out | apply below_alloc | apply pw_below_drewN | apply below_drew1 | refine below_set ?_ GE197.out) | exact HB.out)) hb); clear BK197; clear HB; have BK197 := n0_; have HB := n1_; clear n0_ n1_; (try clear hb); (try clear hb2); (try clear hk); (try clear hi)) | (go_at_call 22; (with_reducible refine (impl_ListLength.calls _ _ l0 t209 _ ?side1 ?side2 A48.out).mono ?_); (case side1 => repeat (first | exact (Kd.C_below HR0.out HB.out) | (with_reducible refine Kd.C_alloc ?_ _) | (with_reducible refine Kd.C_drewN ?_ _) | (with_reducible refine Kd.C_drew ?_))); (case side2 => exact HC0.out); rintro e w57 ⟨rfl, hb⟩; have n0_ := Aside0.mk (blk_below (g := gb197) (o := .cells #[.int .i64 a1_0, .string a1_1, .string a1_2, .string a1_3, .string a1_4, .string a1_5, .string a1_6, .string a1_7, .string a1_8] 24 (0, 0)) (by (with_reducible repeat (first | refine blk_drewN ?_ _ | refine blk_drew ?_ | refine blk_alloc ?_ _)); exact BK197.out) hb); have n1_ := Aside0.mk (below_step (by repeat (first | (with_reducible first | exact HB.out | apply below_alloc | apply pw_below_drewN | apply below_drew1 | refine below_set ?_ GE197.out) | exact HB.out)) hb); clear BK197; clear HB; have BK197 := n0_; have HB := n1_; clear n0_ n1_; (try clear hb); (try clear hb2); (try clear hk); (try clear hi)) | (go_at_call 23; (with_reducible refine (laws_ltAlive.calls  t210 _ A50.out).mono ?_); rintro e w58 ⟨rfl, hb⟩; have n0_ := Aside0.mk (blk_below (g := gb197) (o := .cells #[.int .i64 a1_0, .string a1_1, .string a1_2, .string a1_3, .string a1_4, .string a1_5, .string a1_6, .string a1_7, .string a1_8] 24 (0, 0)) (by (with_reducible repeat (first | refine blk_drewN ?_ _ | refine blk_drew ?_ | refine blk_alloc ?_ _)); exact BK197.out) hb); have n1_ := Aside0.mk (below_step (by repeat (first | (with_reducible first | exact HB.out | apply below_alloc | apply pw_below_drewN | apply below_drew1 | refine below_set ?_ GE197.out) | exact HB.out)) hb); clear BK197; clear HB; have BK197 := n0_; have HB := n1_; clear n0_ n1_; (try clear hb); (try clear hb2); (try clear hk); (try clear hi)))
                        go_ret
                        exact ⟨by first | rfl | (simp [errW_none, errW_some] <;> rfl) | (have e_ : ∀ l_ : List UInt8, (l_ != []) = !l_.isEmpty := fun l_ => (by cases l_ <;> rfl); simp [errW_none, errW_some, e_]; done) | (simp [*, errW_none, errW_some] <;> rfl), by repeat (first | (with_reducible first | exact HB.out | apply below_alloc | apply pw_below_drewN | apply below_drew1 | refine below_set ?_ GE197.out) | exact HB.out)⟩
                      · rw [if_neg c49] at H
                        have c49b0 : (t209 == 0) = false := beq_eq_false_iff_ne.mpr c49
                        have c49b1 : (t209 != 0) = true := bne_iff_ne.mpr c49
                        obtain rfl := Option.some.inj H
                        have hcz59_0 : wc.cell? ⟨gb197, 0, none⟩ = some (.int .i64 a1_0) := (blk_cell BK197.out 0).trans rfl
                        have hcz59_1 : wc.cell? ⟨gb197, 1, none⟩ = some (.string a1_1) := (blk_cell BK197.out 1).trans rfl
                        have hcz59_2 : wc.cell? ⟨gb197, 2, none⟩ = some (.string a1_2) := (blk_cell BK197.out 2).trans rfl
                        have hcz59_3 : wc.cell? ⟨gb197, 3, none⟩ = some (.string a1_3) := (blk_cell BK197.out 3).trans rfl
                        have hcz59_4 : wc.cell? ⟨gb197, 4, none⟩ = some (.string a1_4) := (blk_cell BK197.out 4).trans rfl
                        have hcz59_5 : wc.cell? ⟨gb197, 5, none⟩ = some (.string a1_5) := (blk_cell BK197.out 5).trans rfl
                        have hcz59_6 : wc.cell? ⟨gb197, 6, none⟩ = some (.string a1_6) := (blk_cell BK197.out 6).trans rfl
                        have hcz59_7 : wc.cell? ⟨gb197, 7, none⟩ = some (.string a1_7) := (blk_cell BK197.out 7).trans rfl
                        have hcz59_8 : wc.cell? ⟨gb197, 8, none⟩ = some (.string a1_8) := (blk_cell BK197.out 8).trans rfl
                        have hfz59_0 := blk_frozen BK197.out 0
                        have hfz59_1 := blk_frozen BK197.out 1
                        have hfz59_2 := blk_frozen BK197.out 2
                        have hfz59_3 := blk_frozen BK197.out 3
                        have hfz59_4 := blk_frozen BK197.out 4
                        have hfz59_5 := blk_frozen BK197.out 5
                        have hfz59_6 := blk_frozen BK197.out 6
                        have hfz59_7 := blk_frozen BK197.out 7
                        have hfz59_8 := blk_frozen BK197.out 8
                        go_wp2_with (first | ((with_reducible refine gate_callee (f := 14) rfl ?_); refine goesL_ (some 41) rfl rfl Tryz.func14 (by kernel_rfl) rfl #[.slice A0 l0.length c0, .agg #[.int .i64 a1_0, .string a1_1, .string a1_2, .string a1_3, .string a1_4, .string a1_5, .string a1_6, .string a1_7, .string a1_8]] rfl (by (try simp only [List.map_toArray, List.map_cons, List.map_nil]); first | done | rfl | (simp only [List.length_drop, List.length_take]; rfl)) ?_; (with_reducible refine (impl_ListRender.calls _ _ l0 a1_0 a1_1 a1_2 a1_3 a1_4 a1_5 a1_6 a1_7 a1_8 t205 _ ?side1 ?side2 A40.out).mono ?_); (case side1 => repeat (first | exact (Kd.C_below HR0.out HB.out) | (with_reducible refine Kd.C_alloc ?_ _) | (with_reducible refine Kd.C_drewN ?_ _) | (with_reducible refine Kd.C_drew ?_))); (case side2 => exact HC0.out); rintro e w60 ⟨rfl, hb⟩; refine ⟨_, rfl, ?_⟩; have n0_ := Aside0.mk (blk_below (g := gb197) (o := .cells #[.int .i64 a1_0, .string a1_1, .string a1_2, .string a1_3, .string a1_4, .string a1_5, .string a1_6, .string a1_7, .string a1_8] 24 (0, 0)) (by (with_reducible repeat (first | refine blk_drewN ?_ _ | refine blk_drew ?_ | refine blk_alloc ?_ _)); exact BK197.out) hb); have n1_ := Aside0.mk (below_step (by repeat (first | (with_reducible first | exact HB.out | apply below_alloc | apply pw_below_drewN | apply below_drew1 | refine below_set ?_ GE197.out) | exact HB.out)) hb); clear BK197; clear HB; have BK197 := n0_; have HB := n1_; clear n0_ n1_; (try clear hb); (try clear hb2); (try clear hk); (try clear hi)) | (go_at_call 21; (with_reducible refine (impl_ListPlain.calls _ _ l0 t206 _ ?side1 ?side2 A42.out).mono ?_); (case side1 => repeat (first | exact (Kd.C_below HR0.out HB.out) | (with_reducible refine Kd.C_alloc ?_ _) | (with_reducible refine Kd.C_drewN ?_ _) | (with_reducible refine Kd.C_drew ?_))); (case side2 => exact HC0.out); rintro e w61 ⟨rfl, hb⟩; have n0_ := Aside0.mk (blk_below (g := gb197) (o := .cells #[.int .i64 a1_0, .string a1_1, .string a1_2, .string a1_3, .string a1_4, .string a1_5, .string a1_6, .string a1_7, .string a1_8] 24 (0, 0)) (by (with_reducible repeat (first | refine blk_drewN ?_ _ | refine blk_drew ?_ | refine blk_alloc ?_ _)); exact BK197.out) hb); have n1_ := Aside0.mk (below_step (by repeat (first | (with_reducible first | exact HB.out | apply below_alloc | apply pw_below_drewN | apply below_drew1 | refine below_set ?_ GE197.out) | exact HB.out)) hb); clear BK197; clear HB; have BK197 := n0_; have HB := n1_; clear n0_ n1_; (try clear hb); (try clear hb2); (try clear hk); (try clear hi); have hcz62_0 : w61.cell? ⟨gb197, 0, none⟩ = some (.int .i64 a1_0) := (blk_cell BK197.out 0).trans rfl; have hcz62_1 : w61.cell? ⟨gb197, 1, none⟩ = some (.string a1_1) := (blk_cell BK197.out 1).trans rfl; have hcz62_2 : w61.cell? ⟨gb197, 2, none⟩ = some (.string a1_2) := (blk_cell BK197.out 2).trans rfl; have hcz62_3 : w61.cell? ⟨gb197, 3, none⟩ = some (.string a1_3) := (blk_cell BK197.out 3).trans rfl; have hcz62_4 : w61.cell? ⟨gb197, 4, none⟩ = some (.string a1_4) := (blk_cell BK197.out 4).trans rfl; have hcz62_5 : w61.cell? ⟨gb197, 5, none⟩ = some (.string a1_5) := (blk_cell BK197.out 5).trans rfl; have hcz62_6 : w61.cell? ⟨gb197, 6, none⟩ = some (.string a1_6) := (blk_cell BK197.out 6).trans rfl; have hcz62_7 : w61.cell? ⟨gb197, 7, none⟩ = some (.string a1_7) := (blk_cell BK197.out 7).trans rfl; have hcz62_8 : w61.cell? ⟨gb197, 8, none⟩ = some (.string a1_8) := (blk_cell BK197.out 8).trans rfl; have hfz62_0 := blk_frozen BK197.out 0; have hfz62_1 := blk_frozen BK197.out 1; have hfz62_2 := blk_frozen BK197.out 2; have hfz62_3 := blk_frozen BK197.out 3; have hfz62_4 := blk_frozen BK197.out 4; have hfz62_5 := blk_frozen BK197.out 5; have hfz62_6 := blk_frozen BK197.out 6; have hfz62_7 := blk_frozen BK197.out 7; have hfz62_8 := blk_frozen BK197.out 8) | (go_at_call 16; (with_reducible refine (impl_ListMarkdown.calls _ _ l0 a1_0 a1_1 a1_2 a1_3 a1_4 a1_5 a1_6 a1_7 a1_8 t207 _ ?side1 ?side2 A44.out).mono ?_); (case side1 => repeat (first | exact (Kd.C_below HR0.out HB.out) | (with_reducible refine Kd.C_alloc ?_ _) | (with_reducible refine Kd.C_drewN ?_ _) | (with_reducible refine Kd.C_drew ?_))); (case side2 => exact HC0.out); rintro e w63 ⟨rfl, hb⟩; have n0_ := Aside0.mk (blk_below (g := gb197) (o := .cells #[.int .i64 a1_0, .string a1_1, .string a1_2, .string a1_3, .string a1_4, .string a1_5, .string a1_6, .string a1_7, .string a1_8] 24 (0, 0)) (by (with_reducible repeat (first | refine blk_drewN ?_ _ | refine blk_drew ?_ | refine blk_alloc ?_ _)); exact BK197.out) hb); have n1_ := Aside0.mk (below_step (by repeat (first | (with_reducible first | exact HB.out | apply below_alloc | apply pw_below_drewN | apply below_drew1 | refine below_set ?_ GE197.out) | exact HB.out)) hb); clear BK197; clear HB; have BK197 := n0_; have HB := n1_; clear n0_ n1_; (try clear hb); (try clear hb2); (try clear hk); (try clear hi)) | (go_at_call 18; (with_reducible refine (impl_ListHTML.calls _ _ l0 a2 t208 _ ?side1 ?side2 A46.out).mono ?_); (case side1 => repeat (first | exact (Kd.C_below HR0.out HB.out) | (with_reducible refine Kd.C_alloc ?_ _) | (with_reducible refine Kd.C_drewN ?_ _) | (with_reducible refine Kd.C_drew ?_))); (case side2 => exact HC0.out); rintro e w64 ⟨rfl, hb⟩; have n0_ := Aside0.mk (blk_below (g := gb197) (o := .cells #[.int .i64 a1_0, .string a1_1, .string a1_2, .string a1_3, .string a1_4, .string a1_5, .string a1_6, .string a1_7, .string a1_8] 24 (0, 0)) (by (with_reducible repeat (first | refine blk_drewN ?_ _ | refine blk_drew ?_ | refine blk_alloc ?_ _)); exact BK197.out) hb); have n1_ := Aside0.mk (below_step (by repeat (first | (with_reducible first | exact HB.out | apply below_alloc | apply pw_below_drewN | apply below_drew1 | refine below_set ?_ GE197.out) | exact HB.out)) hb); clear BK197; clear HB; have BK197 := n0_; have HB := n1_; clear n0_ n1_; (try clear hb); (try clear hb2); (try clear hk); (try clear hi)) | (go_at_call 22; (with_reducible refine (impl_ListLength.calls _ _ l0 t209 _ ?side1 ?side2 A48.out).mono ?_); (case side1 => repeat (first | exact (Kd.C_below HR0.out HB.out) | (with_reducible refine Kd.C_alloc ?_ _) | (with_reducible refine Kd.C_drewN ?_ _) | (with_reducible refine Kd.C_drew ?_))); (case side2 => exact HC0.out); rintro e w65 ⟨rfl, hb⟩; have n0_ := Aside0.mk (blk_below (g := gb197) (o := .cells #[.int .i64 a1_0, .string a1_1, .string a1_2, .string a1_3, .string a1_4, .string a1_5, .string a1_6, .string a1_7, .string a1_8] 24 (0, 0)) (by (with_reducible repeat (first | refine blk_drewN ?_ _ | refine blk_drew ?_ | refine blk_alloc ?_ _)); exact BK197.out) hb); have n1_ := Aside0.mk (below_step (by repeat (first | (with_reducible first | exact HB.out | apply below_alloc | apply pw_below_drewN | apply below_drew1 | refine below_set ?_ GE197.out) | exact HB.out)) hb); clear BK197; clear HB; have BK197 := n0_; have HB := n1_; clear n0_ n1_; (try clear hb); (try clear hb2); (try clear hk); (try clear hi)))
                        go_ret
                        exact ⟨by first | rfl | (simp [errW_none, errW_some] <;> rfl) | (have e_ : ∀ l_ : List UInt8, (l_ != []) = !l_.isEmpty := fun l_ => (by cases l_ <;> rfl); simp [errW_none, errW_some, e_]; done) | (simp [*, errW_none, errW_some] <;> rfl), by repeat (first | (with_reducible first | exact HB.out | apply below_alloc | apply pw_below_drewN | apply below_drew1 | refine below_set ?_ GE197.out) | exact HB.out)⟩
                    · rw [if_neg c47] at H
                      have c47b0 : (t208.toList == ([] : List UInt8)) = false := beq_eq_false_iff_ne.mpr c47
                      have c47b7 : t208.toList.isEmpty = false := by simpa using c47
                      have c47b1 : (t208.toList != ([] : List UInt8)) = true := bne_iff_ne.mpr c47
                      obtain rfl := Option.some.inj H
                      have hcz66_0 : wc.cell? ⟨gb197, 0, none⟩ = some (.int .i64 a1_0) := (blk_cell BK197.out 0).trans rfl
                      have hcz66_1 : wc.cell? ⟨gb197, 1, none⟩ = some (.string a1_1) := (blk_cell BK197.out 1).trans rfl
                      have hcz66_2 : wc.cell? ⟨gb197, 2, none⟩ = some (.string a1_2) := (blk_cell BK197.out 2).trans rfl
                      have hcz66_3 : wc.cell? ⟨gb197, 3, none⟩ = some (.string a1_3) := (blk_cell BK197.out 3).trans rfl
                      have hcz66_4 : wc.cell? ⟨gb197, 4, none⟩ = some (.string a1_4) := (blk_cell BK197.out 4).trans rfl
                      have hcz66_5 : wc.cell? ⟨gb197, 5, none⟩ = some (.string a1_5) := (blk_cell BK197.out 5).trans rfl
                      have hcz66_6 : wc.cell? ⟨gb197, 6, none⟩ = some (.string a1_6) := (blk_cell BK197.out 6).trans rfl
                      have hcz66_7 : wc.cell? ⟨gb197, 7, none⟩ = some (.string a1_7) := (blk_cell BK197.out 7).trans rfl
                      have hcz66_8 : wc.cell? ⟨gb197, 8, none⟩ = some (.string a1_8) := (blk_cell BK197.out 8).trans rfl
                      have hfz66_0 := blk_frozen BK197.out 0
                      have hfz66_1 := blk_frozen BK197.out 1
                      have hfz66_2 := blk_frozen BK197.out 2
                      have hfz66_3 := blk_frozen BK197.out 3
                      have hfz66_4 := blk_frozen BK197.out 4
                      have hfz66_5 := blk_frozen BK197.out 5
                      have hfz66_6 := blk_frozen BK197.out 6
                      have hfz66_7 := blk_frozen BK197.out 7
                      have hfz66_8 := blk_frozen BK197.out 8
                      go_wp2_with (first | ((with_reducible refine gate_callee (f := 14) rfl ?_); refine goesL_ (some 41) rfl rfl Tryz.func14 (by kernel_rfl) rfl #[.slice A0 l0.length c0, .agg #[.int .i64 a1_0, .string a1_1, .string a1_2, .string a1_3, .string a1_4, .string a1_5, .string a1_6, .string a1_7, .string a1_8]] rfl (by (try simp only [List.map_toArray, List.map_cons, List.map_nil]); first | done | rfl | (simp only [List.length_drop, List.length_take]; rfl)) ?_; (with_reducible refine (impl_ListRender.calls _ _ l0 a1_0 a1_1 a1_2 a1_3 a1_4 a1_5 a1_6 a1_7 a1_8 t205 _ ?side1 ?side2 A40.out).mono ?_); (case side1 => repeat (first | exact (Kd.C_below HR0.out HB.out) | (with_reducible refine Kd.C_alloc ?_ _) | (with_reducible refine Kd.C_drewN ?_ _) | (with_reducible refine Kd.C_drew ?_))); (case side2 => exact HC0.out); rintro e w67 ⟨rfl, hb⟩; refine ⟨_, rfl, ?_⟩; have n0_ := Aside0.mk (blk_below (g := gb197) (o := .cells #[.int .i64 a1_0, .string a1_1, .string a1_2, .string a1_3, .string a1_4, .string a1_5, .string a1_6, .string a1_7, .string a1_8] 24 (0, 0)) (by (with_reducible repeat (first | refine blk_drewN ?_ _ | refine blk_drew ?_ | refine blk_alloc ?_ _)); exact BK197.out) hb); have n1_ := Aside0.mk (below_step (by repeat (first | (with_reducible first | exact HB.out | apply below_alloc | apply pw_below_drewN | apply below_drew1 | refine below_set ?_ GE197.out) | exact HB.out)) hb); clear BK197; clear HB; have BK197 := n0_; have HB := n1_; clear n0_ n1_; (try clear hb); (try clear hb2); (try clear hk); (try clear hi)) | (go_at_call 21; (with_reducible refine (impl_ListPlain.calls _ _ l0 t206 _ ?side1 ?side2 A42.out).mono ?_); (case side1 => repeat (first | exact (Kd.C_below HR0.out HB.out) | (with_reducible refine Kd.C_alloc ?_ _) | (with_reducible refine Kd.C_drewN ?_ _) | (with_reducible refine Kd.C_drew ?_))); (case side2 => exact HC0.out); rintro e w68 ⟨rfl, hb⟩; have n0_ := Aside0.mk (blk_below (g := gb197) (o := .cells #[.int .i64 a1_0, .string a1_1, .string a1_2, .string a1_3, .string a1_4, .string a1_5, .string a1_6, .string a1_7, .string a1_8] 24 (0, 0)) (by (with_reducible repeat (first | refine blk_drewN ?_ _ | refine blk_drew ?_ | refine blk_alloc ?_ _)); exact BK197.out) hb); have n1_ := Aside0.mk (below_step (by repeat (first | (with_reducible first | exact HB.out | apply below_alloc | apply pw_below_drewN | apply below_drew1 | refine below_set ?_ GE197.out) | exact HB.out)) hb); clear BK197; clear HB; have BK197 := n0_; have HB := n1_; clear n0_ n1_; (try clear hb); (try clear hb2); (try clear hk); (try clear hi); have hcz69_0 : w68.cell? ⟨gb197, 0, none⟩ = some (.int .i64 a1_0) := (blk_cell BK197.out 0).trans rfl; have hcz69_1 : w68.cell? ⟨gb197, 1, none⟩ = some (.string a1_1) := (blk_cell BK197.out 1).trans rfl; have hcz69_2 : w68.cell? ⟨gb197, 2, none⟩ = some (.string a1_2) := (blk_cell BK197.out 2).trans rfl; have hcz69_3 : w68.cell? ⟨gb197, 3, none⟩ = some (.string a1_3) := (blk_cell BK197.out 3).trans rfl; have hcz69_4 : w68.cell? ⟨gb197, 4, none⟩ = some (.string a1_4) := (blk_cell BK197.out 4).trans rfl; have hcz69_5 : w68.cell? ⟨gb197, 5, none⟩ = some (.string a1_5) := (blk_cell BK197.out 5).trans rfl; have hcz69_6 : w68.cell? ⟨gb197, 6, none⟩ = some (.string a1_6) := (blk_cell BK197.out 6).trans rfl; have hcz69_7 : w68.cell? ⟨gb197, 7, none⟩ = some (.string a1_7) := (blk_cell BK197.out 7).trans rfl; have hcz69_8 : w68.cell? ⟨gb197, 8, none⟩ = some (.string a1_8) := (blk_cell BK197.out 8).trans rfl; have hfz69_0 := blk_frozen BK197.out 0; have hfz69_1 := blk_frozen BK197.out 1; have hfz69_2 := blk_frozen BK197.out 2; have hfz69_3 := blk_frozen BK197.out 3; have hfz69_4 := blk_frozen BK197.out 4; have hfz69_5 := blk_frozen BK197.out 5; have hfz69_6 := blk_frozen BK197.out 6; have hfz69_7 := blk_frozen BK197.out 7; have hfz69_8 := blk_frozen BK197.out 8) | (go_at_call 16; (with_reducible refine (impl_ListMarkdown.calls _ _ l0 a1_0 a1_1 a1_2 a1_3 a1_4 a1_5 a1_6 a1_7 a1_8 t207 _ ?side1 ?side2 A44.out).mono ?_); (case side1 => repeat (first | exact (Kd.C_below HR0.out HB.out) | (with_reducible refine Kd.C_alloc ?_ _) | (with_reducible refine Kd.C_drewN ?_ _) | (with_reducible refine Kd.C_drew ?_))); (case side2 => exact HC0.out); rintro e w70 ⟨rfl, hb⟩; have n0_ := Aside0.mk (blk_below (g := gb197) (o := .cells #[.int .i64 a1_0, .string a1_1, .string a1_2, .string a1_3, .string a1_4, .string a1_5, .string a1_6, .string a1_7, .string a1_8] 24 (0, 0)) (by (with_reducible repeat (first | refine blk_drewN ?_ _ | refine blk_drew ?_ | refine blk_alloc ?_ _)); exact BK197.out) hb); have n1_ := Aside0.mk (below_step (by repeat (first | (with_reducible first | exact HB.out | apply below_alloc | apply pw_below_drewN | apply below_drew1 | refine below_set ?_ GE197.out) | exact HB.out)) hb); clear BK197; clear HB; have BK197 := n0_; have HB := n1_; clear n0_ n1_; (try clear hb); (try clear hb2); (try clear hk); (try clear hi)) | (go_at_call 18; (with_reducible refine (impl_ListHTML.calls _ _ l0 a2 t208 _ ?side1 ?side2 A46.out).mono ?_); (case side1 => repeat (first | exact (Kd.C_below HR0.out HB.out) | (with_reducible refine Kd.C_alloc ?_ _) | (with_reducible refine Kd.C_drewN ?_ _) | (with_reducible refine Kd.C_drew ?_))); (case side2 => exact HC0.out); rintro e w71 ⟨rfl, hb⟩; have n0_ := Aside0.mk (blk_below (g := gb197) (o := .cells #[.int .i64 a1_0, .string a1_1, .string a1_2, .string a1_3, .string a1_4, .string a1_5, .string a1_6, .string a1_7, .string a1_8] 24 (0, 0)) (by (with_reducible repeat (first | refine blk_drewN ?_ _ | refine blk_drew ?_ | refine blk_alloc ?_ _)); exact BK197.out) hb); have n1_ := Aside0.mk (below_step (by repeat (first | (with_reducible first | exact HB.out | apply below_alloc | apply pw_below_drewN | apply below_drew1 | refine below_set ?_ GE197.out) | exact HB.out)) hb); clear BK197; clear HB; have BK197 := n0_; have HB := n1_; clear n0_ n1_; (try clear hb); (try clear hb2); (try clear hk); (try clear hi)))
                      go_ret
                      exact ⟨by first | rfl | (simp [errW_none, errW_some] <;> rfl) | (have e_ : ∀ l_ : List UInt8, (l_ != []) = !l_.isEmpty := fun l_ => (by cases l_ <;> rfl); simp [errW_none, errW_some, e_]; done) | (simp [*, errW_none, errW_some] <;> rfl), by repeat (first | (with_reducible first | exact HB.out | apply below_alloc | apply pw_below_drewN | apply below_drew1 | refine below_set ?_ GE197.out) | exact HB.out)⟩
                  · rw [if_neg c45] at H
                    have c45b0 : (t207.toList == ([] : List UInt8)) = false := beq_eq_false_iff_ne.mpr c45
                    have c45b7 : t207.toList.isEmpty = false := by simpa using c45
                    have c45b1 : (t207.toList != ([] : List UInt8)) = true := bne_iff_ne.mpr c45
                    obtain rfl := Option.some.inj H
                    have hcz72_0 : wc.cell? ⟨gb197, 0, none⟩ = some (.int .i64 a1_0) := (blk_cell BK197.out 0).trans rfl
                    have hcz72_1 : wc.cell? ⟨gb197, 1, none⟩ = some (.string a1_1) := (blk_cell BK197.out 1).trans rfl
                    have hcz72_2 : wc.cell? ⟨gb197, 2, none⟩ = some (.string a1_2) := (blk_cell BK197.out 2).trans rfl
                    have hcz72_3 : wc.cell? ⟨gb197, 3, none⟩ = some (.string a1_3) := (blk_cell BK197.out 3).trans rfl
                    have hcz72_4 : wc.cell? ⟨gb197, 4, none⟩ = some (.string a1_4) := (blk_cell BK197.out 4).trans rfl
                    have hcz72_5 : wc.cell? ⟨gb197, 5, none⟩ = some (.string a1_5) := (blk_cell BK197.out 5).trans rfl
                    have hcz72_6 : wc.cell? ⟨gb197, 6, none⟩ = some (.string a1_6) := (blk_cell BK197.out 6).trans rfl
                    have hcz72_7 : wc.cell? ⟨gb197, 7, none⟩ = some (.string a1_7) := (blk_cell BK197.out 7).trans rfl
                    have hcz72_8 : wc.cell? ⟨gb197, 8, none⟩ = some (.string a1_8) := (blk_cell BK197.out 8).trans rfl
                    have hfz72_0 := blk_frozen BK197.out 0
                    have hfz72_1 := blk_frozen BK197.out 1
                    have hfz72_2 := blk_frozen BK197.out 2
                    have hfz72_3 := blk_frozen BK197.out 3
                    have hfz72_4 := blk_frozen BK197.out 4
                    have hfz72_5 := blk_frozen BK197.out 5
                    have hfz72_6 := blk_frozen BK197.out 6
                    have hfz72_7 := blk_frozen BK197.out 7
                    have hfz72_8 := blk_frozen BK197.out 8
                    go_wp2_with (first | ((with_reducible refine gate_callee (f := 14) rfl ?_); refine goesL_ (some 41) rfl rfl Tryz.func14 (by kernel_rfl) rfl #[.slice A0 l0.length c0, .agg #[.int .i64 a1_0, .string a1_1, .string a1_2, .string a1_3, .string a1_4, .string a1_5, .string a1_6, .string a1_7, .string a1_8]] rfl (by (try simp only [List.map_toArray, List.map_cons, List.map_nil]); first | done | rfl | (simp only [List.length_drop, List.length_take]; rfl)) ?_; (with_reducible refine (impl_ListRender.calls _ _ l0 a1_0 a1_1 a1_2 a1_3 a1_4 a1_5 a1_6 a1_7 a1_8 t205 _ ?side1 ?side2 A40.out).mono ?_); (case side1 => repeat (first | exact (Kd.C_below HR0.out HB.out) | (with_reducible refine Kd.C_alloc ?_ _) | (with_reducible refine Kd.C_drewN ?_ _) | (with_reducible refine Kd.C_drew ?_))); (case side2 => exact HC0.out); rintro e w73 ⟨rfl, hb⟩; refine ⟨_, rfl, ?_⟩; have n0_ := Aside0.mk (blk_below (g := gb197) (o := .cells #[.int .i64 a1_0, .string a1_1, .string a1_2, .string a1_3, .string a1_4, .string a1_5, .string a1_6, .string a1_7, .string a1_8] 24 (0, 0)) (by (with_reducible repeat (first | refine blk_drewN ?_ _ | refine blk_drew ?_ | refine blk_alloc ?_ _)); exact BK197.out) hb); have n1_ := Aside0.mk (below_step (by repeat (first | (with_reducible first | exact HB.out | apply below_alloc | apply pw_below_drewN | apply below_drew1 | refine below_set ?_ GE197.out) | exact HB.out)) hb); clear BK197; clear HB; have BK197 := n0_; have HB := n1_; clear n0_ n1_; (try clear hb); (try clear hb2); (try clear hk); (try clear hi)) | (go_at_call 21; (with_reducible refine (impl_ListPlain.calls _ _ l0 t206 _ ?side1 ?side2 A42.out).mono ?_); (case side1 => repeat (first | exact (Kd.C_below HR0.out HB.out) | (with_reducible refine Kd.C_alloc ?_ _) | (with_reducible refine Kd.C_drewN ?_ _) | (with_reducible refine Kd.C_drew ?_))); (case side2 => exact HC0.out); rintro e w74 ⟨rfl, hb⟩; have n0_ := Aside0.mk (blk_below (g := gb197) (o := .cells #[.int .i64 a1_0, .string a1_1, .string a1_2, .string a1_3, .string a1_4, .string a1_5, .string a1_6, .string a1_7, .string a1_8] 24 (0, 0)) (by (with_reducible repeat (first | refine blk_drewN ?_ _ | refine blk_drew ?_ | refine blk_alloc ?_ _)); exact BK197.out) hb); have n1_ := Aside0.mk (below_step (by repeat (first | (with_reducible first | exact HB.out | apply below_alloc | apply pw_below_drewN | apply below_drew1 | refine below_set ?_ GE197.out) | exact HB.out)) hb); clear BK197; clear HB; have BK197 := n0_; have HB := n1_; clear n0_ n1_; (try clear hb); (try clear hb2); (try clear hk); (try clear hi); have hcz75_0 : w74.cell? ⟨gb197, 0, none⟩ = some (.int .i64 a1_0) := (blk_cell BK197.out 0).trans rfl; have hcz75_1 : w74.cell? ⟨gb197, 1, none⟩ = some (.string a1_1) := (blk_cell BK197.out 1).trans rfl; have hcz75_2 : w74.cell? ⟨gb197, 2, none⟩ = some (.string a1_2) := (blk_cell BK197.out 2).trans rfl; have hcz75_3 : w74.cell? ⟨gb197, 3, none⟩ = some (.string a1_3) := (blk_cell BK197.out 3).trans rfl; have hcz75_4 : w74.cell? ⟨gb197, 4, none⟩ = some (.string a1_4) := (blk_cell BK197.out 4).trans rfl; have hcz75_5 : w74.cell? ⟨gb197, 5, none⟩ = some (.string a1_5) := (blk_cell BK197.out 5).trans rfl; have hcz75_6 : w74.cell? ⟨gb197, 6, none⟩ = some (.string a1_6) := (blk_cell BK197.out 6).trans rfl; have hcz75_7 : w74.cell? ⟨gb197, 7, none⟩ = some (.string a1_7) := (blk_cell BK197.out 7).trans rfl; have hcz75_8 : w74.cell? ⟨gb197, 8, none⟩ = some (.string a1_8) := (blk_cell BK197.out 8).trans rfl; have hfz75_0 := blk_frozen BK197.out 0; have hfz75_1 := blk_frozen BK197.out 1; have hfz75_2 := blk_frozen BK197.out 2; have hfz75_3 := blk_frozen BK197.out 3; have hfz75_4 := blk_frozen BK197.out 4; have hfz75_5 := blk_frozen BK197.out 5; have hfz75_6 := blk_frozen BK197.out 6; have hfz75_7 := blk_frozen BK197.out 7; have hfz75_8 := blk_frozen BK197.out 8) | (go_at_call 16; (with_reducible refine (impl_ListMarkdown.calls _ _ l0 a1_0 a1_1 a1_2 a1_3 a1_4 a1_5 a1_6 a1_7 a1_8 t207 _ ?side1 ?side2 A44.out).mono ?_); (case side1 => repeat (first | exact (Kd.C_below HR0.out HB.out) | (with_reducible refine Kd.C_alloc ?_ _) | (with_reducible refine Kd.C_drewN ?_ _) | (with_reducible refine Kd.C_drew ?_))); (case side2 => exact HC0.out); rintro e w76 ⟨rfl, hb⟩; have n0_ := Aside0.mk (blk_below (g := gb197) (o := .cells #[.int .i64 a1_0, .string a1_1, .string a1_2, .string a1_3, .string a1_4, .string a1_5, .string a1_6, .string a1_7, .string a1_8] 24 (0, 0)) (by (with_reducible repeat (first | refine blk_drewN ?_ _ | refine blk_drew ?_ | refine blk_alloc ?_ _)); exact BK197.out) hb); have n1_ := Aside0.mk (below_step (by repeat (first | (with_reducible first | exact HB.out | apply below_alloc | apply pw_below_drewN | apply below_drew1 | refine below_set ?_ GE197.out) | exact HB.out)) hb); clear BK197; clear HB; have BK197 := n0_; have HB := n1_; clear n0_ n1_; (try clear hb); (try clear hb2); (try clear hk); (try clear hi)))
                    go_ret
                    exact ⟨by first | rfl | (simp [errW_none, errW_some] <;> rfl) | (have e_ : ∀ l_ : List UInt8, (l_ != []) = !l_.isEmpty := fun l_ => (by cases l_ <;> rfl); simp [errW_none, errW_some, e_]; done) | (simp [*, errW_none, errW_some] <;> rfl), by repeat (first | (with_reducible first | exact HB.out | apply below_alloc | apply pw_below_drewN | apply below_drew1 | refine below_set ?_ GE197.out) | exact HB.out)⟩
                · rw [if_neg c43] at H
                  have c43b0 : (t206.toList == ([] : List UInt8)) = false := beq_eq_false_iff_ne.mpr c43
                  have c43b7 : t206.toList.isEmpty = false := by simpa using c43
                  have c43b1 : (t206.toList != ([] : List UInt8)) = true := bne_iff_ne.mpr c43
                  obtain rfl := Option.some.inj H
                  have hcz77_0 : wc.cell? ⟨gb197, 0, none⟩ = some (.int .i64 a1_0) := (blk_cell BK197.out 0).trans rfl
                  have hcz77_1 : wc.cell? ⟨gb197, 1, none⟩ = some (.string a1_1) := (blk_cell BK197.out 1).trans rfl
                  have hcz77_2 : wc.cell? ⟨gb197, 2, none⟩ = some (.string a1_2) := (blk_cell BK197.out 2).trans rfl
                  have hcz77_3 : wc.cell? ⟨gb197, 3, none⟩ = some (.string a1_3) := (blk_cell BK197.out 3).trans rfl
                  have hcz77_4 : wc.cell? ⟨gb197, 4, none⟩ = some (.string a1_4) := (blk_cell BK197.out 4).trans rfl
                  have hcz77_5 : wc.cell? ⟨gb197, 5, none⟩ = some (.string a1_5) := (blk_cell BK197.out 5).trans rfl
                  have hcz77_6 : wc.cell? ⟨gb197, 6, none⟩ = some (.string a1_6) := (blk_cell BK197.out 6).trans rfl
                  have hcz77_7 : wc.cell? ⟨gb197, 7, none⟩ = some (.string a1_7) := (blk_cell BK197.out 7).trans rfl
                  have hcz77_8 : wc.cell? ⟨gb197, 8, none⟩ = some (.string a1_8) := (blk_cell BK197.out 8).trans rfl
                  have hfz77_0 := blk_frozen BK197.out 0
                  have hfz77_1 := blk_frozen BK197.out 1
                  have hfz77_2 := blk_frozen BK197.out 2
                  have hfz77_3 := blk_frozen BK197.out 3
                  have hfz77_4 := blk_frozen BK197.out 4
                  have hfz77_5 := blk_frozen BK197.out 5
                  have hfz77_6 := blk_frozen BK197.out 6
                  have hfz77_7 := blk_frozen BK197.out 7
                  have hfz77_8 := blk_frozen BK197.out 8
                  go_wp2_with (first | ((with_reducible refine gate_callee (f := 14) rfl ?_); refine goesL_ (some 41) rfl rfl Tryz.func14 (by kernel_rfl) rfl #[.slice A0 l0.length c0, .agg #[.int .i64 a1_0, .string a1_1, .string a1_2, .string a1_3, .string a1_4, .string a1_5, .string a1_6, .string a1_7, .string a1_8]] rfl (by (try simp only [List.map_toArray, List.map_cons, List.map_nil]); first | done | rfl | (simp only [List.length_drop, List.length_take]; rfl)) ?_; (with_reducible refine (impl_ListRender.calls _ _ l0 a1_0 a1_1 a1_2 a1_3 a1_4 a1_5 a1_6 a1_7 a1_8 t205 _ ?side1 ?side2 A40.out).mono ?_); (case side1 => repeat (first | exact (Kd.C_below HR0.out HB.out) | (with_reducible refine Kd.C_alloc ?_ _) | (with_reducible refine Kd.C_drewN ?_ _) | (with_reducible refine Kd.C_drew ?_))); (case side2 => exact HC0.out); rintro e w78 ⟨rfl, hb⟩; refine ⟨_, rfl, ?_⟩; have n0_ := Aside0.mk (blk_below (g := gb197) (o := .cells #[.int .i64 a1_0, .string a1_1, .string a1_2, .string a1_3, .string a1_4, .string a1_5, .string a1_6, .string a1_7, .string a1_8] 24 (0, 0)) (by (with_reducible repeat (first | refine blk_drewN ?_ _ | refine blk_drew ?_ | refine blk_alloc ?_ _)); exact BK197.out) hb); have n1_ := Aside0.mk (below_step (by repeat (first | (with_reducible first | exact HB.out | apply below_alloc | apply pw_below_drewN | apply below_drew1 | refine below_set ?_ GE197.out) | exact HB.out)) hb); clear BK197; clear HB; have BK197 := n0_; have HB := n1_; clear n0_ n1_; (try clear hb); (try clear hb2); (try clear hk); (try clear hi)) | (go_at_call 21; (with_reducible refine (impl_ListPlain.calls _ _ l0 t206 _ ?side1 ?side2 A42.out).mono ?_); (case side1 => repeat (first | exact (Kd.C_below HR0.out HB.out) | (with_reducible refine Kd.C_alloc ?_ _) | (with_reducible refine Kd.C_drewN ?_ _) | (with_reducible refine Kd.C_drew ?_))); (case side2 => exact HC0.out); rintro e w79 ⟨rfl, hb⟩; have n0_ := Aside0.mk (blk_below (g := gb197) (o := .cells #[.int .i64 a1_0, .string a1_1, .string a1_2, .string a1_3, .string a1_4, .string a1_5, .string a1_6, .string a1_7, .string a1_8] 24 (0, 0)) (by (with_reducible repeat (first | refine blk_drewN ?_ _ | refine blk_drew ?_ | refine blk_alloc ?_ _)); exact BK197.out) hb); have n1_ := Aside0.mk (below_step (by repeat (first | (with_reducible first | exact HB.out | apply below_alloc | apply pw_below_drewN | apply below_drew1 | refine below_set ?_ GE197.out) | exact HB.out)) hb); clear BK197; clear HB; have BK197 := n0_; have HB := n1_; clear n0_ n1_; (try clear hb); (try clear hb2); (try clear hk); (try clear hi)))
                  go_ret
                  exact ⟨by first | rfl | (simp [errW_none, errW_some] <;> rfl) | (have e_ : ∀ l_ : List UInt8, (l_ != []) = !l_.isEmpty := fun l_ => (by cases l_ <;> rfl); simp [errW_none, errW_some, e_]; done) | (simp [*, errW_none, errW_some] <;> rfl), by repeat (first | (with_reducible first | exact HB.out | apply below_alloc | apply pw_below_drewN | apply below_drew1 | refine below_set ?_ GE197.out) | exact HB.out)⟩
              · rw [if_neg c41] at H
                have c41b0 : (t205.toList == ([] : List UInt8)) = false := beq_eq_false_iff_ne.mpr c41
                have c41b7 : t205.toList.isEmpty = false := by simpa using c41
                have c41b1 : (t205.toList != ([] : List UInt8)) = true := bne_iff_ne.mpr c41
                obtain rfl := Option.some.inj H
                have hcz80_0 : wc.cell? ⟨gb197, 0, none⟩ = some (.int .i64 a1_0) := (blk_cell BK197.out 0).trans rfl
                have hcz80_1 : wc.cell? ⟨gb197, 1, none⟩ = some (.string a1_1) := (blk_cell BK197.out 1).trans rfl
                have hcz80_2 : wc.cell? ⟨gb197, 2, none⟩ = some (.string a1_2) := (blk_cell BK197.out 2).trans rfl
                have hcz80_3 : wc.cell? ⟨gb197, 3, none⟩ = some (.string a1_3) := (blk_cell BK197.out 3).trans rfl
                have hcz80_4 : wc.cell? ⟨gb197, 4, none⟩ = some (.string a1_4) := (blk_cell BK197.out 4).trans rfl
                have hcz80_5 : wc.cell? ⟨gb197, 5, none⟩ = some (.string a1_5) := (blk_cell BK197.out 5).trans rfl
                have hcz80_6 : wc.cell? ⟨gb197, 6, none⟩ = some (.string a1_6) := (blk_cell BK197.out 6).trans rfl
                have hcz80_7 : wc.cell? ⟨gb197, 7, none⟩ = some (.string a1_7) := (blk_cell BK197.out 7).trans rfl
                have hcz80_8 : wc.cell? ⟨gb197, 8, none⟩ = some (.string a1_8) := (blk_cell BK197.out 8).trans rfl
                have hfz80_0 := blk_frozen BK197.out 0
                have hfz80_1 := blk_frozen BK197.out 1
                have hfz80_2 := blk_frozen BK197.out 2
                have hfz80_3 := blk_frozen BK197.out 3
                have hfz80_4 := blk_frozen BK197.out 4
                have hfz80_5 := blk_frozen BK197.out 5
                have hfz80_6 := blk_frozen BK197.out 6
                have hfz80_7 := blk_frozen BK197.out 7
                have hfz80_8 := blk_frozen BK197.out 8
                go_wp2_with (first | ((with_reducible refine gate_callee (f := 14) rfl ?_); refine goesL_ (some 41) rfl rfl Tryz.func14 (by kernel_rfl) rfl #[.slice A0 l0.length c0, .agg #[.int .i64 a1_0, .string a1_1, .string a1_2, .string a1_3, .string a1_4, .string a1_5, .string a1_6, .string a1_7, .string a1_8]] rfl (by (try simp only [List.map_toArray, List.map_cons, List.map_nil]); first | done | rfl | (simp only [List.length_drop, List.length_take]; rfl)) ?_; (with_reducible refine (impl_ListRender.calls _ _ l0 a1_0 a1_1 a1_2 a1_3 a1_4 a1_5 a1_6 a1_7 a1_8 t205 _ ?side1 ?side2 A40.out).mono ?_); (case side1 => repeat (first | exact (Kd.C_below HR0.out HB.out) | (with_reducible refine Kd.C_alloc ?_ _) | (with_reducible refine Kd.C_drewN ?_ _) | (with_reducible refine Kd.C_drew ?_))); (case side2 => exact HC0.out); rintro e w81 ⟨rfl, hb⟩; refine ⟨_, rfl, ?_⟩; have n0_ := Aside0.mk (blk_below (g := gb197) (o := .cells #[.int .i64 a1_0, .string a1_1, .string a1_2, .string a1_3, .string a1_4, .string a1_5, .string a1_6, .string a1_7, .string a1_8] 24 (0, 0)) (by (with_reducible repeat (first | refine blk_drewN ?_ _ | refine blk_drew ?_ | refine blk_alloc ?_ _)); exact BK197.out) hb); have n1_ := Aside0.mk (below_step (by repeat (first | (with_reducible first | exact HB.out | apply below_alloc | apply pw_below_drewN | apply below_drew1 | refine below_set ?_ GE197.out) | exact HB.out)) hb); clear BK197; clear HB; have BK197 := n0_; have HB := n1_; clear n0_ n1_; (try clear hb); (try clear hb2); (try clear hk); (try clear hi)))
                go_ret
                exact ⟨by first | rfl | (simp [errW_none, errW_some] <;> rfl) | (have e_ : ∀ l_ : List UInt8, (l_ != []) = !l_.isEmpty := fun l_ => (by cases l_ <;> rfl); simp [errW_none, errW_some, e_]; done) | (simp [*, errW_none, errW_some] <;> rfl), by repeat (first | (with_reducible first | exact HB.out | apply below_alloc | apply pw_below_drewN | apply below_drew1 | refine below_set ?_ GE197.out) | exact HB.out)⟩

/-! ### spec_TxTight: function 59 -/
def spec_TxTight.f (a0 : ByteArray) : Option (Bool) := if a0.toList = ([] : List UInt8) then (some false) else (if 0 < (a0.size : Int) then (if (bt a0 0) = 32 then (some false) else (if 0 ≤ (wrap64 ((a0.size : Int) - 1)) then (if (wrap64 ((a0.size : Int) - 1)) < (a0.size : Int) then (some ((bt a0 (wrap64 ((a0.size : Int) - 1))) != 32)) else (none)) else (none))) else (none))
set_option maxHeartbeats 8000000 in
set_option maxRecDepth 100000 in
theorem spec_TxTight.calls (a0 : ByteArray) (r : Bool) (w : World) (h : spec_TxTight.f a0 = some r) :
    Calls Tryz.prog 59 #[.string a0] w fun e w' => e = .returned (.bool r) ∧ Drawn0 w w' := by
  have H : (if a0.toList = ([] : List UInt8) then (some false) else (if 0 < (a0.size : Int) then (if (bt a0 0) = 32 then (some false) else (if 0 ≤ (wrap64 ((a0.size : Int) - 1)) then (if (wrap64 ((a0.size : Int) - 1)) < (a0.size : Int) then (some ((bt a0 (wrap64 ((a0.size : Int) - 1))) != 32)) else (none)) else (none))) else (none))) = some r := h
  clear h
  by_cases c2 : a0.toList = ([] : List UInt8)
  · rw [if_pos c2] at H
    have c2b0 : (a0.toList == ([] : List UInt8)) = true := beq_iff_eq.mpr c2
    have c2b7 : a0.toList.isEmpty = true := by simpa using c2
    have c2b1 : (a0.toList != ([] : List UInt8)) = false := bne_eq_false_iff_eq.mpr c2
    clear c2
    obtain rfl := Option.some.inj H
    go_enter Tryz.func59, Tryz.ntmps59
    go_wp2
    go_ret
    exact ⟨by first | rfl | (simp; done) | (simp [*]; done), by repeat (first | exact Drawn0.refl _ | apply Drawn0.step)⟩
  · rw [if_neg c2] at H
    have c2b0 : (a0.toList == ([] : List UInt8)) = false := beq_eq_false_iff_ne.mpr c2
    have c2b7 : a0.toList.isEmpty = false := by simpa using c2
    have c2b1 : (a0.toList != ([] : List UInt8)) = true := bne_iff_ne.mpr c2
    by_cases c3 : 0 < (a0.size : Int)
    · rw [if_pos c3] at H
      have c3b0 : decide (0 < (a0.size : Int)) = true := decide_eq_true c3
      have c3b1 : decide (0 < a0.size) = true := decide_eq_true (by omega)
      clear c3
      by_cases c5 : (bt a0 0) = 32
      · rw [if_pos c5] at H
        have c5b0 : ((bt a0 0) == 32) = true := beq_iff_eq.mpr c5
        have c5b1 : ((bt a0 0) != 32) = false := bne_eq_false_iff_eq.mpr c5
        clear c5
        obtain rfl := Option.some.inj H
        have p4 : 0 ≤ (0 : Int) := (by omega)
        have q4 : 0 < a0.size := (by have : (0 : Int) < (a0.size : Int) := of_decide_eq_true (by first | (with_reducible assumption) | assumption); omega)
        have hx4 : ∀ h : 0 < a0.size, ((a0[0]'h).toNat : Int) = bt a0 0 := bt_at a0 0
        clear p4
        have qi4 : (0 < (a0.size : Int)) = True := eq_true (of_decide_eq_true (by first | (with_reducible assumption) | assumption))
        replace q4 := eq_true q4
        go_enter Tryz.func59, Tryz.ntmps59
        go_wp2
        go_ret
        exact ⟨by first | rfl | (simp; done) | (simp [*]; done), by repeat (first | exact Drawn0.refl _ | apply Drawn0.step)⟩
      · rw [if_neg c5] at H
        have c5b0 : ((bt a0 0) == 32) = false := beq_eq_false_iff_ne.mpr c5
        have c5b1 : ((bt a0 0) != 32) = true := bne_iff_ne.mpr c5
        obtain ⟨ji6, hji6⟩ : ∃ j_ : Int, (wrap64 ((a0.size : Int) - 1)) = j_ := ⟨_, rfl⟩
        replace H : (if 0 ≤ (ji6) then (if (ji6) < (a0.size : Int) then (some ((bt a0 (ji6)) != 32)) else (none)) else (none)) = some r := by first | (rw [hji6] at H; exact H) | (simp only [hji6] at H ⊢; exact H)
        have hji6w : (IntKind.i64.wrap ((a0.size : Int) - 1)) = ji6 := (i64_w _).trans hji6
        by_cases c7 : 0 ≤ (ji6)
        · rw [if_pos c7] at H
          have c7b0 : decide (0 ≤ (ji6)) = true := decide_eq_true c7
          clear c7
          by_cases c8 : (ji6) < (a0.size : Int)
          · rw [if_pos c8] at H
            have c8b0 : decide ((ji6) < (a0.size : Int)) = true := decide_eq_true c8
            clear c8
            obtain rfl := Option.some.inj H
            have p4 : 0 ≤ (0 : Int) := (by omega)
            have q4 : 0 < a0.size := (by have : (0 : Int) < (a0.size : Int) := of_decide_eq_true (by first | (with_reducible assumption) | assumption); omega)
            have hx4 : ∀ h : 0 < a0.size, ((a0[0]'h).toNat : Int) = bt a0 0 := bt_at a0 0
            clear p4
            have qi4 : (0 < (a0.size : Int)) = True := eq_true (of_decide_eq_true (by first | (with_reducible assumption) | assumption))
            replace q4 := eq_true q4
            have p9 : 0 ≤ ((ji6) : Int) := of_decide_eq_true (by first | (with_reducible assumption) | assumption)
            have q9 : (ji6) < (a0.size : Int) := of_decide_eq_true (by first | (with_reducible assumption) | assumption)
            have hx9 := bt_at a0 (ji6)
            replace p9 := eq_true p9
            replace q9 := eq_true q9
            go_enter Tryz.func59, Tryz.ntmps59
            go_wp2
            go_ret
            exact ⟨by first | rfl | (simp; done) | (simp only [← hji6] <;> (first | rfl | simp)) | (simp [*]; done), by repeat (first | exact Drawn0.refl _ | apply Drawn0.step)⟩
          · rw [if_neg c8] at H
            exact absurd H (by simp)
        · rw [if_neg c7] at H
          exact absurd H (by simp)
    · rw [if_neg c3] at H
      exact absurd H (by simp)

end Go.Proofs.YtejjjenjnfaopaaGreatDoor.P
