/- Printed by a program of this session (pf.sh): Go functions as Lean functions, with their contracts. -/
import Derived.Test.YteenhipldfdkaaaPx0
import Derived.Test.YteenhipldfdkaaaPx2
import Derived.Test.YteenhipldfdkaaaPx3
import Derived.Test.YteenhipldfdkaaaPx4
import Derived.Test.YteenhipldfdkaaaPx5
import Derived.Test.YteenhipldfdkaaaFf
namespace Go.Proofs.Yteenhipldfdkaaa.P
open Go.RowKit Go.Proofs.YteenhipldfdkaaaW.PrintWords Go.Proofs.YteenhipldfdkaaaW.PrintLast Go.Proofs.YteenhipldfdkaaaW.PrintMore
attribute [local go_sem] max2_int min2_int max_two min_two max_three min_three max_four min_four   -- for this text's walks alone
set_option linter.unusedVariables false
set_option linter.unusedSimpArgs false

/-! ### laws_FnListsClasses: function 3 -/
mutual
def laws_FnListsClasses.j0 : Nat → List (S36) → ByteArray → ByteArray → Bool → Option (Bool)
  | 0, _, _, _, _ => none
  | k + 1, x0, x1, x2, x27 => if x27 = true then (some true) else ((spec_LtPlayed.f k x0).bind fun t131 => ((spec_LtRight.f k x0).bind fun t134 => (if t134 = true then (if (t131.length : Int) = 0 then (laws_FnListsClasses.j1 k x0 x1 x2 t131 true) else ((spec_LsNames.f k t131).bind fun t135 => (if t135 = true then ((spec_LsName.f k x1).bind fun t136 => (if t136 = true then ((spec_LsName.f k x2).bind fun t137 => (if t137 = true then (if (x1.size : Int) > 40 then (laws_FnListsClasses.j1 k x0 x1 x2 t131 true) else (laws_FnListsClasses.j1 k x0 x1 x2 t131 (decide ((x2.size : Int) > 40)))) else (laws_FnListsClasses.j1 k x0 x1 x2 t131 true))) else (laws_FnListsClasses.j1 k x0 x1 x2 t131 true))) else (laws_FnListsClasses.j1 k x0 x1 x2 t131 true)))) else (laws_FnListsClasses.j1 k x0 x1 x2 t131 true))))
def laws_FnListsClasses.j1 : Nat → List (S36) → ByteArray → ByteArray → List (S43) → Bool → Option (Bool)
  | 0, _, _, _, _, _ => none
  | k + 1, x0, x1, x2, x7, x62 => if x62 = true then (some true) else ((impl_ListHTML.f x0 x1).bind fun t138 => ((spec_TxLines.f t138).bind fun t139 => ((impl_ListHTML.f x0 x2).bind fun t142 => ((spec_TxLines.f t142).bind fun t143 => (if (t139.length : Int) = (t143.length : Int) then (laws_FnListsClasses.j2 k x1 x2 t139 t143 (decide ((t139.length : Int) < (wrap64 ((x7.length : Int) + 2))))) else (laws_FnListsClasses.j2 k x1 x2 t139 t143 true))))))
def laws_FnListsClasses.j2 : Nat → ByteArray → ByteArray → List ByteArray → List ByteArray → Bool → Option (Bool)
  | 0, _, _, _, _, _ => none
  | k + 1, x1, x2, x8, x9, x83 => if x83 = true then (some false) else (laws_FnListsClasses.l0 k x1 x2 x8 x9 (x8.length : Int) 0)
def laws_FnListsClasses.l0 : Nat → ByteArray → ByteArray → List ByteArray → List ByteArray → Int → Int → Option (Bool)
  | 0, _, _, _, _, _, _ => none
  | k + 1, x1, x2, x8, x9, x85, x86 => if x86 < x85 then (if 0 ≤ x86 then (if x86 < (x8.length : Int) then ((spec_LtClassed.f k (rdOf ByteArray.empty x8 x86) x1).bind fun bt147 => (if x86 < (x9.length : Int) then ((spec_LtClassed.f k (rdOf ByteArray.empty x9 x86) x2).bind fun bt150 => (if (bt147.2 != bt150.2) = true then (some false) else (if bt147.1.toList = bt150.1.toList then (laws_FnListsClasses.l0 k x1 x2 x8 x9 x85 (wrap64 (x86 + 1))) else (some false)))) else (none))) else (none)) else (none)) else (some true)
end
def laws_FnListsClasses.f (k : Nat) (l0 : List (S36)) (a1 : ByteArray) (a2 : ByteArray) : Option (Bool) := (laws_zzFits11.f k l0).bind fun t130 => (if t130 = true then (if (a1.size : Int) > 2147483647 then (laws_FnListsClasses.j0 k l0 a1 a2 true) else (laws_FnListsClasses.j0 k l0 a1 a2 (decide ((a2.size : Int) > 2147483647)))) else (laws_FnListsClasses.j0 k l0 a1 a2 true))
theorem laws_FnListsClasses.mono_l : ∀ k, (∀ y0 y1 y2 y3, LeO (laws_FnListsClasses.j0 k y0 y1 y2 y3) (laws_FnListsClasses.j0 (k + 1) y0 y1 y2 y3)) ∧ (∀ y0 y1 y2 y3 y4, LeO (laws_FnListsClasses.j1 k y0 y1 y2 y3 y4) (laws_FnListsClasses.j1 (k + 1) y0 y1 y2 y3 y4)) ∧ (∀ y0 y1 y2 y3 y4, LeO (laws_FnListsClasses.j2 k y0 y1 y2 y3 y4) (laws_FnListsClasses.j2 (k + 1) y0 y1 y2 y3 y4)) ∧ (∀ y0 y1 y2 y3 y4 y5, LeO (laws_FnListsClasses.l0 k y0 y1 y2 y3 y4 y5) (laws_FnListsClasses.l0 (k + 1) y0 y1 y2 y3 y4 y5))
  | 0 => ⟨fun _ _ _ _ r h => by simp [laws_FnListsClasses.j0] at h, fun _ _ _ _ _ r h => by simp [laws_FnListsClasses.j1] at h, fun _ _ _ _ _ r h => by simp [laws_FnListsClasses.j2] at h, fun _ _ _ _ _ _ r h => by simp [laws_FnListsClasses.l0] at h⟩
  | k + 1 => by
    obtain ⟨ih0, ih1, ih2, ih3⟩ := laws_FnListsClasses.mono_l k
    refine ⟨?_, ?_, ?_, ?_⟩
    · intro y0 y1 y2 y3
      unfold laws_FnListsClasses.j0
      repeat' first
      | (with_reducible exact ih0 _ _ _ _)
      | (with_reducible exact ih1 _ _ _ _ _)
      | (with_reducible exact ih2 _ _ _ _ _)
      | (with_reducible exact ih3 _ _ _ _ _ _)
      | (with_reducible exact laws_zzFits11.mono _ _)
      | (with_reducible exact spec_LsName.mono _ _)
      | (with_reducible exact spec_LsNames.mono _ _)
      | (with_reducible exact spec_LtClassed.mono _ _ _)
      | (with_reducible exact spec_LtPlayed.mono _ _)
      | (with_reducible exact spec_LtRight.mono _ _)
      | (with_reducible exact LeO.refl _)
      | (with_reducible exact LeO.none _)
      | (with_reducible refine LeO.ite ?_ ?_)
      | (with_reducible refine LeO.bind ?_ (fun _ => ?_))
      | exact ih0 _ _ _ _
      | exact ih1 _ _ _ _ _
      | exact ih2 _ _ _ _ _
      | exact ih3 _ _ _ _ _ _
      | exact laws_zzFits11.mono _ _
      | exact spec_LsName.mono _ _
      | exact spec_LsNames.mono _ _
      | exact spec_LtClassed.mono _ _ _
      | exact spec_LtPlayed.mono _ _
      | exact spec_LtRight.mono _ _
      | exact LeO.none _
      | refine LeO.ite ?_ ?_
      | refine LeO.bind ?_ (fun _ => ?_)
    · intro y0 y1 y2 y3 y4
      unfold laws_FnListsClasses.j1
      repeat' first
      | (with_reducible exact ih0 _ _ _ _)
      | (with_reducible exact ih1 _ _ _ _ _)
      | (with_reducible exact ih2 _ _ _ _ _)
      | (with_reducible exact ih3 _ _ _ _ _ _)
      | (with_reducible exact laws_zzFits11.mono _ _)
      | (with_reducible exact spec_LsName.mono _ _)
      | (with_reducible exact spec_LsNames.mono _ _)
      | (with_reducible exact spec_LtClassed.mono _ _ _)
      | (with_reducible exact spec_LtPlayed.mono _ _)
      | (with_reducible exact spec_LtRight.mono _ _)
      | (with_reducible exact LeO.refl _)
      | (with_reducible exact LeO.none _)
      | (with_reducible refine LeO.ite ?_ ?_)
      | (with_reducible refine LeO.bind ?_ (fun _ => ?_))
      | exact ih0 _ _ _ _
      | exact ih1 _ _ _ _ _
      | exact ih2 _ _ _ _ _
      | exact ih3 _ _ _ _ _ _
      | exact laws_zzFits11.mono _ _
      | exact spec_LsName.mono _ _
      | exact spec_LsNames.mono _ _
      | exact spec_LtClassed.mono _ _ _
      | exact spec_LtPlayed.mono _ _
      | exact spec_LtRight.mono _ _
      | exact LeO.none _
      | refine LeO.ite ?_ ?_
      | refine LeO.bind ?_ (fun _ => ?_)
    · intro y0 y1 y2 y3 y4
      unfold laws_FnListsClasses.j2
      repeat' first
      | (with_reducible exact ih0 _ _ _ _)
      | (with_reducible exact ih1 _ _ _ _ _)
      | (with_reducible exact ih2 _ _ _ _ _)
      | (with_reducible exact ih3 _ _ _ _ _ _)
      | (with_reducible exact laws_zzFits11.mono _ _)
      | (with_reducible exact spec_LsName.mono _ _)
      | (with_reducible exact spec_LsNames.mono _ _)
      | (with_reducible exact spec_LtClassed.mono _ _ _)
      | (with_reducible exact spec_LtPlayed.mono _ _)
      | (with_reducible exact spec_LtRight.mono _ _)
      | (with_reducible exact LeO.refl _)
      | (with_reducible exact LeO.none _)
      | (with_reducible refine LeO.ite ?_ ?_)
      | (with_reducible refine LeO.bind ?_ (fun _ => ?_))
      | exact ih0 _ _ _ _
      | exact ih1 _ _ _ _ _
      | exact ih2 _ _ _ _ _
      | exact ih3 _ _ _ _ _ _
      | exact laws_zzFits11.mono _ _
      | exact spec_LsName.mono _ _
      | exact spec_LsNames.mono _ _
      | exact spec_LtClassed.mono _ _ _
      | exact spec_LtPlayed.mono _ _
      | exact spec_LtRight.mono _ _
      | exact LeO.none _
      | refine LeO.ite ?_ ?_
      | refine LeO.bind ?_ (fun _ => ?_)
    · intro y0 y1 y2 y3 y4 y5
      unfold laws_FnListsClasses.l0
      repeat' first
      | (with_reducible exact ih0 _ _ _ _)
      | (with_reducible exact ih1 _ _ _ _ _)
      | (with_reducible exact ih2 _ _ _ _ _)
      | (with_reducible exact ih3 _ _ _ _ _ _)
      | (with_reducible exact laws_zzFits11.mono _ _)
      | (with_reducible exact spec_LsName.mono _ _)
      | (with_reducible exact spec_LsNames.mono _ _)
      | (with_reducible exact spec_LtClassed.mono _ _ _)
      | (with_reducible exact spec_LtPlayed.mono _ _)
      | (with_reducible exact spec_LtRight.mono _ _)
      | (with_reducible exact LeO.refl _)
      | (with_reducible exact LeO.none _)
      | (with_reducible refine LeO.ite ?_ ?_)
      | (with_reducible refine LeO.bind ?_ (fun _ => ?_))
      | exact ih0 _ _ _ _
      | exact ih1 _ _ _ _ _
      | exact ih2 _ _ _ _ _
      | exact ih3 _ _ _ _ _ _
      | exact laws_zzFits11.mono _ _
      | exact spec_LsName.mono _ _
      | exact spec_LsNames.mono _ _
      | exact spec_LtClassed.mono _ _ _
      | exact spec_LtPlayed.mono _ _
      | exact spec_LtRight.mono _ _
      | exact LeO.none _
      | refine LeO.ite ?_ ?_
      | refine LeO.bind ?_ (fun _ => ?_)
theorem laws_FnListsClasses.mono : ∀ a0 a1 a2 k, LeO (laws_FnListsClasses.f k a0 a1 a2) (laws_FnListsClasses.f (k + 1) a0 a1 a2) := by
  intro a0 a1 a2 k
  obtain ⟨ih0, ih1, ih2, ih3⟩ := laws_FnListsClasses.mono_l k
  unfold laws_FnListsClasses.f
  repeat' first
      | (with_reducible exact ih0 _ _ _ _)
      | (with_reducible exact ih1 _ _ _ _ _)
      | (with_reducible exact ih2 _ _ _ _ _)
      | (with_reducible exact ih3 _ _ _ _ _ _)
      | (with_reducible exact laws_zzFits11.mono _ _)
      | (with_reducible exact spec_LsName.mono _ _)
      | (with_reducible exact spec_LsNames.mono _ _)
      | (with_reducible exact spec_LtClassed.mono _ _ _)
      | (with_reducible exact spec_LtPlayed.mono _ _)
      | (with_reducible exact spec_LtRight.mono _ _)
      | (with_reducible exact LeO.refl _)
      | (with_reducible exact LeO.none _)
      | (with_reducible refine LeO.ite ?_ ?_)
      | (with_reducible refine LeO.bind ?_ (fun _ => ?_))
      | exact ih0 _ _ _ _
      | exact ih1 _ _ _ _ _
      | exact ih2 _ _ _ _ _
      | exact ih3 _ _ _ _ _ _
      | exact laws_zzFits11.mono _ _
      | exact spec_LsName.mono _ _
      | exact spec_LsNames.mono _ _
      | exact spec_LtClassed.mono _ _ _
      | exact spec_LtPlayed.mono _ _
      | exact spec_LtRight.mono _ _
      | exact LeO.none _
      | refine LeO.ite ?_ ?_
      | refine LeO.bind ?_ (fun _ => ?_)
set_option maxHeartbeats 8000000 in
set_option maxRecDepth 100000 in
theorem laws_FnListsClasses.calls (k : Nat) (A0 : Option Addr) (c0 : Nat) (l0 : List (S36)) (a1 : ByteArray) (a2 : ByteArray) (r : Bool) (w : World) (hr0 : Kd.C k36 w A0 l0.length l0) (hc0 : l0.length ≤ c0) (h : laws_FnListsClasses.f k l0 a1 a2 = some r) :
    Calls Try.prog 3 #[.slice A0 l0.length c0, .string a1, .string a2] w fun e w' => e = .returned (.bool r) ∧ Below w.heap.size w w' := by
  have HR0 := Aside0.mk hr0
  have HC0 := Aside0.mk hc0
  clear hr0 hc0
  have HB := Aside0.mk (Below.refl w.heap.size w)
  have H : ((laws_zzFits11.f k l0).bind fun t130 => (if t130 = true then (if (a1.size : Int) > 2147483647 then (laws_FnListsClasses.j0 k l0 a1 a2 true) else (laws_FnListsClasses.j0 k l0 a1 a2 (decide ((a2.size : Int) > 2147483647)))) else (laws_FnListsClasses.j0 k l0 a1 a2 true))) = some r := h
  clear h
  have HC4 := Aside0.mk H
  clear H
  go_enter Try.func3, Try.ntmps3
  go_upto_region 1 with (fail)
  go_cut [27] (fun v27 wc => ∃ (kq : Nat) (x27_3 : Bool), v27 = .bool x27_3 ∧ Aside0 (laws_FnListsClasses.j0 kq l0 a1 a2 x27_3 = some r) ∧ Aside0 (kq ≤ k) ∧ Aside0 (Below w.heap.size w wc))
  case first =>
    have H := HC4.out
    clear HC4
    replace H := Option.bind_eq_some_iff.mp H
    obtain ⟨t130, A50, H⟩ := H
    replace H : (if t130 = true then (if (a1.size : Int) > 2147483647 then (laws_FnListsClasses.j0 k l0 a1 a2 true) else (laws_FnListsClasses.j0 k l0 a1 a2 (decide ((a2.size : Int) > 2147483647)))) else (laws_FnListsClasses.j0 k l0 a1 a2 true)) = some r := H
    have A5 := Aside0.mk A50
    clear A50
    by_cases c6 : t130 = true
    · subst c6
      have H1 : (if (a1.size : Int) > 2147483647 then (laws_FnListsClasses.j0 k l0 a1 a2 true) else (laws_FnListsClasses.j0 k l0 a1 a2 (decide ((a2.size : Int) > 2147483647)))) = some r := by rw [if_pos rfl] at H; exact H
      clear H
      have H := H1
      clear H1
      by_cases c7 : (a1.size : Int) > 2147483647
      · rw [if_pos c7] at H
        have c7b0 : decide (2147483647 < (a1.size : Int)) = true := decide_eq_true c7
        have c7b1 : decide (2147483647 < a1.size) = true := decide_eq_true (by omega)
        clear c7
        (first | rw [c7b0] | (simp only [i64_w, i32_w]; rw [c7b0]) | skip)
        have H' := Aside0.mk H
        clear H
        go_wp2_with (first | ((with_reducible refine gate_callee (f := 6) rfl ?_); refine goesL_ (some 16) rfl rfl Try.func6 (by kernel_rfl) rfl #[.slice A0 l0.length c0] rfl (by (try simp only [List.map_toArray, List.map_cons, List.map_nil]); first | done | rfl | (simp only [List.length_drop, List.length_take]; rfl)) ?_; (with_reducible refine (laws_zzFits11.calls k _ _ l0 true _ ?side1 ?side2 A5.out).mono ?_); (case side1 => repeat (first | exact (Kd.C_below HR0.out HB.out) | (with_reducible refine Kd.C_alloc ?_ _) | (with_reducible refine Kd.C_drewN ?_ _) | (with_reducible refine Kd.C_drew ?_))); (case side2 => exact HC0.out); rintro e w8 ⟨rfl, hb⟩; refine ⟨_, rfl, ?_⟩; have n0_ := Aside0.mk (below_step (by repeat (first | (with_reducible first | exact HB.out | apply below_alloc | apply pw_below_drewN | apply below_drew1) | exact HB.out)) hb); clear HB; have HB := n0_; clear n0_; (try clear hb); (try clear hb2); (try clear hk); (try clear hi)))
        go_meet
        case rel => exact ⟨_, (true), (by first | rfl | (simp; done) | (simp [*]; done)), H', ⟨by first | omega | exact Nat.le_refl _⟩, ⟨by repeat (first | (with_reducible first | exact HB.out | apply below_alloc | apply pw_below_drewN | apply below_drew1) | exact HB.out)⟩⟩
      · rw [if_neg c7] at H
        have c7b0 : decide (2147483647 < (a1.size : Int)) = false := decide_eq_false c7
        have c7b1 : decide (2147483647 < a1.size) = false := decide_eq_false (by omega)
        clear c7
        (first | rw [c7b0] | (simp only [i64_w, i32_w]; rw [c7b0]) | skip)
        have H' := Aside0.mk H
        clear H
        go_wp2_with (first | ((with_reducible refine gate_callee (f := 6) rfl ?_); refine goesL_ (some 16) rfl rfl Try.func6 (by kernel_rfl) rfl #[.slice A0 l0.length c0] rfl (by (try simp only [List.map_toArray, List.map_cons, List.map_nil]); first | done | rfl | (simp only [List.length_drop, List.length_take]; rfl)) ?_; (with_reducible refine (laws_zzFits11.calls k _ _ l0 true _ ?side1 ?side2 A5.out).mono ?_); (case side1 => repeat (first | exact (Kd.C_below HR0.out HB.out) | (with_reducible refine Kd.C_alloc ?_ _) | (with_reducible refine Kd.C_drewN ?_ _) | (with_reducible refine Kd.C_drew ?_))); (case side2 => exact HC0.out); rintro e w9 ⟨rfl, hb⟩; refine ⟨_, rfl, ?_⟩; have n0_ := Aside0.mk (below_step (by repeat (first | (with_reducible first | exact HB.out | apply below_alloc | apply pw_below_drewN | apply below_drew1) | exact HB.out)) hb); clear HB; have HB := n0_; clear n0_; (try clear hb); (try clear hb2); (try clear hk); (try clear hi)))
        go_meet
        case rel => exact ⟨_, (decide ((a2.size : Int) > 2147483647)), (by first | rfl | (simp; done) | (simp [*]; done)), H', ⟨by first | omega | exact Nat.le_refl _⟩, ⟨by repeat (first | (with_reducible first | exact HB.out | apply below_alloc | apply pw_below_drewN | apply below_drew1) | exact HB.out)⟩⟩
    · replace c6 := Bool.eq_false_iff.mpr c6
      subst c6
      have H1 : (laws_FnListsClasses.j0 k l0 a1 a2 true) = some r := by rw [if_neg (show ¬ (false = true) by decide)] at H; exact H
      clear H
      have H := H1
      clear H1
      have H' := Aside0.mk H
      clear H
      go_wp2_with (first | ((with_reducible refine gate_callee (f := 6) rfl ?_); refine goesL_ (some 16) rfl rfl Try.func6 (by kernel_rfl) rfl #[.slice A0 l0.length c0] rfl (by (try simp only [List.map_toArray, List.map_cons, List.map_nil]); first | done | rfl | (simp only [List.length_drop, List.length_take]; rfl)) ?_; (with_reducible refine (laws_zzFits11.calls k _ _ l0 false _ ?side1 ?side2 A5.out).mono ?_); (case side1 => repeat (first | exact (Kd.C_below HR0.out HB.out) | (with_reducible refine Kd.C_alloc ?_ _) | (with_reducible refine Kd.C_drewN ?_ _) | (with_reducible refine Kd.C_drew ?_))); (case side2 => exact HC0.out); rintro e w10 ⟨rfl, hb⟩; refine ⟨_, rfl, ?_⟩; have n0_ := Aside0.mk (below_step (by repeat (first | (with_reducible first | exact HB.out | apply below_alloc | apply pw_below_drewN | apply below_drew1) | exact HB.out)) hb); clear HB; have HB := n0_; clear n0_; (try clear hb); (try clear hb2); (try clear hk); (try clear hi)))
      go_meet
      case rel => exact ⟨_, (true), (by first | rfl | (simp; done) | (simp [*]; done)), H', ⟨by first | omega | exact Nat.le_refl _⟩, ⟨by repeat (first | (with_reducible first | exact HB.out | apply below_alloc | apply pw_below_drewN | apply below_drew1) | exact HB.out)⟩⟩
  case rest =>
    clear HC4
    try clear p2
    try clear c3
    try clear c6
    try clear c7
    try clear c7b0
    try clear c7b1
    obtain ⟨kq, x27_3, rfl, HA, HJ3, HB⟩ := hcut
    cases kq with
    | zero => exact absurd HA.out (by simp [laws_FnListsClasses.j0])
    | succ kj3 =>
      have H := HA.out
      clear HA
      simp only [laws_FnListsClasses.j0] at H
      by_cases c11 : x27_3 = true
      · subst c11
        have H1 : (some true) = some r := by rw [if_pos rfl] at H; exact H
        clear H
        have H := H1
        clear H1
        obtain rfl := Option.some.inj H
        go_wp2
        go_ret
        exact ⟨by first | rfl | (simp [errW_none, errW_some] <;> rfl) | (have e_ : ∀ l_ : List UInt8, (l_ != []) = !l_.isEmpty := fun l_ => (by cases l_ <;> rfl); simp [errW_none, errW_some, e_]; done) | (simp [*, errW_none, errW_some] <;> rfl), by repeat (first | (with_reducible first | exact HB.out | apply below_alloc | apply pw_below_drewN | apply below_drew1) | exact HB.out)⟩
      · replace c11 := Bool.eq_false_iff.mpr c11
        subst c11
        have H1 : ((spec_LtPlayed.f kj3 l0).bind fun t131 => ((spec_LtRight.f kj3 l0).bind fun t134 => (if t134 = true then (if (t131.length : Int) = 0 then (laws_FnListsClasses.j1 kj3 l0 a1 a2 t131 true) else ((spec_LsNames.f kj3 t131).bind fun t135 => (if t135 = true then ((spec_LsName.f kj3 a1).bind fun t136 => (if t136 = true then ((spec_LsName.f kj3 a2).bind fun t137 => (if t137 = true then (if (a1.size : Int) > 40 then (laws_FnListsClasses.j1 kj3 l0 a1 a2 t131 true) else (laws_FnListsClasses.j1 kj3 l0 a1 a2 t131 (decide ((a2.size : Int) > 40)))) else (laws_FnListsClasses.j1 kj3 l0 a1 a2 t131 true))) else (laws_FnListsClasses.j1 kj3 l0 a1 a2 t131 true))) else (laws_FnListsClasses.j1 kj3 l0 a1 a2 t131 true)))) else (laws_FnListsClasses.j1 kj3 l0 a1 a2 t131 true)))) = some r := by rw [if_neg (show ¬ (false = true) by decide)] at H; exact H
        clear H
        have H := H1
        clear H1
        replace H := Option.bind_eq_some_iff.mp H
        obtain ⟨t131, A120, H⟩ := H
        replace H : ((spec_LtRight.f kj3 l0).bind fun t134 => (if t134 = true then (if (t131.length : Int) = 0 then (laws_FnListsClasses.j1 kj3 l0 a1 a2 t131 true) else ((spec_LsNames.f kj3 t131).bind fun t135 => (if t135 = true then ((spec_LsName.f kj3 a1).bind fun t136 => (if t136 = true then ((spec_LsName.f kj3 a2).bind fun t137 => (if t137 = true then (if (a1.size : Int) > 40 then (laws_FnListsClasses.j1 kj3 l0 a1 a2 t131 true) else (laws_FnListsClasses.j1 kj3 l0 a1 a2 t131 (decide ((a2.size : Int) > 40)))) else (laws_FnListsClasses.j1 kj3 l0 a1 a2 t131 true))) else (laws_FnListsClasses.j1 kj3 l0 a1 a2 t131 true))) else (laws_FnListsClasses.j1 kj3 l0 a1 a2 t131 true)))) else (laws_FnListsClasses.j1 kj3 l0 a1 a2 t131 true))) = some r := H
        have A12 := Aside0.mk A120
        clear A120
        have HC13 := Aside0.mk H
        clear H
        go_upto_region 4 with (first | ((with_reducible refine gate_callee (f := 7) rfl ?_); refine goesL_ (some 29) rfl rfl Try.func7 (by kernel_rfl) rfl #[.slice A0 l0.length c0] rfl (by (try simp only [List.map_toArray, List.map_cons, List.map_nil]); first | done | rfl | (simp only [List.length_drop, List.length_take]; rfl)) ?_; (with_reducible refine (spec_LtPlayed.calls kj3 _ _ l0 t131 _ ?side1 ?side2 A12.out).mono ?_); (case side1 => repeat (first | exact (Kd.C_below HR0.out HB.out) | (with_reducible refine Kd.C_alloc ?_ _) | (with_reducible refine Kd.C_drewN ?_ _) | (with_reducible refine Kd.C_drew ?_))); (case side2 => exact HC0.out); rintro e w14 ⟨v132, rfl, ho0, hb⟩; refine ⟨_, rfl, ?_⟩; have n0_ := Aside0.mk (Kd.R_lower ho0 (below_size (by repeat (first | (with_reducible first | exact HB.out | apply below_alloc | apply pw_below_drewN | apply below_drew1) | exact HB.out)))); have n1_ := Aside0.mk (below_step (by repeat (first | (with_reducible first | exact HB.out | apply below_alloc | apply pw_below_drewN | apply below_drew1) | exact HB.out)) hb); clear HB; have HO133 := n0_; have HB := n1_; clear n0_ n1_; (try clear hb); (try clear hb2); (try clear hk); (try clear hi); (try clear ho0)))
        (try simp only [Act.put, List.setIfInBounds_toArray, List.set_cons_zero, List.set_cons_succ])
        go_cut [62] (fun v62 wc => ∃ (kq : Nat) (x62_12 : Bool), v62 = .bool x62_12 ∧ Aside0 (laws_FnListsClasses.j1 kq l0 a1 a2 t131 x62_12 = some r) ∧ Aside0 (kq ≤ kj3) ∧ Aside0 (Kd.R k43 43 wc w.heap.size (fun _ => True) v132 t131) ∧ Aside0 (Below w.heap.size w wc))
        case first =>
          have H := HC13.out
          clear HC13
          replace H := Option.bind_eq_some_iff.mp H
          obtain ⟨t134, A150, H⟩ := H
          replace H : (if t134 = true then (if (t131.length : Int) = 0 then (laws_FnListsClasses.j1 kj3 l0 a1 a2 t131 true) else ((spec_LsNames.f kj3 t131).bind fun t135 => (if t135 = true then ((spec_LsName.f kj3 a1).bind fun t136 => (if t136 = true then ((spec_LsName.f kj3 a2).bind fun t137 => (if t137 = true then (if (a1.size : Int) > 40 then (laws_FnListsClasses.j1 kj3 l0 a1 a2 t131 true) else (laws_FnListsClasses.j1 kj3 l0 a1 a2 t131 (decide ((a2.size : Int) > 40)))) else (laws_FnListsClasses.j1 kj3 l0 a1 a2 t131 true))) else (laws_FnListsClasses.j1 kj3 l0 a1 a2 t131 true))) else (laws_FnListsClasses.j1 kj3 l0 a1 a2 t131 true)))) else (laws_FnListsClasses.j1 kj3 l0 a1 a2 t131 true)) = some r := H
          have A15 := Aside0.mk A150
          clear A150
          by_cases c16 : t134 = true
          · subst c16
            have H1 : (if (t131.length : Int) = 0 then (laws_FnListsClasses.j1 kj3 l0 a1 a2 t131 true) else ((spec_LsNames.f kj3 t131).bind fun t135 => (if t135 = true then ((spec_LsName.f kj3 a1).bind fun t136 => (if t136 = true then ((spec_LsName.f kj3 a2).bind fun t137 => (if t137 = true then (if (a1.size : Int) > 40 then (laws_FnListsClasses.j1 kj3 l0 a1 a2 t131 true) else (laws_FnListsClasses.j1 kj3 l0 a1 a2 t131 (decide ((a2.size : Int) > 40)))) else (laws_FnListsClasses.j1 kj3 l0 a1 a2 t131 true))) else (laws_FnListsClasses.j1 kj3 l0 a1 a2 t131 true))) else (laws_FnListsClasses.j1 kj3 l0 a1 a2 t131 true)))) = some r := by rw [if_pos rfl] at H; exact H
            clear H
            have H := H1
            clear H1
            by_cases c17 : (t131.length : Int) = 0
            · rw [if_pos c17] at H
              have c17b0 : ((t131.length : Int) == 0) = true := beq_iff_eq.mpr c17
              have c17b1 : ((t131.length : Int) != 0) = false := bne_eq_false_iff_eq.mpr c17
              clear c17
              (first | rw [c17b0] | (simp only [i64_w, i32_w]; rw [c17b0]) | skip)
              have H' := Aside0.mk H
              clear H
              go_wp2_with (first | ((with_reducible refine gate_callee (f := 8) rfl ?_); refine goesL_ (some 31) rfl rfl Try.func8 (by kernel_rfl) rfl #[.slice A0 l0.length c0] rfl (by (try simp only [List.map_toArray, List.map_cons, List.map_nil]); first | done | rfl | (simp only [List.length_drop, List.length_take]; rfl)) ?_; (with_reducible refine (spec_LtRight.calls kj3 _ _ l0 true _ ?side1 ?side2 A15.out).mono ?_); (case side1 => repeat (first | exact (Kd.C_below HR0.out HB.out) | (with_reducible refine Kd.C_alloc ?_ _) | (with_reducible refine Kd.C_drewN ?_ _) | (with_reducible refine Kd.C_drew ?_))); (case side2 => exact HC0.out); rintro e w18 ⟨rfl, hb⟩; refine ⟨_, rfl, ?_⟩; have n0_ := Aside0.mk (Kd.R_below (by (with_reducible repeat (first | apply Kd.R_alloc | apply Kd.R_drewN | apply Kd.R_drew)); exact HO133.out) hb); have n1_ := Aside0.mk (below_step (by repeat (first | (with_reducible first | exact HB.out | apply below_alloc | apply pw_below_drewN | apply below_drew1) | exact HB.out)) hb); clear HO133; clear HB; have HO133 := n0_; have HB := n1_; clear n0_ n1_; (try clear hb); (try clear hb2); (try clear hk); (try clear hi); obtain ⟨Ao19, co19, eo19⟩ := Kd.R_slice HO133.out; subst eo19))
              go_meet
              case rel => exact ⟨_, (true), (by first | rfl | (simp; done) | (simp [*]; done)), H', ⟨by have := HJ3.out; first | omega | exact Nat.le_refl _⟩, ⟨by (with_reducible repeat (first | apply Kd.R_alloc | apply Kd.R_drewN | apply Kd.R_drew)); exact HO133.out⟩, ⟨by repeat (first | (with_reducible first | exact HB.out | apply below_alloc | apply pw_below_drewN | apply below_drew1) | exact HB.out)⟩⟩
            · rw [if_neg c17] at H
              have c17b0 : ((t131.length : Int) == 0) = false := beq_eq_false_iff_ne.mpr c17
              have c17b1 : ((t131.length : Int) != 0) = true := bne_iff_ne.mpr c17
              have c17b2 : ¬ (t131 = []) := fun h_ => c17 (by rw [h_]; rfl)
              (first | rw [c17b0] | (simp only [i64_w, i32_w]; rw [c17b0]) | skip)
              replace H := Option.bind_eq_some_iff.mp H
              obtain ⟨t135, A200, H⟩ := H
              replace H : (if t135 = true then ((spec_LsName.f kj3 a1).bind fun t136 => (if t136 = true then ((spec_LsName.f kj3 a2).bind fun t137 => (if t137 = true then (if (a1.size : Int) > 40 then (laws_FnListsClasses.j1 kj3 l0 a1 a2 t131 true) else (laws_FnListsClasses.j1 kj3 l0 a1 a2 t131 (decide ((a2.size : Int) > 40)))) else (laws_FnListsClasses.j1 kj3 l0 a1 a2 t131 true))) else (laws_FnListsClasses.j1 kj3 l0 a1 a2 t131 true))) else (laws_FnListsClasses.j1 kj3 l0 a1 a2 t131 true)) = some r := H
              have A20 := Aside0.mk A200
              clear A200
              by_cases c21 : t135 = true
              · subst c21
                have H1 : ((spec_LsName.f kj3 a1).bind fun t136 => (if t136 = true then ((spec_LsName.f kj3 a2).bind fun t137 => (if t137 = true then (if (a1.size : Int) > 40 then (laws_FnListsClasses.j1 kj3 l0 a1 a2 t131 true) else (laws_FnListsClasses.j1 kj3 l0 a1 a2 t131 (decide ((a2.size : Int) > 40)))) else (laws_FnListsClasses.j1 kj3 l0 a1 a2 t131 true))) else (laws_FnListsClasses.j1 kj3 l0 a1 a2 t131 true))) = some r := by rw [if_pos rfl] at H; exact H
                clear H
                have H := H1
                clear H1
                replace H := Option.bind_eq_some_iff.mp H
                obtain ⟨t136, A220, H⟩ := H
                replace H : (if t136 = true then ((spec_LsName.f kj3 a2).bind fun t137 => (if t137 = true then (if (a1.size : Int) > 40 then (laws_FnListsClasses.j1 kj3 l0 a1 a2 t131 true) else (laws_FnListsClasses.j1 kj3 l0 a1 a2 t131 (decide ((a2.size : Int) > 40)))) else (laws_FnListsClasses.j1 kj3 l0 a1 a2 t131 true))) else (laws_FnListsClasses.j1 kj3 l0 a1 a2 t131 true)) = some r := H
                have A22 := Aside0.mk A220
                clear A220
                by_cases c23 : t136 = true
                · subst c23
                  have H1 : ((spec_LsName.f kj3 a2).bind fun t137 => (if t137 = true then (if (a1.size : Int) > 40 then (laws_FnListsClasses.j1 kj3 l0 a1 a2 t131 true) else (laws_FnListsClasses.j1 kj3 l0 a1 a2 t131 (decide ((a2.size : Int) > 40)))) else (laws_FnListsClasses.j1 kj3 l0 a1 a2 t131 true))) = some r := by rw [if_pos rfl] at H; exact H
                  clear H
                  have H := H1
                  clear H1
                  replace H := Option.bind_eq_some_iff.mp H
                  obtain ⟨t137, A240, H⟩ := H
                  replace H : (if t137 = true then (if (a1.size : Int) > 40 then (laws_FnListsClasses.j1 kj3 l0 a1 a2 t131 true) else (laws_FnListsClasses.j1 kj3 l0 a1 a2 t131 (decide ((a2.size : Int) > 40)))) else (laws_FnListsClasses.j1 kj3 l0 a1 a2 t131 true)) = some r := H
                  have A24 := Aside0.mk A240
                  clear A240
                  by_cases c25 : t137 = true
                  · subst c25
                    have H1 : (if (a1.size : Int) > 40 then (laws_FnListsClasses.j1 kj3 l0 a1 a2 t131 true) else (laws_FnListsClasses.j1 kj3 l0 a1 a2 t131 (decide ((a2.size : Int) > 40)))) = some r := by rw [if_pos rfl] at H; exact H
                    clear H
                    have H := H1
                    clear H1
                    by_cases c26 : (a1.size : Int) > 40
                    · rw [if_pos c26] at H
                      have c26b0 : decide (40 < (a1.size : Int)) = true := decide_eq_true c26
                      have c26b1 : decide (40 < a1.size) = true := decide_eq_true (by omega)
                      clear c26
                      have H' := Aside0.mk H
                      clear H
                      go_wp2_with (first | ((with_reducible refine gate_callee (f := 8) rfl ?_); refine goesL_ (some 31) rfl rfl Try.func8 (by kernel_rfl) rfl #[.slice A0 l0.length c0] rfl (by (try simp only [List.map_toArray, List.map_cons, List.map_nil]); first | done | rfl | (simp only [List.length_drop, List.length_take]; rfl)) ?_; (with_reducible refine (spec_LtRight.calls kj3 _ _ l0 true _ ?side1 ?side2 A15.out).mono ?_); (case side1 => repeat (first | exact (Kd.C_below HR0.out HB.out) | (with_reducible refine Kd.C_alloc ?_ _) | (with_reducible refine Kd.C_drewN ?_ _) | (with_reducible refine Kd.C_drew ?_))); (case side2 => exact HC0.out); rintro e w27 ⟨rfl, hb⟩; refine ⟨_, rfl, ?_⟩; have n0_ := Aside0.mk (Kd.R_below (by (with_reducible repeat (first | apply Kd.R_alloc | apply Kd.R_drewN | apply Kd.R_drew)); exact HO133.out) hb); have n1_ := Aside0.mk (below_step (by repeat (first | (with_reducible first | exact HB.out | apply below_alloc | apply pw_below_drewN | apply below_drew1) | exact HB.out)) hb); clear HO133; clear HB; have HO133 := n0_; have HB := n1_; clear n0_ n1_; (try clear hb); (try clear hb2); (try clear hk); (try clear hi); obtain ⟨Ao28, co28, eo28⟩ := Kd.R_slice HO133.out; subst eo28) | (go_at_call 9; (with_reducible refine (spec_LsNames.calls kj3 _ _ t131 true _ ?side1 ?side2 A20.out).mono ?_); (case side1 => repeat (first | exact (Kd.R_reads' HO133.out).2.2 | (with_reducible refine Kd.C_alloc ?_ _) | (with_reducible refine Kd.C_drewN ?_ _) | (with_reducible refine Kd.C_drew ?_))); (case side2 => exact (Kd.R_reads' HO133.out).2.1); rintro e w29 ⟨rfl, hb⟩; have n0_ := Aside0.mk (Kd.R_below (by (with_reducible repeat (first | apply Kd.R_alloc | apply Kd.R_drewN | apply Kd.R_drew)); exact HO133.out) hb); have n1_ := Aside0.mk (below_step (by repeat (first | (with_reducible first | exact HB.out | apply below_alloc | apply pw_below_drewN | apply below_drew1) | exact HB.out)) hb); clear HO133; clear HB; have HO133 := n0_; have HB := n1_; clear n0_ n1_; (try clear hb); (try clear hb2); (try clear hk); (try clear hi)) | (go_at_call 10; (with_reducible refine (spec_LsName.calls kj3 a1 true _ A22.out).mono ?_); rintro e w' ⟨rfl, ⟨nd, rfl⟩⟩) | (go_at_call 10; (with_reducible refine (spec_LsName.calls kj3 a2 true _ A24.out).mono ?_); rintro e w' ⟨rfl, ⟨nd, rfl⟩⟩))
                      go_meet
                      case rel => exact ⟨_, (true), (by first | rfl | (simp; done) | (simp [*]; done)), H', ⟨by have := HJ3.out; first | omega | exact Nat.le_refl _⟩, ⟨by (with_reducible repeat (first | apply Kd.R_alloc | apply Kd.R_drewN | apply Kd.R_drew)); exact HO133.out⟩, ⟨by repeat (first | (with_reducible first | exact HB.out | apply below_alloc | apply pw_below_drewN | apply below_drew1) | exact HB.out)⟩⟩
                    · rw [if_neg c26] at H
                      have c26b0 : decide (40 < (a1.size : Int)) = false := decide_eq_false c26
                      have c26b1 : decide (40 < a1.size) = false := decide_eq_false (by omega)
                      clear c26
                      have H' := Aside0.mk H
                      clear H
                      go_wp2_with (first | ((with_reducible refine gate_callee (f := 8) rfl ?_); refine goesL_ (some 31) rfl rfl Try.func8 (by kernel_rfl) rfl #[.slice A0 l0.length c0] rfl (by (try simp only [List.map_toArray, List.map_cons, List.map_nil]); first | done | rfl | (simp only [List.length_drop, List.length_take]; rfl)) ?_; (with_reducible refine (spec_LtRight.calls kj3 _ _ l0 true _ ?side1 ?side2 A15.out).mono ?_); (case side1 => repeat (first | exact (Kd.C_below HR0.out HB.out) | (with_reducible refine Kd.C_alloc ?_ _) | (with_reducible refine Kd.C_drewN ?_ _) | (with_reducible refine Kd.C_drew ?_))); (case side2 => exact HC0.out); rintro e w30 ⟨rfl, hb⟩; refine ⟨_, rfl, ?_⟩; have n0_ := Aside0.mk (Kd.R_below (by (with_reducible repeat (first | apply Kd.R_alloc | apply Kd.R_drewN | apply Kd.R_drew)); exact HO133.out) hb); have n1_ := Aside0.mk (below_step (by repeat (first | (with_reducible first | exact HB.out | apply below_alloc | apply pw_below_drewN | apply below_drew1) | exact HB.out)) hb); clear HO133; clear HB; have HO133 := n0_; have HB := n1_; clear n0_ n1_; (try clear hb); (try clear hb2); (try clear hk); (try clear hi); obtain ⟨Ao31, co31, eo31⟩ := Kd.R_slice HO133.out; subst eo31) | (go_at_call 9; (with_reducible refine (spec_LsNames.calls kj3 _ _ t131 true _ ?side1 ?side2 A20.out).mono ?_); (case side1 => repeat (first | exact (Kd.R_reads' HO133.out).2.2 | (with_reducible refine Kd.C_alloc ?_ _) | (with_reducible refine Kd.C_drewN ?_ _) | (with_reducible refine Kd.C_drew ?_))); (case side2 => exact (Kd.R_reads' HO133.out).2.1); rintro e w32 ⟨rfl, hb⟩; have n0_ := Aside0.mk (Kd.R_below (by (with_reducible repeat (first | apply Kd.R_alloc | apply Kd.R_drewN | apply Kd.R_drew)); exact HO133.out) hb); have n1_ := Aside0.mk (below_step (by repeat (first | (with_reducible first | exact HB.out | apply below_alloc | apply pw_below_drewN | apply below_drew1) | exact HB.out)) hb); clear HO133; clear HB; have HO133 := n0_; have HB := n1_; clear n0_ n1_; (try clear hb); (try clear hb2); (try clear hk); (try clear hi)) | (go_at_call 10; (with_reducible refine (spec_LsName.calls kj3 a1 true _ A22.out).mono ?_); rintro e w' ⟨rfl, ⟨nd, rfl⟩⟩) | (go_at_call 10; (with_reducible refine (spec_LsName.calls kj3 a2 true _ A24.out).mono ?_); rintro e w' ⟨rfl, ⟨nd, rfl⟩⟩))
                      go_meet
                      case rel => exact ⟨_, (decide ((a2.size : Int) > 40)), (by first | rfl | (simp; done) | (simp [*]; done)), H', ⟨by have := HJ3.out; first | omega | exact Nat.le_refl _⟩, ⟨by (with_reducible repeat (first | apply Kd.R_alloc | apply Kd.R_drewN | apply Kd.R_drew)); exact HO133.out⟩, ⟨by repeat (first | (with_reducible first | exact HB.out | apply below_alloc | apply pw_below_drewN | apply below_drew1) | exact HB.out)⟩⟩
                  · replace c25 := Bool.eq_false_iff.mpr c25
                    subst c25
                    have H1 : (laws_FnListsClasses.j1 kj3 l0 a1 a2 t131 true) = some r := by rw [if_neg (show ¬ (false = true) by decide)] at H; exact H
                    clear H
                    have H := H1
                    clear H1
                    have H' := Aside0.mk H
                    clear H
                    go_wp2_with (first | ((with_reducible refine gate_callee (f := 8) rfl ?_); refine goesL_ (some 31) rfl rfl Try.func8 (by kernel_rfl) rfl #[.slice A0 l0.length c0] rfl (by (try simp only [List.map_toArray, List.map_cons, List.map_nil]); first | done | rfl | (simp only [List.length_drop, List.length_take]; rfl)) ?_; (with_reducible refine (spec_LtRight.calls kj3 _ _ l0 true _ ?side1 ?side2 A15.out).mono ?_); (case side1 => repeat (first | exact (Kd.C_below HR0.out HB.out) | (with_reducible refine Kd.C_alloc ?_ _) | (with_reducible refine Kd.C_drewN ?_ _) | (with_reducible refine Kd.C_drew ?_))); (case side2 => exact HC0.out); rintro e w33 ⟨rfl, hb⟩; refine ⟨_, rfl, ?_⟩; have n0_ := Aside0.mk (Kd.R_below (by (with_reducible repeat (first | apply Kd.R_alloc | apply Kd.R_drewN | apply Kd.R_drew)); exact HO133.out) hb); have n1_ := Aside0.mk (below_step (by repeat (first | (with_reducible first | exact HB.out | apply below_alloc | apply pw_below_drewN | apply below_drew1) | exact HB.out)) hb); clear HO133; clear HB; have HO133 := n0_; have HB := n1_; clear n0_ n1_; (try clear hb); (try clear hb2); (try clear hk); (try clear hi); obtain ⟨Ao34, co34, eo34⟩ := Kd.R_slice HO133.out; subst eo34) | (go_at_call 9; (with_reducible refine (spec_LsNames.calls kj3 _ _ t131 true _ ?side1 ?side2 A20.out).mono ?_); (case side1 => repeat (first | exact (Kd.R_reads' HO133.out).2.2 | (with_reducible refine Kd.C_alloc ?_ _) | (with_reducible refine Kd.C_drewN ?_ _) | (with_reducible refine Kd.C_drew ?_))); (case side2 => exact (Kd.R_reads' HO133.out).2.1); rintro e w35 ⟨rfl, hb⟩; have n0_ := Aside0.mk (Kd.R_below (by (with_reducible repeat (first | apply Kd.R_alloc | apply Kd.R_drewN | apply Kd.R_drew)); exact HO133.out) hb); have n1_ := Aside0.mk (below_step (by repeat (first | (with_reducible first | exact HB.out | apply below_alloc | apply pw_below_drewN | apply below_drew1) | exact HB.out)) hb); clear HO133; clear HB; have HO133 := n0_; have HB := n1_; clear n0_ n1_; (try clear hb); (try clear hb2); (try clear hk); (try clear hi)) | (go_at_call 10; (with_reducible refine (spec_LsName.calls kj3 a1 true _ A22.out).mono ?_); rintro e w' ⟨rfl, ⟨nd, rfl⟩⟩) | (go_at_call 10; (with_reducible refine (spec_LsName.calls kj3 a2 false _ A24.out).mono ?_); rintro e w' ⟨rfl, ⟨nd, rfl⟩⟩))
                    go_meet
                    case rel => exact ⟨_, (true), (by first | rfl | (simp; done) | (simp [*]; done)), H', ⟨by have := HJ3.out; first | omega | exact Nat.le_refl _⟩, ⟨by (with_reducible repeat (first | apply Kd.R_alloc | apply Kd.R_drewN | apply Kd.R_drew)); exact HO133.out⟩, ⟨by repeat (first | (with_reducible first | exact HB.out | apply below_alloc | apply pw_below_drewN | apply below_drew1) | exact HB.out)⟩⟩
                · replace c23 := Bool.eq_false_iff.mpr c23
                  subst c23
                  have H1 : (laws_FnListsClasses.j1 kj3 l0 a1 a2 t131 true) = some r := by rw [if_neg (show ¬ (false = true) by decide)] at H; exact H
                  clear H
                  have H := H1
                  clear H1
                  have H' := Aside0.mk H
                  clear H
                  go_wp2_with (first | ((with_reducible refine gate_callee (f := 8) rfl ?_); refine goesL_ (some 31) rfl rfl Try.func8 (by kernel_rfl) rfl #[.slice A0 l0.length c0] rfl (by (try simp only [List.map_toArray, List.map_cons, List.map_nil]); first | done | rfl | (simp only [List.length_drop, List.length_take]; rfl)) ?_; (with_reducible refine (spec_LtRight.calls kj3 _ _ l0 true _ ?side1 ?side2 A15.out).mono ?_); (case side1 => repeat (first | exact (Kd.C_below HR0.out HB.out) | (with_reducible refine Kd.C_alloc ?_ _) | (with_reducible refine Kd.C_drewN ?_ _) | (with_reducible refine Kd.C_drew ?_))); (case side2 => exact HC0.out); rintro e w36 ⟨rfl, hb⟩; refine ⟨_, rfl, ?_⟩; have n0_ := Aside0.mk (Kd.R_below (by (with_reducible repeat (first | apply Kd.R_alloc | apply Kd.R_drewN | apply Kd.R_drew)); exact HO133.out) hb); have n1_ := Aside0.mk (below_step (by repeat (first | (with_reducible first | exact HB.out | apply below_alloc | apply pw_below_drewN | apply below_drew1) | exact HB.out)) hb); clear HO133; clear HB; have HO133 := n0_; have HB := n1_; clear n0_ n1_; (try clear hb); (try clear hb2); (try clear hk); (try clear hi); obtain ⟨Ao37, co37, eo37⟩ := Kd.R_slice HO133.out; subst eo37) | (go_at_call 9; (with_reducible refine (spec_LsNames.calls kj3 _ _ t131 true _ ?side1 ?side2 A20.out).mono ?_); (case side1 => repeat (first | exact (Kd.R_reads' HO133.out).2.2 | (with_reducible refine Kd.C_alloc ?_ _) | (with_reducible refine Kd.C_drewN ?_ _) | (with_reducible refine Kd.C_drew ?_))); (case side2 => exact (Kd.R_reads' HO133.out).2.1); rintro e w38 ⟨rfl, hb⟩; have n0_ := Aside0.mk (Kd.R_below (by (with_reducible repeat (first | apply Kd.R_alloc | apply Kd.R_drewN | apply Kd.R_drew)); exact HO133.out) hb); have n1_ := Aside0.mk (below_step (by repeat (first | (with_reducible first | exact HB.out | apply below_alloc | apply pw_below_drewN | apply below_drew1) | exact HB.out)) hb); clear HO133; clear HB; have HO133 := n0_; have HB := n1_; clear n0_ n1_; (try clear hb); (try clear hb2); (try clear hk); (try clear hi)) | (go_at_call 10; (with_reducible refine (spec_LsName.calls kj3 a1 false _ A22.out).mono ?_); rintro e w' ⟨rfl, ⟨nd, rfl⟩⟩))
                  go_meet
                  case rel => exact ⟨_, (true), (by first | rfl | (simp; done) | (simp [*]; done)), H', ⟨by have := HJ3.out; first | omega | exact Nat.le_refl _⟩, ⟨by (with_reducible repeat (first | apply Kd.R_alloc | apply Kd.R_drewN | apply Kd.R_drew)); exact HO133.out⟩, ⟨by repeat (first | (with_reducible first | exact HB.out | apply below_alloc | apply pw_below_drewN | apply below_drew1) | exact HB.out)⟩⟩
              · replace c21 := Bool.eq_false_iff.mpr c21
                subst c21
                have H1 : (laws_FnListsClasses.j1 kj3 l0 a1 a2 t131 true) = some r := by rw [if_neg (show ¬ (false = true) by decide)] at H; exact H
                clear H
                have H := H1
                clear H1
                have H' := Aside0.mk H
                clear H
                go_wp2_with (first | ((with_reducible refine gate_callee (f := 8) rfl ?_); refine goesL_ (some 31) rfl rfl Try.func8 (by kernel_rfl) rfl #[.slice A0 l0.length c0] rfl (by (try simp only [List.map_toArray, List.map_cons, List.map_nil]); first | done | rfl | (simp only [List.length_drop, List.length_take]; rfl)) ?_; (with_reducible refine (spec_LtRight.calls kj3 _ _ l0 true _ ?side1 ?side2 A15.out).mono ?_); (case side1 => repeat (first | exact (Kd.C_below HR0.out HB.out) | (with_reducible refine Kd.C_alloc ?_ _) | (with_reducible refine Kd.C_drewN ?_ _) | (with_reducible refine Kd.C_drew ?_))); (case side2 => exact HC0.out); rintro e w39 ⟨rfl, hb⟩; refine ⟨_, rfl, ?_⟩; have n0_ := Aside0.mk (Kd.R_below (by (with_reducible repeat (first | apply Kd.R_alloc | apply Kd.R_drewN | apply Kd.R_drew)); exact HO133.out) hb); have n1_ := Aside0.mk (below_step (by repeat (first | (with_reducible first | exact HB.out | apply below_alloc | apply pw_below_drewN | apply below_drew1) | exact HB.out)) hb); clear HO133; clear HB; have HO133 := n0_; have HB := n1_; clear n0_ n1_; (try clear hb); (try clear hb2); (try clear hk); (try clear hi); obtain ⟨Ao40, co40, eo40⟩ := Kd.R_slice HO133.out; subst eo40) | (go_at_call 9; (with_reducible refine (spec_LsNames.calls kj3 _ _ t131 false _ ?side1 ?side2 A20.out).mono ?_); (case side1 => repeat (first | exact (Kd.R_reads' HO133.out).2.2 | (with_reducible refine Kd.C_alloc ?_ _) | (with_reducible refine Kd.C_drewN ?_ _) | (with_reducible refine Kd.C_drew ?_))); (case side2 => exact (Kd.R_reads' HO133.out).2.1); rintro e w41 ⟨rfl, hb⟩; have n0_ := Aside0.mk (Kd.R_below (by (with_reducible repeat (first | apply Kd.R_alloc | apply Kd.R_drewN | apply Kd.R_drew)); exact HO133.out) hb); have n1_ := Aside0.mk (below_step (by repeat (first | (with_reducible first | exact HB.out | apply below_alloc | apply pw_below_drewN | apply below_drew1) | exact HB.out)) hb); clear HO133; clear HB; have HO133 := n0_; have HB := n1_; clear n0_ n1_; (try clear hb); (try clear hb2); (try clear hk); (try clear hi)))
                go_meet
                case rel => exact ⟨_, (true), (by first | rfl | (simp; done) | (simp [*]; done)), H', ⟨by have := HJ3.out; first | omega | exact Nat.le_refl _⟩, ⟨by (with_reducible repeat (first | apply Kd.R_alloc | apply Kd.R_drewN | apply Kd.R_drew)); exact HO133.out⟩, ⟨by repeat (first | (with_reducible first | exact HB.out | apply below_alloc | apply pw_below_drewN | apply below_drew1) | exact HB.out)⟩⟩
          · replace c16 := Bool.eq_false_iff.mpr c16
            subst c16
            have H1 : (laws_FnListsClasses.j1 kj3 l0 a1 a2 t131 true) = some r := by rw [if_neg (show ¬ (false = true) by decide)] at H; exact H
            clear H
            have H := H1
            clear H1
            have H' := Aside0.mk H
            clear H
            go_wp2_with (first | ((with_reducible refine gate_callee (f := 8) rfl ?_); refine goesL_ (some 31) rfl rfl Try.func8 (by kernel_rfl) rfl #[.slice A0 l0.length c0] rfl (by (try simp only [List.map_toArray, List.map_cons, List.map_nil]); first | done | rfl | (simp only [List.length_drop, List.length_take]; rfl)) ?_; (with_reducible refine (spec_LtRight.calls kj3 _ _ l0 false _ ?side1 ?side2 A15.out).mono ?_); (case side1 => repeat (first | exact (Kd.C_below HR0.out HB.out) | (with_reducible refine Kd.C_alloc ?_ _) | (with_reducible refine Kd.C_drewN ?_ _) | (with_reducible refine Kd.C_drew ?_))); (case side2 => exact HC0.out); rintro e w42 ⟨rfl, hb⟩; refine ⟨_, rfl, ?_⟩; have n0_ := Aside0.mk (Kd.R_below (by (with_reducible repeat (first | apply Kd.R_alloc | apply Kd.R_drewN | apply Kd.R_drew)); exact HO133.out) hb); have n1_ := Aside0.mk (below_step (by repeat (first | (with_reducible first | exact HB.out | apply below_alloc | apply pw_below_drewN | apply below_drew1) | exact HB.out)) hb); clear HO133; clear HB; have HO133 := n0_; have HB := n1_; clear n0_ n1_; (try clear hb); (try clear hb2); (try clear hk); (try clear hi)))
            go_meet
            case rel => exact ⟨_, (true), (by first | rfl | (simp; done) | (simp [*]; done)), H', ⟨by have := HJ3.out; first | omega | exact Nat.le_refl _⟩, ⟨by (with_reducible repeat (first | apply Kd.R_alloc | apply Kd.R_drewN | apply Kd.R_drew)); exact HO133.out⟩, ⟨by repeat (first | (with_reducible first | exact HB.out | apply below_alloc | apply pw_below_drewN | apply below_drew1) | exact HB.out)⟩⟩
        case rest =>
          clear HC13
          try clear c1
          try clear c2
          try clear p2
          try clear c3
          try clear c6
          try clear c7
          try clear c7b0
          try clear c7b1
          try clear c8
          try clear c11
          try clear c16
          try clear c17
          try clear c17b0
          try clear c17b1
          try clear c17b2
          try clear c21
          try clear c23
          try clear c25
          try clear c26
          try clear c26b0
          try clear c26b1
          try clear p2
          obtain ⟨kq, x62_12, rfl, HA, HJ12, HO_7, HB⟩ := hcut
          cases kq with
          | zero => exact absurd HA.out (by simp [laws_FnListsClasses.j1])
          | succ kj12 =>
            have H := HA.out
            clear HA
            simp only [laws_FnListsClasses.j1] at H
            by_cases c43 : x62_12 = true
            · subst c43
              have H1 : (some true) = some r := by rw [if_pos rfl] at H; exact H
              clear H
              have H := H1
              clear H1
              obtain rfl := Option.some.inj H
              go_wp2
              go_ret
              exact ⟨by first | rfl | (simp [errW_none, errW_some] <;> rfl) | (have e_ : ∀ l_ : List UInt8, (l_ != []) = !l_.isEmpty := fun l_ => (by cases l_ <;> rfl); simp [errW_none, errW_some, e_]; done) | (simp [*, errW_none, errW_some] <;> rfl), by repeat (first | (with_reducible first | exact HB.out | apply below_alloc | apply pw_below_drewN | apply below_drew1) | exact HB.out)⟩
            · replace c43 := Bool.eq_false_iff.mpr c43
              subst c43
              have H1 : ((impl_ListHTML.f l0 a1).bind fun t138 => ((spec_TxLines.f t138).bind fun t139 => ((impl_ListHTML.f l0 a2).bind fun t142 => ((spec_TxLines.f t142).bind fun t143 => (if (t139.length : Int) = (t143.length : Int) then (laws_FnListsClasses.j2 kj12 a1 a2 t139 t143 (decide ((t139.length : Int) < (wrap64 ((t131.length : Int) + 2))))) else (laws_FnListsClasses.j2 kj12 a1 a2 t139 t143 true)))))) = some r := by rw [if_neg (show ¬ (false = true) by decide)] at H; exact H
              clear H
              have H := H1
              clear H1
              replace H := Option.bind_eq_some_iff.mp H
              obtain ⟨t138, A440, H⟩ := H
              replace H : ((spec_TxLines.f t138).bind fun t139 => ((impl_ListHTML.f l0 a2).bind fun t142 => ((spec_TxLines.f t142).bind fun t143 => (if (t139.length : Int) = (t143.length : Int) then (laws_FnListsClasses.j2 kj12 a1 a2 t139 t143 (decide ((t139.length : Int) < (wrap64 ((t131.length : Int) + 2))))) else (laws_FnListsClasses.j2 kj12 a1 a2 t139 t143 true))))) = some r := H
              have A44 := Aside0.mk A440
              clear A440
              replace H := Option.bind_eq_some_iff.mp H
              obtain ⟨t139, A450, H⟩ := H
              replace H : ((impl_ListHTML.f l0 a2).bind fun t142 => ((spec_TxLines.f t142).bind fun t143 => (if (t139.length : Int) = (t143.length : Int) then (laws_FnListsClasses.j2 kj12 a1 a2 t139 t143 (decide ((t139.length : Int) < (wrap64 ((t131.length : Int) + 2))))) else (laws_FnListsClasses.j2 kj12 a1 a2 t139 t143 true)))) = some r := H
              have A45 := Aside0.mk A450
              clear A450
              replace H := Option.bind_eq_some_iff.mp H
              obtain ⟨t142, A460, H⟩ := H
              replace H : ((spec_TxLines.f t142).bind fun t143 => (if (t139.length : Int) = (t143.length : Int) then (laws_FnListsClasses.j2 kj12 a1 a2 t139 t143 (decide ((t139.length : Int) < (wrap64 ((t131.length : Int) + 2))))) else (laws_FnListsClasses.j2 kj12 a1 a2 t139 t143 true))) = some r := H
              have A46 := Aside0.mk A460
              clear A460
              replace H := Option.bind_eq_some_iff.mp H
              obtain ⟨t143, A470, H⟩ := H
              replace H : (if (t139.length : Int) = (t143.length : Int) then (laws_FnListsClasses.j2 kj12 a1 a2 t139 t143 (decide ((t139.length : Int) < (wrap64 ((t131.length : Int) + 2))))) else (laws_FnListsClasses.j2 kj12 a1 a2 t139 t143 true)) = some r := H
              have A47 := Aside0.mk A470
              clear A470
              have HC48 := Aside0.mk H
              clear H
              go_upto_region 7 with (first | ((with_reducible refine gate_callee (f := 12) rfl ?_); refine goesL_ (some 65) rfl rfl Try.func12 (by kernel_rfl) rfl #[.slice A0 l0.length c0, .string a1] rfl (by (try simp only [List.map_toArray, List.map_cons, List.map_nil]); first | done | rfl | (simp only [List.length_drop, List.length_take]; rfl)) ?_; (with_reducible refine (impl_ListHTML.calls _ _ l0 a1 t138 _ ?side1 ?side2 A44.out).mono ?_); (case side1 => repeat (first | exact (Kd.C_below HR0.out HB.out) | (with_reducible refine Kd.C_alloc ?_ _) | (with_reducible refine Kd.C_drewN ?_ _) | (with_reducible refine Kd.C_drew ?_))); (case side2 => exact HC0.out); rintro e w49 ⟨rfl, hb⟩; refine ⟨_, rfl, ?_⟩; have n0_ := Aside0.mk (Kd.R_below (by (with_reducible repeat (first | apply Kd.R_alloc | apply Kd.R_drewN | apply Kd.R_drew)); exact HO_7.out) hb); have n1_ := Aside0.mk (below_step (by repeat (first | (with_reducible first | exact HB.out | apply below_alloc | apply pw_below_drewN | apply below_drew1) | exact HB.out)) hb); clear HO_7; clear HB; have HO_7 := n0_; have HB := n1_; clear n0_ n1_; (try clear hb); (try clear hb2); (try clear hk); (try clear hi)) | ((with_reducible refine gate_callee (f := 11) rfl ?_); refine goesL_ (some 66) rfl rfl Try.func11 (by kernel_rfl) rfl #[.string t138] rfl (by (try simp only [List.map_toArray, List.map_cons, List.map_nil]); first | done | rfl | (simp only [List.length_drop, List.length_take]; rfl)) ?_; (with_reducible refine (spec_TxLines.calls t138 t139 _ A45.out).mono ?_); rintro e w50 ⟨v140, rfl, ho0, hb⟩; refine ⟨_, rfl, ?_⟩; have n0_ := Aside0.mk (Kd.R_below (by (with_reducible repeat (first | apply Kd.R_alloc | apply Kd.R_drewN | apply Kd.R_drew)); exact HO_7.out) hb); have n1_ := Aside0.mk (Kd.R_lower ho0 (below_size (by repeat (first | (with_reducible first | exact HB.out | apply below_alloc | apply pw_below_drewN | apply below_drew1) | exact HB.out)))); have n2_ := Aside0.mk (below_step (by repeat (first | (with_reducible first | exact HB.out | apply below_alloc | apply pw_below_drewN | apply below_drew1) | exact HB.out)) hb); clear HO_7; clear HB; have HO_7 := n0_; have HO141 := n1_; have HB := n2_; clear n0_ n1_ n2_; (try clear hb); (try clear hb2); (try clear hk); (try clear hi); (try clear ho0)) | ((with_reducible refine gate_callee (f := 12) rfl ?_); refine goesL_ (some 69) rfl rfl Try.func12 (by kernel_rfl) rfl #[.slice A0 l0.length c0, .string a2] rfl (by (try simp only [List.map_toArray, List.map_cons, List.map_nil]); first | done | rfl | (simp only [List.length_drop, List.length_take]; rfl)) ?_; (with_reducible refine (impl_ListHTML.calls _ _ l0 a2 t142 _ ?side1 ?side2 A46.out).mono ?_); (case side1 => repeat (first | exact (Kd.C_below HR0.out HB.out) | (with_reducible refine Kd.C_alloc ?_ _) | (with_reducible refine Kd.C_drewN ?_ _) | (with_reducible refine Kd.C_drew ?_))); (case side2 => exact HC0.out); rintro e w51 ⟨rfl, hb⟩; refine ⟨_, rfl, ?_⟩; have n0_ := Aside0.mk (Kd.R_below (by (with_reducible repeat (first | apply Kd.R_alloc | apply Kd.R_drewN | apply Kd.R_drew)); exact HO_7.out) hb); have n1_ := Aside0.mk (Kd.R_below (by (with_reducible repeat (first | apply Kd.R_alloc | apply Kd.R_drewN | apply Kd.R_drew)); exact HO141.out) hb); have n2_ := Aside0.mk (below_step (by repeat (first | (with_reducible first | exact HB.out | apply below_alloc | apply pw_below_drewN | apply below_drew1) | exact HB.out)) hb); clear HO_7; clear HO141; clear HB; have HO_7 := n0_; have HO141 := n1_; have HB := n2_; clear n0_ n1_ n2_; (try clear hb); (try clear hb2); (try clear hk); (try clear hi)) | ((with_reducible refine gate_callee (f := 11) rfl ?_); refine goesL_ (some 70) rfl rfl Try.func11 (by kernel_rfl) rfl #[.string t142] rfl (by (try simp only [List.map_toArray, List.map_cons, List.map_nil]); first | done | rfl | (simp only [List.length_drop, List.length_take]; rfl)) ?_; (with_reducible refine (spec_TxLines.calls t142 t143 _ A47.out).mono ?_); rintro e w52 ⟨v144, rfl, ho0, hb⟩; refine ⟨_, rfl, ?_⟩; have n0_ := Aside0.mk (Kd.R_below (by (with_reducible repeat (first | apply Kd.R_alloc | apply Kd.R_drewN | apply Kd.R_drew)); exact HO_7.out) hb); have n1_ := Aside0.mk (Kd.R_elder' (by (with_reducible repeat (first | apply Kd.R_alloc | apply Kd.R_drewN | apply Kd.R_drew)); exact HO141.out) (Kd.R_base ho0) hb); have n2_ := Aside0.mk (Kd.R_lower (Kd.R_new' ho0 (Kd.R_lt (by (with_reducible repeat (first | apply Kd.R_alloc | apply Kd.R_drewN | apply Kd.R_drew)); exact HO141.out))) (below_size (by repeat (first | (with_reducible first | exact HB.out | apply below_alloc | apply pw_below_drewN | apply below_drew1) | exact HB.out)))); have n3_ := Aside0.mk (below_step (by repeat (first | (with_reducible first | exact HB.out | apply below_alloc | apply pw_below_drewN | apply below_drew1) | exact HB.out)) hb); clear HO_7; clear HO141; clear HB; have HO_7 := n0_; have HO141 := n1_; have HO145 := n2_; have HB := n3_; clear n0_ n1_ n2_ n3_; (try clear hb); (try clear hb2); (try clear hk); (try clear hi); (try clear ho0)))
              (try simp only [Act.put, List.setIfInBounds_toArray, List.set_cons_zero, List.set_cons_succ])
              go_cut [83] (fun v83 wc => ∃ (kq : Nat) (x83_47 : Bool), v83 = .bool x83_47 ∧ Aside0 (laws_FnListsClasses.j2 kq a1 a2 t139 t143 x83_47 = some r) ∧ Aside0 (kq ≤ kj12) ∧ Aside0 (Kd.R Kd.string 9 wc w.heap.size (fun k_ => some k_ ≠ (v144 : Value).ownBlock) v140 t139) ∧ Aside0 (Kd.R Kd.string 9 wc w.heap.size (fun k_ => some k_ ≠ (v140 : Value).ownBlock) v144 t143) ∧ Aside0 (Below w.heap.size w wc))
              case first =>
                have H := HC48.out
                clear HC48
                by_cases c53 : (t139.length : Int) = (t143.length : Int)
                · rw [if_pos c53] at H
                  have c53b0 : ((t139.length : Int) == (t143.length : Int)) = true := beq_iff_eq.mpr c53
                  have c53b1 : ((t139.length : Int) != (t143.length : Int)) = false := bne_eq_false_iff_eq.mpr c53
                  have c53b2 : (t139.length == t143.length) = true := by first | simpa using c53 | (simp at c53 ⊢; omega)
                  clear c53
                  (first | rw [c53b0] | (simp only [i64_w, i32_w]; rw [c53b0]) | skip)
                  have H' := Aside0.mk H
                  clear H
                  obtain ⟨Ao54, co54, eo54⟩ := Kd.R_slice HO141.out
                  subst eo54
                  obtain ⟨Ao55, co55, eo55⟩ := Kd.R_slice HO145.out
                  subst eo55
                  obtain ⟨Ao56, co56, eo56⟩ := Kd.R_slice HO_7.out
                  subst eo56
                  go_wp2
                  go_meet
                  case rel => exact ⟨_, (decide ((t139.length : Int) < (wrap64 ((t131.length : Int) + 2)))), (by first | rfl | (simp; done) | (simp [*]; done)), H', ⟨by have := HJ3.out; have := HJ12.out; first | omega | exact Nat.le_refl _⟩, ⟨by (with_reducible repeat (first | apply Kd.R_alloc | apply Kd.R_drewN | apply Kd.R_drew)); exact Kd.R_mono HO141.out (fun _ hk => hk.2)⟩, ⟨by (with_reducible repeat (first | apply Kd.R_alloc | apply Kd.R_drewN | apply Kd.R_drew)); exact Kd.R_mono HO145.out (fun _ hk => hk.2)⟩, ⟨by repeat (first | (with_reducible first | exact HB.out | apply below_alloc | apply pw_below_drewN | apply below_drew1) | exact HB.out)⟩⟩
                · rw [if_neg c53] at H
                  have c53b0 : ((t139.length : Int) == (t143.length : Int)) = false := beq_eq_false_iff_ne.mpr c53
                  have c53b1 : ((t139.length : Int) != (t143.length : Int)) = true := bne_iff_ne.mpr c53
                  have c53b2 : (t139.length == t143.length) = false := by first | simpa using c53 | (simp at c53 ⊢; omega)
                  (first | rw [c53b0] | (simp only [i64_w, i32_w]; rw [c53b0]) | skip)
                  have H' := Aside0.mk H
                  clear H
                  obtain ⟨Ao57, co57, eo57⟩ := Kd.R_slice HO141.out
                  subst eo57
                  obtain ⟨Ao58, co58, eo58⟩ := Kd.R_slice HO145.out
                  subst eo58
                  go_wp2
                  go_meet
                  case rel => exact ⟨_, (true), (by first | rfl | (simp; done) | (simp [*]; done)), H', ⟨by have := HJ3.out; have := HJ12.out; first | omega | exact Nat.le_refl _⟩, ⟨by (with_reducible repeat (first | apply Kd.R_alloc | apply Kd.R_drewN | apply Kd.R_drew)); exact Kd.R_mono HO141.out (fun _ hk => hk.2)⟩, ⟨by (with_reducible repeat (first | apply Kd.R_alloc | apply Kd.R_drewN | apply Kd.R_drew)); exact Kd.R_mono HO145.out (fun _ hk => hk.2)⟩, ⟨by repeat (first | (with_reducible first | exact HB.out | apply below_alloc | apply pw_below_drewN | apply below_drew1) | exact HB.out)⟩⟩
              case rest =>
                clear HC48
                try clear c1
                try clear c2
                try clear p2
                try clear c3
                try clear c4
                try clear c5
                try clear c6
                try clear p6
                try clear c7
                try clear c7b0
                try clear c7b1
                try clear c8
                try clear c11
                try clear c12
                try clear c16
                try clear c17
                try clear c17b0
                try clear c17b1
                try clear c17b2
                try clear c21
                try clear c23
                try clear c25
                try clear c26
                try clear c26b0
                try clear c26b1
                try clear c43
                try clear c53
                try clear c53b0
                try clear c53b1
                try clear c53b2
                try clear p2
                obtain ⟨kq, x83_47, rfl, HA, HJ47, HO_8, HO_9, HB⟩ := hcut
                cases kq with
                | zero => exact absurd HA.out (by simp [laws_FnListsClasses.j2])
                | succ kj47 =>
                  have H := HA.out
                  clear HA
                  simp only [laws_FnListsClasses.j2] at H
                  by_cases c59 : x83_47 = true
                  · subst c59
                    have H1 : (some false) = some r := by rw [if_pos rfl] at H; exact H
                    clear H
                    have H := H1
                    clear H1
                    obtain rfl := Option.some.inj H
                    go_wp2
                    go_ret
                    exact ⟨by first | rfl | (simp [errW_none, errW_some] <;> rfl) | (have e_ : ∀ l_ : List UInt8, (l_ != []) = !l_.isEmpty := fun l_ => (by cases l_ <;> rfl); simp [errW_none, errW_some, e_]; done) | (simp [*, errW_none, errW_some] <;> rfl), by repeat (first | (with_reducible first | exact HB.out | apply below_alloc | apply pw_below_drewN | apply below_drew1) | exact HB.out)⟩
                  · replace c59 := Bool.eq_false_iff.mpr c59
                    subst c59
                    have H1 : (laws_FnListsClasses.l0 kj47 a1 a2 t139 t143 (t139.length : Int) 0) = some r := by rw [if_neg (show ¬ (false = true) by decide)] at H; exact H
                    clear H
                    have H := H1
                    clear H1
                    have H' := Aside0.mk H
                    clear H
                    obtain ⟨Ao60, co60, eo60⟩ := Kd.R_slice HO_8.out
                    subst eo60
                    go_wp2
                    go_loopg [86] kj47 (fun kq v86 w' => ∃ (x86_4 : Int), v86 = .int .i64 x86_4 ∧ Aside0 (laws_FnListsClasses.l0 kq a1 a2 t139 t143 (t139.length : Int) x86_4 = some r) ∧ Aside0 (kq ≤ kj47) ∧ Aside0 (Kd.R Kd.string 9 w' w.heap.size (fun k_ => some k_ ≠ (v144 : Value).ownBlock) (.slice Ao60 t139.length co60) t139) ∧ Aside0 (Kd.R Kd.string 9 w' w.heap.size (fun k_ => some k_ ≠ ((.slice Ao60 t139.length co60) : Value).ownBlock) v144 t143) ∧ Aside0 (Below w.heap.size w w'))
                    case atStart => exact ⟨(0), (by first | rfl | (simp; done) | (simp [*]; done)), H', ⟨Nat.le_refl _⟩, ⟨by (with_reducible repeat (first | apply Kd.R_alloc | apply Kd.R_drewN | apply Kd.R_drew)); exact HO_8.out⟩, ⟨by (with_reducible repeat (first | apply Kd.R_alloc | apply Kd.R_drewN | apply Kd.R_drew)); exact HO_9.out⟩, ⟨by repeat (first | (with_reducible first | exact HB.out | apply below_alloc | apply pw_below_drewN | apply below_drew1) | exact HB.out)⟩⟩
                    case round =>
                      clear H'
                      try clear c1
                      try clear c2
                      try clear p2
                      try clear c3
                      try clear c4
                      try clear c5
                      try clear c6
                      try clear p6
                      try clear c7
                      try clear c7b0
                      try clear c7b1
                      try clear c8
                      try clear c11
                      try clear c12
                      try clear c16
                      try clear c17
                      try clear c17b0
                      try clear c17b1
                      try clear c17b2
                      try clear c21
                      try clear c23
                      try clear c25
                      try clear c26
                      try clear c26b0
                      try clear c26b1
                      try clear c43
                      try clear c53
                      try clear c53b0
                      try clear c53b1
                      try clear c53b2
                      try clear c59
                      try clear p2
                      try clear p6
                      obtain ⟨x86_4, rfl, HA, HK4, HO_8, HO_9, HB⟩ := hrel
                      cases gk with
                      | zero => exact absurd HA.out (by simp [laws_FnListsClasses.l0])
                      | succ k4 =>
                        have H := HA.out
                        clear HA
                        simp only [laws_FnListsClasses.l0] at H
                        by_cases c61 : x86_4 < (t139.length : Int)
                        · rw [if_pos c61] at H
                          have c61b0 : decide (x86_4 < (t139.length : Int)) = true := decide_eq_true c61
                          clear c61
                          by_cases c62 : 0 ≤ x86_4
                          · rw [if_pos c62] at H
                            have c62b0 : decide (0 ≤ x86_4) = true := decide_eq_true c62
                            clear c62
                            by_cases c63 : x86_4 < (t139.length : Int)
                            · rw [if_pos c63] at H
                              have c63b0 : decide (x86_4 < (t139.length : Int)) = true := decide_eq_true c63
                              clear c63
                              replace H := Option.bind_eq_some_iff.mp H
                              obtain ⟨⟨t147, t148⟩, A640, H⟩ := H
                              replace H : (if x86_4 < (t143.length : Int) then ((spec_LtClassed.f k4 (rdOf ByteArray.empty t143 x86_4) a2).bind fun bt150 => (if (t148 != bt150.2) = true then (some false) else (if t147.toList = bt150.1.toList then (laws_FnListsClasses.l0 k4 a1 a2 t139 t143 (t139.length : Int) (wrap64 (x86_4 + 1))) else (some false)))) else (none)) = some r := H
                              have A64 := Aside0.mk A640
                              clear A640
                              by_cases c65 : x86_4 < (t143.length : Int)
                              · rw [if_pos c65] at H
                                have c65b0 : decide (x86_4 < (t143.length : Int)) = true := decide_eq_true c65
                                clear c65
                                replace H := Option.bind_eq_some_iff.mp H
                                obtain ⟨⟨t150, t151⟩, A660, H⟩ := H
                                replace H : (if (t148 != t151) = true then (some false) else (if t147.toList = t150.toList then (laws_FnListsClasses.l0 k4 a1 a2 t139 t143 (t139.length : Int) (wrap64 (x86_4 + 1))) else (some false))) = some r := H
                                have A66 := Aside0.mk A660
                                clear A660
                                by_cases c67 : (t148 != t151) = true
                                · rw [if_pos c67] at H
                                  have c67b0 : (t148 != t151) = true := c67
                                  (try (have c67b1 : decide (t148 = t151) = false := by simpa using c67))
                                  (try (have c67b2 : (t148 == t151) = false := by simpa using c67))
                                  (try (have c67b3 : ¬ (t148 = t151) := by simpa using c67))
                                  clear c67
                                  obtain rfl := Option.some.inj H
                                  have p146 : 0 ≤ (x86_4 : Int) := of_decide_eq_true (by first | (with_reducible assumption) | assumption)
                                  have q146 : x86_4 < (t139.length : Int) := of_decide_eq_true (by first | (with_reducible assumption) | assumption)
                                  obtain ⟨ad146, e146, hx146_0⟩ := Kd.at_string (Kd.R_reads' HO_8.out).2.2 x86_4 p146 q146
                                  cases e146
                                  replace p146 := eq_true p146
                                  replace q146 := eq_true q146
                                  go_wp2_with (first | ((with_reducible refine gate_callee (f := 13) rfl ?_); refine goesL_ (some 95) rfl rfl Try.func13 (by kernel_rfl) rfl #[.string (rdOf ByteArray.empty t139 x86_4), .string a1] rfl (by (try simp only [List.map_toArray, List.map_cons, List.map_nil]); first | done | rfl | (simp only [List.length_drop, List.length_take]; rfl)) ?_; (with_reducible refine (spec_LtClassed.calls k4 (rdOf ByteArray.empty t139 x86_4) a1 t147 t148 _ A64.out).mono ?_); rintro e w' ⟨rfl, ⟨nd, rfl⟩⟩; refine ⟨_, rfl, ?_⟩; obtain ⟨Ao68, co68, eo68⟩ := Kd.R_slice HO_9.out; subst eo68; have p149 : 0 ≤ (x86_4 : Int) := of_decide_eq_true (by first | (with_reducible assumption) | assumption); have q149 : x86_4 < (t143.length : Int) := of_decide_eq_true (by first | (with_reducible assumption) | assumption); obtain ⟨ad149, e149, hx149_0⟩ := Kd.at_string (Kd.R_reads' HO_9.out).2.2 x86_4 p149 q149; cases e149; replace p149 := eq_true p149; replace q149 := eq_true q149) | ((with_reducible refine gate_callee (f := 13) rfl ?_); refine goesL_ (some 104) rfl rfl Try.func13 (by kernel_rfl) rfl #[.string (rdOf ByteArray.empty t143 x86_4), .string a2] rfl (by (try simp only [List.map_toArray, List.map_cons, List.map_nil]); first | done | rfl | (simp only [List.length_drop, List.length_take]; rfl)) ?_; (with_reducible refine (spec_LtClassed.calls k4 (rdOf ByteArray.empty t143 x86_4) a2 t150 t151 _ A66.out).mono ?_); rintro e w' ⟨rfl, ⟨nd, rfl⟩⟩; refine ⟨_, rfl, ?_⟩))
                                  go_ret
                                  exact ⟨by first | rfl | (simp [errW_none, errW_some] <;> rfl) | (have e_ : ∀ l_ : List UInt8, (l_ != []) = !l_.isEmpty := fun l_ => (by cases l_ <;> rfl); simp [errW_none, errW_some, e_]; done) | (simp [*, errW_none, errW_some] <;> rfl), by repeat (first | (with_reducible first | exact HB.out | apply below_alloc | apply pw_below_drewN | apply below_drew1) | exact HB.out)⟩
                                · rw [if_neg c67] at H
                                  have c67b0 : (t148 != t151) = false := by simpa using c67
                                  (try (have c67b1 : decide (t148 = t151) = true := by simpa using c67))
                                  (try (have c67b2 : (t148 == t151) = true := by simpa using c67))
                                  clear c67
                                  by_cases c69 : t147.toList = t150.toList
                                  · rw [if_pos c69] at H
                                    have c69b0 : (t147.toList == t150.toList) = true := beq_iff_eq.mpr c69
                                    have c69b1 : (t147.toList != t150.toList) = false := bne_eq_false_iff_eq.mpr c69
                                    clear c69
                                    have H' := Aside0.mk H
                                    clear H
                                    have p146 : 0 ≤ (x86_4 : Int) := of_decide_eq_true (by first | (with_reducible assumption) | assumption)
                                    have q146 : x86_4 < (t139.length : Int) := of_decide_eq_true (by first | (with_reducible assumption) | assumption)
                                    obtain ⟨ad146, e146, hx146_0⟩ := Kd.at_string (Kd.R_reads' HO_8.out).2.2 x86_4 p146 q146
                                    cases e146
                                    replace p146 := eq_true p146
                                    replace q146 := eq_true q146
                                    go_wp2_with (first | ((with_reducible refine gate_callee (f := 13) rfl ?_); refine goesL_ (some 95) rfl rfl Try.func13 (by kernel_rfl) rfl #[.string (rdOf ByteArray.empty t139 x86_4), .string a1] rfl (by (try simp only [List.map_toArray, List.map_cons, List.map_nil]); first | done | rfl | (simp only [List.length_drop, List.length_take]; rfl)) ?_; (with_reducible refine (spec_LtClassed.calls k4 (rdOf ByteArray.empty t139 x86_4) a1 t147 t148 _ A64.out).mono ?_); rintro e w' ⟨rfl, ⟨nd, rfl⟩⟩; refine ⟨_, rfl, ?_⟩; obtain ⟨Ao70, co70, eo70⟩ := Kd.R_slice HO_9.out; subst eo70; have p149 : 0 ≤ (x86_4 : Int) := of_decide_eq_true (by first | (with_reducible assumption) | assumption); have q149 : x86_4 < (t143.length : Int) := of_decide_eq_true (by first | (with_reducible assumption) | assumption); obtain ⟨ad149, e149, hx149_0⟩ := Kd.at_string (Kd.R_reads' HO_9.out).2.2 x86_4 p149 q149; cases e149; replace p149 := eq_true p149; replace q149 := eq_true q149) | ((with_reducible refine gate_callee (f := 13) rfl ?_); refine goesL_ (some 104) rfl rfl Try.func13 (by kernel_rfl) rfl #[.string (rdOf ByteArray.empty t143 x86_4), .string a2] rfl (by (try simp only [List.map_toArray, List.map_cons, List.map_nil]); first | done | rfl | (simp only [List.length_drop, List.length_take]; rfl)) ?_; (with_reducible refine (spec_LtClassed.calls k4 (rdOf ByteArray.empty t143 x86_4) a2 t150 t151 _ A66.out).mono ?_); rintro e w' ⟨rfl, ⟨nd, rfl⟩⟩; refine ⟨_, rfl, ?_⟩))
                                    go_roundg k4
                                    case measure => have := HJ3.out; have := HJ12.out; have := HJ47.out; have := HK4.out; omega
                                    case rel => exact ⟨(wrap64 (x86_4 + 1)), (by first | rfl | (simp; done) | (simp [*]; done)), H', ⟨by have := HJ3.out; have := HJ12.out; have := HJ47.out; have := HK4.out; omega⟩, ⟨by (with_reducible repeat (first | apply Kd.R_alloc | apply Kd.R_drewN | apply Kd.R_drew)); exact HO_8.out⟩, ⟨by (with_reducible repeat (first | apply Kd.R_alloc | apply Kd.R_drewN | apply Kd.R_drew)); exact HO_9.out⟩, ⟨by repeat (first | (with_reducible first | exact HB.out | apply below_alloc | apply pw_below_drewN | apply below_drew1) | exact HB.out)⟩⟩
                                  · rw [if_neg c69] at H
                                    have c69b0 : (t147.toList == t150.toList) = false := beq_eq_false_iff_ne.mpr c69
                                    have c69b1 : (t147.toList != t150.toList) = true := bne_iff_ne.mpr c69
                                    obtain rfl := Option.some.inj H
                                    have p146 : 0 ≤ (x86_4 : Int) := of_decide_eq_true (by first | (with_reducible assumption) | assumption)
                                    have q146 : x86_4 < (t139.length : Int) := of_decide_eq_true (by first | (with_reducible assumption) | assumption)
                                    obtain ⟨ad146, e146, hx146_0⟩ := Kd.at_string (Kd.R_reads' HO_8.out).2.2 x86_4 p146 q146
                                    cases e146
                                    replace p146 := eq_true p146
                                    replace q146 := eq_true q146
                                    go_wp2_with (first | ((with_reducible refine gate_callee (f := 13) rfl ?_); refine goesL_ (some 95) rfl rfl Try.func13 (by kernel_rfl) rfl #[.string (rdOf ByteArray.empty t139 x86_4), .string a1] rfl (by (try simp only [List.map_toArray, List.map_cons, List.map_nil]); first | done | rfl | (simp only [List.length_drop, List.length_take]; rfl)) ?_; (with_reducible refine (spec_LtClassed.calls k4 (rdOf ByteArray.empty t139 x86_4) a1 t147 t148 _ A64.out).mono ?_); rintro e w' ⟨rfl, ⟨nd, rfl⟩⟩; refine ⟨_, rfl, ?_⟩; obtain ⟨Ao71, co71, eo71⟩ := Kd.R_slice HO_9.out; subst eo71; have p149 : 0 ≤ (x86_4 : Int) := of_decide_eq_true (by first | (with_reducible assumption) | assumption); have q149 : x86_4 < (t143.length : Int) := of_decide_eq_true (by first | (with_reducible assumption) | assumption); obtain ⟨ad149, e149, hx149_0⟩ := Kd.at_string (Kd.R_reads' HO_9.out).2.2 x86_4 p149 q149; cases e149; replace p149 := eq_true p149; replace q149 := eq_true q149) | ((with_reducible refine gate_callee (f := 13) rfl ?_); refine goesL_ (some 104) rfl rfl Try.func13 (by kernel_rfl) rfl #[.string (rdOf ByteArray.empty t143 x86_4), .string a2] rfl (by (try simp only [List.map_toArray, List.map_cons, List.map_nil]); first | done | rfl | (simp only [List.length_drop, List.length_take]; rfl)) ?_; (with_reducible refine (spec_LtClassed.calls k4 (rdOf ByteArray.empty t143 x86_4) a2 t150 t151 _ A66.out).mono ?_); rintro e w' ⟨rfl, ⟨nd, rfl⟩⟩; refine ⟨_, rfl, ?_⟩))
                                    go_ret
                                    exact ⟨by first | rfl | (simp [errW_none, errW_some] <;> rfl) | (have e_ : ∀ l_ : List UInt8, (l_ != []) = !l_.isEmpty := fun l_ => (by cases l_ <;> rfl); simp [errW_none, errW_some, e_]; done) | (simp [*, errW_none, errW_some] <;> rfl), by repeat (first | (with_reducible first | exact HB.out | apply below_alloc | apply pw_below_drewN | apply below_drew1) | exact HB.out)⟩
                              · rw [if_neg c65] at H
                                exact absurd H (by simp)
                            · rw [if_neg c63] at H
                              exact absurd H (by simp)
                          · rw [if_neg c62] at H
                            exact absurd H (by simp)
                        · rw [if_neg c61] at H
                          have c61b0 : decide (x86_4 < (t139.length : Int)) = false := decide_eq_false c61
                          clear c61
                          obtain rfl := Option.some.inj H
                          go_wp2
                          go_ret
                          exact ⟨by first | rfl | (simp [errW_none, errW_some] <;> rfl) | (have e_ : ∀ l_ : List UInt8, (l_ != []) = !l_.isEmpty := fun l_ => (by cases l_ <;> rfl); simp [errW_none, errW_some, e_]; done) | (simp [*, errW_none, errW_some] <;> rfl), by repeat (first | (with_reducible first | exact HB.out | apply below_alloc | apply pw_below_drewN | apply below_drew1) | exact HB.out)⟩

-- FOREIGN: function 24 (spec_LtHTMLText)

-- FOREIGN: function 38 (spec_TxTimes)

end Go.Proofs.Yteenhipldfdkaaa.P
