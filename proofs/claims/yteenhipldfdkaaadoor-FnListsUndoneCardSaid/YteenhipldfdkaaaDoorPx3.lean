/- Printed by a program of this session (pf.sh): Go functions as Lean functions, with their contracts. -/
import Derived.Test.YteenhipldfdkaaaDoorPx0
import Derived.Test.YteenhipldfdkaaaDoorPx2
import Derived.Test.YteenhipldfdkaaaDoorFf
namespace Go.Proofs.YteenhipldfdkaaaDoor.P
open Go.RowKit Go.Proofs.YteenhipldfdkaaaDoorW.PrintWords Go.Proofs.YteenhipldfdkaaaDoorW.PrintLast Go.Proofs.YteenhipldfdkaaaDoorW.PrintMore
attribute [local go_sem] max2_int min2_int max_two min_two max_three min_three max_four min_four   -- for this text's walks alone
set_option linter.unusedVariables false
set_option linter.unusedSimpArgs false

/-! ### spec_LtLines: function 30 -/
mutual
def spec_LtLines.j1 : Nat → List (S54) → Int → List ByteArray → Int → ByteArray → ByteArray → ByteArray → ByteArray → ByteArray → ByteArray → ByteArray → ByteArray → Option (List ByteArray)
  | 0, _, _, _, _, _, _, _, _, _, _, _, _ => none
  | k + 1, x0, x1, x7, x132000, x132001, x132002, x132003, x132004, x132005, x132006, x132007, x132008 => spec_LtLines.l1 k x0 x1 ([] : List ByteArray) x7 (x7.length : Int) 0 x132000 x132001 x132002 x132003 x132004 x132005 x132006 x132007 x132008
def spec_LtLines.l1 : Nat → List (S54) → Int → List ByteArray → List ByteArray → Int → Int → Int → ByteArray → ByteArray → ByteArray → ByteArray → ByteArray → ByteArray → ByteArray → ByteArray → Option (List ByteArray)
  | 0, _, _, _, _, _, _, _, _, _, _, _, _, _, _, _ => none
  | k + 1, x0, x1, x11, x42, x43, x44, x132000, x132001, x132002, x132003, x132004, x132005, x132006, x132007, x132008 => if x44 < x43 then (if 0 ≤ x44 then (if x44 < (x42.length : Int) then (if x44 = 0 then ((spec_LtAhead.f k x0 x1 x132000 x132001 x132002 x132003 x132004 x132005 x132006 x132007 x132008).bind fun t141 => ((spec_LtBullet.f k x0 x1 x132000 x132001 x132002 x132003 x132004 x132005 x132006 x132007 x132008).bind fun t142 => (if t141.size + t142.size ≤ 9223372036854775807 then (if (t141 ++ t142).size + 1 ≤ 9223372036854775807 then (if ((t141 ++ t142) ++ (⟨#[32]⟩ : ByteArray)).size + (rdOf ByteArray.empty x42 x44).size ≤ 9223372036854775807 then (if x11.length < 8796093022208 then (spec_LtLines.l1 k x0 x1 (x11 ++ [((t141 ++ t142) ++ (⟨#[32]⟩ : ByteArray)) ++ (rdOf ByteArray.empty x42 x44)]) x42 x43 (wrap64 (x44 + 1)) x132000 x132001 x132002 x132003 x132004 x132005 x132006 x132007 x132008) else (none)) else (none)) else (none)) else (none)))) else ((spec_LtAhead.f k x0 x1 x132000 x132001 x132002 x132003 x132004 x132005 x132006 x132007 x132008).bind fun t146 => (if 0 ≤ x1 then (if x1 < (x0.length : Int) then ((spec_ltLink.f k x0 x1 ((rd_T54 x0 x1).f1) x132000 x132001 x132002 x132003 x132004 x132005 x132006 x132007 x132008).bind fun t148 => (if t146.size + t148.size ≤ 9223372036854775807 then (if (t146 ++ t148).size + (rdOf ByteArray.empty x42 x44).size ≤ 9223372036854775807 then (if x11.length < 8796093022208 then (spec_LtLines.l1 k x0 x1 (x11 ++ [(t146 ++ t148) ++ (rdOf ByteArray.empty x42 x44)]) x42 x43 (wrap64 (x44 + 1)) x132000 x132001 x132002 x132003 x132004 x132005 x132006 x132007 x132008) else (none)) else (none)) else (none))) else (none)) else (none)))) else (none)) else (none)) else (some x11)
def spec_LtLines.l0 : Nat → List (S54) → Int → ByteArray → List ByteArray → Int → Int → Int → ByteArray → ByteArray → ByteArray → ByteArray → ByteArray → ByteArray → ByteArray → ByteArray → Option (List ByteArray)
  | 0, _, _, _, _, _, _, _, _, _, _, _, _, _, _, _ => none
  | k + 1, x0, x1, x8, x23, x24, x25, x132000, x132001, x132002, x132003, x132004, x132005, x132006, x132007, x132008 => if x25 < x24 then (if 0 ≤ x25 then (if x25 < (x23.length : Int) then (if x25 > 0 then (if x8.size + x132007.size ≤ 9223372036854775807 then (if (x8 ++ x132007).size + (rdOf ByteArray.empty x23 x25).size ≤ 9223372036854775807 then (spec_LtLines.l0 k x0 x1 ((x8 ++ x132007) ++ (rdOf ByteArray.empty x23 x25)) x23 x24 (wrap64 (x25 + 1)) x132000 x132001 x132002 x132003 x132004 x132005 x132006 x132007 x132008) else (none)) else (none)) else (if x8.size + (rdOf ByteArray.empty x23 x25).size ≤ 9223372036854775807 then (spec_LtLines.l0 k x0 x1 (x8 ++ (rdOf ByteArray.empty x23 x25)) x23 x24 (wrap64 (x25 + 1)) x132000 x132001 x132002 x132003 x132004 x132005 x132006 x132007 x132008) else (none))) else (none)) else (none)) else (spec_LtLines.j1 k x0 x1 (([x8] : List ByteArray)) x132000 x132001 x132002 x132003 x132004 x132005 x132006 x132007 x132008)
end
def spec_LtLines.f (k : Nat) (l0 : List (S54)) (a1 : Int) (a2_0 : Int) (a2_1 : ByteArray) (a2_2 : ByteArray) (a2_3 : ByteArray) (a2_4 : ByteArray) (a2_5 : ByteArray) (a2_6 : ByteArray) (a2_7 : ByteArray) (a2_8 : ByteArray) : Option (List ByteArray) := if 0 ≤ a1 then (if a1 < (l0.length : Int) then ((spec_TxLines.f ((rd_T54 l0 a1).f0)).bind fun t133 => (if a2_7.toList = ([10] : List UInt8) then (spec_LtLines.j1 k l0 a1 t133 a2_0 a2_1 a2_2 a2_3 a2_4 a2_5 a2_6 a2_7 a2_8) else (spec_LtLines.l0 k l0 a1 (⟨#[]⟩ : ByteArray) t133 (t133.length : Int) 0 a2_0 a2_1 a2_2 a2_3 a2_4 a2_5 a2_6 a2_7 a2_8))) else (none)) else (none)
theorem spec_LtLines.mono_l : ∀ k, (∀ y0 y1 y2 y3 y4 y5 y6 y7 y8 y9 y10 y11, LeO (spec_LtLines.j1 k y0 y1 y2 y3 y4 y5 y6 y7 y8 y9 y10 y11) (spec_LtLines.j1 (k + 1) y0 y1 y2 y3 y4 y5 y6 y7 y8 y9 y10 y11)) ∧ (∀ y0 y1 y2 y3 y4 y5 y6 y7 y8 y9 y10 y11 y12 y13 y14, LeO (spec_LtLines.l1 k y0 y1 y2 y3 y4 y5 y6 y7 y8 y9 y10 y11 y12 y13 y14) (spec_LtLines.l1 (k + 1) y0 y1 y2 y3 y4 y5 y6 y7 y8 y9 y10 y11 y12 y13 y14)) ∧ (∀ y0 y1 y2 y3 y4 y5 y6 y7 y8 y9 y10 y11 y12 y13 y14, LeO (spec_LtLines.l0 k y0 y1 y2 y3 y4 y5 y6 y7 y8 y9 y10 y11 y12 y13 y14) (spec_LtLines.l0 (k + 1) y0 y1 y2 y3 y4 y5 y6 y7 y8 y9 y10 y11 y12 y13 y14))
  | 0 => ⟨fun _ _ _ _ _ _ _ _ _ _ _ _ r h => by simp [spec_LtLines.j1] at h, fun _ _ _ _ _ _ _ _ _ _ _ _ _ _ _ r h => by simp [spec_LtLines.l1] at h, fun _ _ _ _ _ _ _ _ _ _ _ _ _ _ _ r h => by simp [spec_LtLines.l0] at h⟩
  | k + 1 => by
    obtain ⟨ih0, ih1, ih2⟩ := spec_LtLines.mono_l k
    refine ⟨?_, ?_, ?_⟩
    · intro y0 y1 y2 y3 y4 y5 y6 y7 y8 y9 y10 y11
      unfold spec_LtLines.j1
      repeat' first
      | (with_reducible exact ih0 _ _ _ _ _ _ _ _ _ _ _ _)
      | (with_reducible exact ih1 _ _ _ _ _ _ _ _ _ _ _ _ _ _ _)
      | (with_reducible exact ih2 _ _ _ _ _ _ _ _ _ _ _ _ _ _ _)
      | (with_reducible exact spec_LtAhead.mono _ _ _ _ _ _ _ _ _ _ _ _)
      | (with_reducible exact spec_LtBullet.mono _ _ _ _ _ _ _ _ _ _ _ _)
      | (with_reducible exact spec_ltLink.mono _ _ _ _ _ _ _ _ _ _ _ _ _)
      | (with_reducible exact LeO.refl _)
      | (with_reducible exact LeO.none _)
      | (with_reducible refine LeO.ite ?_ ?_)
      | (with_reducible refine LeO.bind ?_ (fun _ => ?_))
      | exact ih0 _ _ _ _ _ _ _ _ _ _ _ _
      | exact ih1 _ _ _ _ _ _ _ _ _ _ _ _ _ _ _
      | exact ih2 _ _ _ _ _ _ _ _ _ _ _ _ _ _ _
      | exact spec_LtAhead.mono _ _ _ _ _ _ _ _ _ _ _ _
      | exact spec_LtBullet.mono _ _ _ _ _ _ _ _ _ _ _ _
      | exact spec_ltLink.mono _ _ _ _ _ _ _ _ _ _ _ _ _
      | exact LeO.none _
      | refine LeO.ite ?_ ?_
      | refine LeO.bind ?_ (fun _ => ?_)
    · intro y0 y1 y2 y3 y4 y5 y6 y7 y8 y9 y10 y11 y12 y13 y14
      unfold spec_LtLines.l1
      repeat' first
      | (with_reducible exact ih0 _ _ _ _ _ _ _ _ _ _ _ _)
      | (with_reducible exact ih1 _ _ _ _ _ _ _ _ _ _ _ _ _ _ _)
      | (with_reducible exact ih2 _ _ _ _ _ _ _ _ _ _ _ _ _ _ _)
      | (with_reducible exact spec_LtAhead.mono _ _ _ _ _ _ _ _ _ _ _ _)
      | (with_reducible exact spec_LtBullet.mono _ _ _ _ _ _ _ _ _ _ _ _)
      | (with_reducible exact spec_ltLink.mono _ _ _ _ _ _ _ _ _ _ _ _ _)
      | (with_reducible exact LeO.refl _)
      | (with_reducible exact LeO.none _)
      | (with_reducible refine LeO.ite ?_ ?_)
      | (with_reducible refine LeO.bind ?_ (fun _ => ?_))
      | exact ih0 _ _ _ _ _ _ _ _ _ _ _ _
      | exact ih1 _ _ _ _ _ _ _ _ _ _ _ _ _ _ _
      | exact ih2 _ _ _ _ _ _ _ _ _ _ _ _ _ _ _
      | exact spec_LtAhead.mono _ _ _ _ _ _ _ _ _ _ _ _
      | exact spec_LtBullet.mono _ _ _ _ _ _ _ _ _ _ _ _
      | exact spec_ltLink.mono _ _ _ _ _ _ _ _ _ _ _ _ _
      | exact LeO.none _
      | refine LeO.ite ?_ ?_
      | refine LeO.bind ?_ (fun _ => ?_)
    · intro y0 y1 y2 y3 y4 y5 y6 y7 y8 y9 y10 y11 y12 y13 y14
      unfold spec_LtLines.l0
      repeat' first
      | (with_reducible exact ih0 _ _ _ _ _ _ _ _ _ _ _ _)
      | (with_reducible exact ih1 _ _ _ _ _ _ _ _ _ _ _ _ _ _ _)
      | (with_reducible exact ih2 _ _ _ _ _ _ _ _ _ _ _ _ _ _ _)
      | (with_reducible exact spec_LtAhead.mono _ _ _ _ _ _ _ _ _ _ _ _)
      | (with_reducible exact spec_LtBullet.mono _ _ _ _ _ _ _ _ _ _ _ _)
      | (with_reducible exact spec_ltLink.mono _ _ _ _ _ _ _ _ _ _ _ _ _)
      | (with_reducible exact LeO.refl _)
      | (with_reducible exact LeO.none _)
      | (with_reducible refine LeO.ite ?_ ?_)
      | (with_reducible refine LeO.bind ?_ (fun _ => ?_))
      | exact ih0 _ _ _ _ _ _ _ _ _ _ _ _
      | exact ih1 _ _ _ _ _ _ _ _ _ _ _ _ _ _ _
      | exact ih2 _ _ _ _ _ _ _ _ _ _ _ _ _ _ _
      | exact spec_LtAhead.mono _ _ _ _ _ _ _ _ _ _ _ _
      | exact spec_LtBullet.mono _ _ _ _ _ _ _ _ _ _ _ _
      | exact spec_ltLink.mono _ _ _ _ _ _ _ _ _ _ _ _ _
      | exact LeO.none _
      | refine LeO.ite ?_ ?_
      | refine LeO.bind ?_ (fun _ => ?_)
theorem spec_LtLines.mono : ∀ a0 a1 a2 a3 a4 a5 a6 a7 a8 a9 a10 k, LeO (spec_LtLines.f k a0 a1 a2 a3 a4 a5 a6 a7 a8 a9 a10) (spec_LtLines.f (k + 1) a0 a1 a2 a3 a4 a5 a6 a7 a8 a9 a10) := by
  intro a0 a1 a2 a3 a4 a5 a6 a7 a8 a9 a10 k
  obtain ⟨ih0, ih1, ih2⟩ := spec_LtLines.mono_l k
  unfold spec_LtLines.f
  repeat' first
      | (with_reducible exact ih0 _ _ _ _ _ _ _ _ _ _ _ _)
      | (with_reducible exact ih1 _ _ _ _ _ _ _ _ _ _ _ _ _ _ _)
      | (with_reducible exact ih2 _ _ _ _ _ _ _ _ _ _ _ _ _ _ _)
      | (with_reducible exact spec_LtAhead.mono _ _ _ _ _ _ _ _ _ _ _ _)
      | (with_reducible exact spec_LtBullet.mono _ _ _ _ _ _ _ _ _ _ _ _)
      | (with_reducible exact spec_ltLink.mono _ _ _ _ _ _ _ _ _ _ _ _ _)
      | (with_reducible exact LeO.refl _)
      | (with_reducible exact LeO.none _)
      | (with_reducible refine LeO.ite ?_ ?_)
      | (with_reducible refine LeO.bind ?_ (fun _ => ?_))
      | exact ih0 _ _ _ _ _ _ _ _ _ _ _ _
      | exact ih1 _ _ _ _ _ _ _ _ _ _ _ _ _ _ _
      | exact ih2 _ _ _ _ _ _ _ _ _ _ _ _ _ _ _
      | exact spec_LtAhead.mono _ _ _ _ _ _ _ _ _ _ _ _
      | exact spec_LtBullet.mono _ _ _ _ _ _ _ _ _ _ _ _
      | exact spec_ltLink.mono _ _ _ _ _ _ _ _ _ _ _ _ _
      | exact LeO.none _
      | refine LeO.ite ?_ ?_
      | refine LeO.bind ?_ (fun _ => ?_)
def spec_LtLines.T17 : Bool × List (List Nat × List Nat) := (true, [([], []), ([], []), ([], []), ([], []), ([1, 2, 3], [1, 2, 3]), ([], []), ([], []), ([], []), ([5, 6, 7, 4], [5, 6, 7]), ([4, 8], [4, 8]), ([9], [9]), ([], []), ([10, 11], [10, 11]), ([12], [12]), ([0, 13, 8], [0, 13]), ([14, 14, 0, 1, 2, 3, 4, 5, 6, 7, 8, 9, 10, 11, 12, 13, 14], [0, 14])])
def spec_LtLines.B17 : List Nat := [0, 0, 0, 0, 14, 0, 0, 0, 254, 510, 1022, 0, 4094, 8190, 16383, 32767]
theorem spec_LtLines.tab17 : rtab .any (opsOf Tryd.f30 17) = spec_LtLines.T17 := by kernel_rfl
theorem spec_LtLines.bits17 : waitsOk spec_LtLines.T17.2 spec_LtLines.B17 = true := by kernel_rfl
def spec_LtLines.T18 : Bool × List (List Nat × List Nat) := (true, [([], []), ([], []), ([], []), ([], []), ([1, 2, 3], [1, 2, 3]), ([], []), ([], []), ([], []), ([], []), ([7, 8], [7, 8]), ([9], [9]), ([10], [10]), ([], []), ([5, 6, 11, 12, 4], [5, 6, 11, 12]), ([4, 13], [4, 13]), ([], []), ([14, 15], [14, 15]), ([16], [16]), ([0, 17, 13], [0, 17]), ([18, 18, 0, 1, 2, 3, 4, 5, 6, 7, 8, 9, 10, 11, 12, 13, 14, 15, 16, 17, 18], [0, 18])])
def spec_LtLines.B18 : List Nat := [0, 0, 0, 0, 14, 0, 0, 0, 0, 384, 896, 1920, 0, 8190, 16382, 0, 65534, 131070, 262143, 524287]
theorem spec_LtLines.tab18 : rtab .any (opsOf Tryd.f30 18) = spec_LtLines.T18 := by kernel_rfl
theorem spec_LtLines.bits18 : waitsOk spec_LtLines.T18.2 spec_LtLines.B18 = true := by kernel_rfl
set_option maxHeartbeats 8000000 in
set_option maxRecDepth 100000 in
theorem spec_LtLines.calls (k : Nat) (P0_ : Nat → Prop) (A0 : Option Addr) (c0 : Nat) (l0 : List (S54)) (a1 : Int) (a2_0 : Int) (a2_1 : ByteArray) (a2_2 : ByteArray) (a2_3 : ByteArray) (a2_4 : ByteArray) (a2_5 : ByteArray) (a2_6 : ByteArray) (a2_7 : ByteArray) (a2_8 : ByteArray) (r : List ByteArray) (w : World) (hs0 : Kd.V k54 54 w w.heap.size (fun k_ => P0_ k_) (.slice A0 l0.length c0) l0) (h : spec_LtLines.f k l0 a1 a2_0 a2_1 a2_2 a2_3 a2_4 a2_5 a2_6 a2_7 a2_8 = some r) :
    Calls Tryd.prog 30 #[.slice A0 l0.length c0, .int .i64 a1, .agg #[.int .i64 a2_0, .string a2_1, .string a2_2, .string a2_3, .string a2_4, .string a2_5, .string a2_6, .string a2_7, .string a2_8]] w fun e w' => ∃ v0_ : Value, e = .returned (v0_) ∧ Kd.R Kd.string 9 w' w.heap.size (fun k_ => (w.heap.size ≤ k_)) v0_ r ∧ Below w.heap.size w w' := by
  have hu29 := Tryd.underlying29
  have HO0 := Aside0.mk (show Kd.V k54 54 w w.heap.size (fun k_ => (P0_ k_ ∨ w.heap.size ≤ k_)) (.slice A0 l0.length c0) l0 from Kd.V_mono hs0 (fun k_ hk => .inl hk))
  have HB := Aside0.mk (Below.refl w.heap.size w)
  have H : (if 0 ≤ a1 then (if a1 < (l0.length : Int) then ((spec_TxLines.f ((rd_T54 l0 a1).f0)).bind fun t133 => (if a2_7.toList = ([10] : List UInt8) then (spec_LtLines.j1 k l0 a1 t133 a2_0 a2_1 a2_2 a2_3 a2_4 a2_5 a2_6 a2_7 a2_8) else (spec_LtLines.l0 k l0 a1 (⟨#[]⟩ : ByteArray) t133 (t133.length : Int) 0 a2_0 a2_1 a2_2 a2_3 a2_4 a2_5 a2_6 a2_7 a2_8))) else (none)) else (none)) = some r := h
  clear h
  by_cases c4 : 0 ≤ a1
  · rw [if_pos c4] at H
    have c4b0 : decide (0 ≤ a1) = true := decide_eq_true c4
    clear c4
    by_cases c5 : a1 < (l0.length : Int)
    · rw [if_pos c5] at H
      have c5b0 : decide (a1 < (l0.length : Int)) = true := decide_eq_true c5
      clear c5
      replace H := Option.bind_eq_some_iff.mp H
      obtain ⟨t133, A60, H⟩ := H
      replace H : (if a2_7.toList = ([10] : List UInt8) then (spec_LtLines.j1 k l0 a1 t133 a2_0 a2_1 a2_2 a2_3 a2_4 a2_5 a2_6 a2_7 a2_8) else (spec_LtLines.l0 k l0 a1 (⟨#[]⟩ : ByteArray) t133 (t133.length : Int) 0 a2_0 a2_1 a2_2 a2_3 a2_4 a2_5 a2_6 a2_7 a2_8)) = some r := H
      have A6 := Aside0.mk A60
      clear A60
      have HC7 := Aside0.mk H
      clear H
      go_enter Tryd.func30, Tryd.ntmps30
      go_upto_if 22 with (first | ((with_reducible refine gate_dst (N := 5) rfl ?_); refine box_event ?hg (N := 5) ?hd (cs := #[.int .i64 a2_0, .string a2_1, .string a2_2, .string a2_3, .string a2_4, .string a2_5, .string a2_6, .string a2_7, .string a2_8]) (t := 29) ?hr ?_; (case hd => rfl); (case hg => rfl); (case hr => first | (go_simp; done) | (go_simp; rfl)); intro gb131 hg w8 hbox hb; have n0_ := Aside0.mk (Kd.V_below (Kd.V_elderB (by (with_reducible repeat (first | apply Kd.V_alloc | apply Kd.V_drewN | apply Kd.V_drew)); exact HO0.out) gb131 (Nat.le_of_eq hg.symm)) hb); have n1_ := Aside0.mk (below_step (by repeat (first | (with_reducible first | exact HB.out | apply below_alloc | apply pw_below_drewN | apply below_drew1) | exact HB.out)) hb); have n2_ := Aside0.mk (hbox); have n3_ := Aside0.mk ((by rw [hg]; exact (below_size (by repeat (first | (with_reducible first | exact HB.out | apply below_alloc | apply pw_below_drewN | apply below_drew1) | exact HB.out))) : w.heap.size ≤ gb131)); have n4_ := Aside0.mk ((by rw [hg]; exact (below_size (by repeat (first | (with_reducible first | exact HB.out | apply below_alloc | apply pw_below_drewN | apply below_drew1) | exact HB.out))) : w.heap.size ≤ gb131)); clear HO0; clear HB; have HO0 := n0_; have HB := n1_; have BK131 := n2_; have GW131 := n3_; have GE131 := n4_; clear n0_ n1_ n2_ n3_ n4_; clear hb hbox hg; have p132 : 0 ≤ (a1 : Int) := of_decide_eq_true (by first | (with_reducible assumption) | assumption); have q132 : a1 < (l0.length : Int) := of_decide_eq_true (by first | (with_reducible assumption) | assumption); obtain ⟨ad132, e132, hx132_0, hx132_1⟩ := at_T54 (Kd.V_reads' HO0.out).2.2 a1 p132 q132; cases e132; replace p132 := eq_true p132; replace q132 := eq_true q132) | ((with_reducible refine gate_callee (f := 52) rfl ?_); refine goesL_ (some 19) rfl rfl Tryd.func52 (by kernel_rfl) rfl #[.string ((rd_T54 l0 a1).f0)] rfl (by (try simp only [List.map_toArray, List.map_cons, List.map_nil]); first | done | rfl | (simp only [List.length_drop, List.length_take]; rfl)) ?_; (with_reducible refine (spec_TxLines.calls ((rd_T54 l0 a1).f0) t133 _ A6.out).mono ?_); rintro e w9 ⟨v134, rfl, ho0, hb⟩; refine ⟨_, rfl, ?_⟩; have n0_ := Aside0.mk (Kd.V_elder' (by (with_reducible repeat (first | apply Kd.V_alloc | apply Kd.V_drewN | apply Kd.V_drew)); exact HO0.out) (Kd.R_base ho0) hb); have n1_ := Aside0.mk (Kd.R_lower (Kd.R_newM (M := fun k_ => (w.heap.size ≤ k_)) ho0 (below_size (by repeat (first | (with_reducible first | exact HB.out | apply below_alloc | apply pw_below_drewN | apply below_drew1 | refine below_set ?_ GE131.out) | exact HB.out))) (fun k_ h_ => h_)) (below_size (by repeat (first | (with_reducible first | exact HB.out | apply below_alloc | apply pw_below_drewN | apply below_drew1 | refine below_set ?_ GE131.out) | exact HB.out)))); have n2_ := Aside0.mk (blk_below (g := gb131) (o := .cells #[.int .i64 a2_0, .string a2_1, .string a2_2, .string a2_3, .string a2_4, .string a2_5, .string a2_6, .string a2_7, .string a2_8] 29 (0, 0)) (by (with_reducible repeat (first | refine blk_drewN ?_ _ | refine blk_drew ?_ | refine blk_alloc ?_ _)); exact BK131.out) hb); have n3_ := Aside0.mk (below_step (by repeat (first | (with_reducible first | exact HB.out | apply below_alloc | apply pw_below_drewN | apply below_drew1 | refine below_set ?_ GE131.out) | exact HB.out)) hb); clear HO0; clear BK131; clear HB; have HO0 := n0_; have HO135 := n1_; have BK131 := n2_; have HB := n3_; clear n0_ n1_ n2_ n3_; (try clear hb); (try clear hb2); (try clear hk); (try clear hi); (try clear ho0); have hcz10_0 : w9.cell? ⟨gb131, 0, none⟩ = some (.int .i64 a2_0) := (blk_cell BK131.out 0).trans rfl; have hcz10_1 : w9.cell? ⟨gb131, 1, none⟩ = some (.string a2_1) := (blk_cell BK131.out 1).trans rfl; have hcz10_2 : w9.cell? ⟨gb131, 2, none⟩ = some (.string a2_2) := (blk_cell BK131.out 2).trans rfl; have hcz10_3 : w9.cell? ⟨gb131, 3, none⟩ = some (.string a2_3) := (blk_cell BK131.out 3).trans rfl; have hcz10_4 : w9.cell? ⟨gb131, 4, none⟩ = some (.string a2_4) := (blk_cell BK131.out 4).trans rfl; have hcz10_5 : w9.cell? ⟨gb131, 5, none⟩ = some (.string a2_5) := (blk_cell BK131.out 5).trans rfl; have hcz10_6 : w9.cell? ⟨gb131, 6, none⟩ = some (.string a2_6) := (blk_cell BK131.out 6).trans rfl; have hcz10_7 : w9.cell? ⟨gb131, 7, none⟩ = some (.string a2_7) := (blk_cell BK131.out 7).trans rfl; have hcz10_8 : w9.cell? ⟨gb131, 8, none⟩ = some (.string a2_8) := (blk_cell BK131.out 8).trans rfl; have hfz10_0 := blk_frozen BK131.out 0; have hfz10_1 := blk_frozen BK131.out 1; have hfz10_2 := blk_frozen BK131.out 2; have hfz10_3 := blk_frozen BK131.out 3; have hfz10_4 := blk_frozen BK131.out 4; have hfz10_5 := blk_frozen BK131.out 5; have hfz10_6 := blk_frozen BK131.out 6; have hfz10_7 := blk_frozen BK131.out 7; have hfz10_8 := blk_frozen BK131.out 8))
      (try simp only [Act.put, List.setIfInBounds_toArray, List.set_cons_zero, List.set_cons_succ])
      go_cut [7] (fun v7 wc => ∃ (kq : Nat) (x7_6 : List ByteArray), Aside0 (spec_LtLines.j1 kq l0 a1 x7_6 a2_0 a2_1 a2_2 a2_3 a2_4 a2_5 a2_6 a2_7 a2_8 = some r) ∧ Aside0 (kq ≤ k) ∧ Aside0 (Kd.V k54 54 wc w.heap.size (fun k_ => (P0_ k_ ∨ w.heap.size ≤ k_) ∧ some k_ ≠ (v7 : Value).ownBlock ∧ k_ ≠ gb131) (.slice (some ad132) l0.length c0) l0) ∧ Aside0 (Kd.R Kd.string 9 wc w.heap.size (fun k_ => (w.heap.size ≤ k_)) v7 x7_6) ∧ Aside0 (wc.heap[gb131]? = some (.cells #[.int .i64 a2_0, .string a2_1, .string a2_2, .string a2_3, .string a2_4, .string a2_5, .string a2_6, .string a2_7, .string a2_8] 29 (0, 0))) ∧ Aside0 (Below w.heap.size w wc))
      case first =>
        have H := HC7.out
        clear HC7
        by_cases c11 : a2_7.toList = ([10] : List UInt8)
        · rw [if_pos c11] at H
          have c11b0 : (a2_7.toList == ([10] : List UInt8)) = true := beq_iff_eq.mpr c11
          have c11b1 : (a2_7.toList != ([10] : List UInt8)) = false := bne_eq_false_iff_eq.mpr c11
          clear c11
          (first | rw [c11b0] | (simp only [i64_w, i32_w]; rw [c11b0]) | skip)
          have H' := Aside0.mk H
          clear H
          go_wp2
          go_meet
          case rel => exact ⟨_, (t133), H', ⟨by first | omega | exact Nat.le_refl _⟩, ⟨by (with_reducible repeat (first | apply Kd.V_alloc | apply Kd.V_drewN | apply Kd.V_drew)); exact Kd.V_mono HO0.out (fun _ hk => ⟨hk.1.1, ⟨hk.2, hk.1.2⟩⟩)⟩, ⟨by (with_reducible repeat (first | apply Kd.R_alloc | apply Kd.R_drewN | apply Kd.R_drew)); exact Kd.R_mono HO135.out (fun _ hk => hk.1)⟩, ⟨by (with_reducible repeat (first | refine blk_drewN ?_ _ | refine blk_drew ?_ | refine blk_alloc ?_ _)); exact BK131.out⟩, ⟨by repeat (first | (with_reducible first | exact HB.out | apply below_alloc | apply pw_below_drewN | apply below_drew1 | refine below_set ?_ GE131.out) | exact HB.out)⟩⟩
        · rw [if_neg c11] at H
          have c11b0 : (a2_7.toList == ([10] : List UInt8)) = false := beq_eq_false_iff_ne.mpr c11
          have c11b1 : (a2_7.toList != ([10] : List UInt8)) = true := bne_iff_ne.mpr c11
          (first | rw [c11b0] | (simp only [i64_w, i32_w]; rw [c11b0]) | skip)
          have H' := Aside0.mk H
          clear H
          obtain ⟨Ao12, co12, eo12⟩ := Kd.R_slice HO135.out
          subst eo12
          go_wp2
          go_loopg [8, 25] k (fun kq v8 v25 w' => ∃ (x8_1 : ByteArray) (x25_1 : Int), v8 = .string x8_1 ∧ v25 = .int .i64 x25_1 ∧ Aside0 (spec_LtLines.l0 kq l0 a1 x8_1 t133 (t133.length : Int) x25_1 a2_0 a2_1 a2_2 a2_3 a2_4 a2_5 a2_6 a2_7 a2_8 = some r) ∧ Aside0 (kq ≤ k) ∧ Aside0 (Kd.V k54 54 w' w.heap.size (fun k_ => (P0_ k_ ∨ w.heap.size ≤ k_) ∧ some k_ ≠ ((.slice Ao12 t133.length co12) : Value).ownBlock ∧ k_ ≠ gb131) (.slice (some ad132) l0.length c0) l0) ∧ Aside0 (Kd.R Kd.string 9 w' w.heap.size (fun k_ => (w.heap.size ≤ k_)) (.slice Ao12 t133.length co12) t133) ∧ Aside0 (w'.heap[gb131]? = some (.cells #[.int .i64 a2_0, .string a2_1, .string a2_2, .string a2_3, .string a2_4, .string a2_5, .string a2_6, .string a2_7, .string a2_8] 29 (0, 0))) ∧ Aside0 (Below w.heap.size w w'))
          case atStart => exact ⟨((⟨#[]⟩ : ByteArray)), (0), (by first | rfl | (simp; done) | (simp [*]; done)), (by first | rfl | (simp; done) | (simp [*]; done)), H', ⟨Nat.le_refl _⟩, ⟨by (with_reducible repeat (first | apply Kd.V_alloc | apply Kd.V_drewN | apply Kd.V_drew)); exact Kd.V_mono HO0.out (fun _ hk => ⟨hk.1.1, ⟨hk.2, hk.1.2⟩⟩)⟩, ⟨by (with_reducible repeat (first | apply Kd.R_alloc | apply Kd.R_drewN | apply Kd.R_drew)); exact Kd.R_mono HO135.out (fun _ hk => hk.1)⟩, ⟨by (with_reducible repeat (first | refine blk_drewN ?_ _ | refine blk_drew ?_ | refine blk_alloc ?_ _)); exact BK131.out⟩, ⟨by repeat (first | (with_reducible first | exact HB.out | apply below_alloc | apply pw_below_drewN | apply below_drew1 | refine below_set ?_ GE131.out) | exact HB.out)⟩⟩
          case round =>
            clear H'
            try clear c1
            try clear p1
            try clear q1
            try clear hx1
            try clear p2
            try clear c3
            try clear c4
            try clear c4b0
            try clear c5
            try clear c5b0
            try clear c11
            try clear c11b0
            try clear c11b1
            try clear hcz10_0
            try clear hcz10_1
            try clear hcz10_2
            try clear hcz10_3
            try clear hcz10_4
            try clear hcz10_5
            try clear hcz10_6
            try clear hcz10_7
            try clear hcz10_8
            try clear hfz10_0
            try clear hfz10_1
            try clear hfz10_2
            try clear hfz10_3
            try clear hfz10_4
            try clear hfz10_5
            try clear hfz10_6
            try clear hfz10_7
            try clear hfz10_8
            try clear hx132_0
            try clear hx132_1
            try clear p132
            try clear q132
            obtain ⟨x8_1, x25_1, rfl, rfl, HA, HK1, HO_0, HO_23, BK131, HB⟩ := hrel
            cases gk with
            | zero => exact absurd HA.out (by simp [spec_LtLines.l0])
            | succ k1 =>
              have H := HA.out
              clear HA
              simp only [spec_LtLines.l0] at H
              by_cases c13 : x25_1 < (t133.length : Int)
              · rw [if_pos c13] at H
                have c13b0 : decide (x25_1 < (t133.length : Int)) = true := decide_eq_true c13
                clear c13
                by_cases c14 : 0 ≤ x25_1
                · rw [if_pos c14] at H
                  have c14b0 : decide (0 ≤ x25_1) = true := decide_eq_true c14
                  clear c14
                  by_cases c15 : x25_1 < (t133.length : Int)
                  · rw [if_pos c15] at H
                    have c15b0 : decide (x25_1 < (t133.length : Int)) = true := decide_eq_true c15
                    clear c15
                    by_cases c16 : x25_1 > 0
                    · rw [if_pos c16] at H
                      have c16b0 : decide (0 < x25_1) = true := decide_eq_true c16
                      clear c16
                      by_cases c17 : x8_1.size + a2_7.size ≤ 9223372036854775807
                      · rw [if_pos c17] at H
                        have c17b0 := eq_true c17
                        have c17b1 : decide (x8_1.size + a2_7.size ≤ 9223372036854775807) = true := decide_eq_true c17
                        try have c17b2 : (9223372036854775807 < x8_1.size + a2_7.size) = False := eq_false (Nat.not_lt.2 c17)
                        by_cases c18 : (x8_1 ++ a2_7).size + (rdOf ByteArray.empty t133 x25_1).size ≤ 9223372036854775807
                        · rw [if_pos c18] at H
                          have c18b0 := eq_true c18
                          have c18b1 : decide ((x8_1 ++ a2_7).size + (rdOf ByteArray.empty t133 x25_1).size ≤ 9223372036854775807) = true := decide_eq_true c18
                          try have c18b2 : (9223372036854775807 < (x8_1 ++ a2_7).size + (rdOf ByteArray.empty t133 x25_1).size) = False := eq_false (Nat.not_lt.2 c18)
                          try have c18b3 : (9223372036854775807 < x8_1.size + a2_7.size + (rdOf ByteArray.empty t133 x25_1).size) = False := eq_false (by have h_ := c18; simp only [ByteArray.size_append', ByteArray.size_mk', ByteArray.size_extract, List.size_toArray, List.length_cons, List.length_nil] at h_; omega)
                          have H' := Aside0.mk H
                          clear H
                          have p136 : 0 ≤ (x25_1 : Int) := of_decide_eq_true (by first | (with_reducible assumption) | assumption)
                          have q136 : x25_1 < (t133.length : Int) := of_decide_eq_true (by first | (with_reducible assumption) | assumption)
                          obtain ⟨ad136, e136, hx136_0⟩ := Kd.at_string (Kd.R_reads' HO_23.out).2.2 x25_1 p136 q136
                          cases e136
                          replace p136 := eq_true p136
                          replace q136 := eq_true q136
                          have hcz19_0 : wr.cell? ⟨gb131, 0, none⟩ = some (.int .i64 a2_0) := (blk_cell BK131.out 0).trans rfl
                          have hcz19_1 : wr.cell? ⟨gb131, 1, none⟩ = some (.string a2_1) := (blk_cell BK131.out 1).trans rfl
                          have hcz19_2 : wr.cell? ⟨gb131, 2, none⟩ = some (.string a2_2) := (blk_cell BK131.out 2).trans rfl
                          have hcz19_3 : wr.cell? ⟨gb131, 3, none⟩ = some (.string a2_3) := (blk_cell BK131.out 3).trans rfl
                          have hcz19_4 : wr.cell? ⟨gb131, 4, none⟩ = some (.string a2_4) := (blk_cell BK131.out 4).trans rfl
                          have hcz19_5 : wr.cell? ⟨gb131, 5, none⟩ = some (.string a2_5) := (blk_cell BK131.out 5).trans rfl
                          have hcz19_6 : wr.cell? ⟨gb131, 6, none⟩ = some (.string a2_6) := (blk_cell BK131.out 6).trans rfl
                          have hcz19_7 : wr.cell? ⟨gb131, 7, none⟩ = some (.string a2_7) := (blk_cell BK131.out 7).trans rfl
                          have hcz19_8 : wr.cell? ⟨gb131, 8, none⟩ = some (.string a2_8) := (blk_cell BK131.out 8).trans rfl
                          have hfz19_0 := blk_frozen BK131.out 0
                          have hfz19_1 := blk_frozen BK131.out 1
                          have hfz19_2 := blk_frozen BK131.out 2
                          have hfz19_3 := blk_frozen BK131.out 3
                          have hfz19_4 := blk_frozen BK131.out 4
                          have hfz19_5 := blk_frozen BK131.out 5
                          have hfz19_6 := blk_frozen BK131.out 6
                          have hfz19_7 := blk_frozen BK131.out 7
                          have hfz19_8 := blk_frozen BK131.out 8
                          go_wp2
                          go_roundg k1
                          case measure => have := HK1.out; omega
                          case rel => exact ⟨((x8_1 ++ a2_7) ++ (rdOf ByteArray.empty t133 x25_1)), (wrap64 (x25_1 + 1)), (by first | rfl | (simp; done) | (simp [*]; done)), (by first | rfl | (simp; done) | (simp [*]; done)), H', ⟨by have := HK1.out; omega⟩, ⟨by (with_reducible repeat (first | apply Kd.V_alloc | apply Kd.V_drewN | apply Kd.V_drew)); exact HO_0.out⟩, ⟨by (with_reducible repeat (first | apply Kd.R_alloc | apply Kd.R_drewN | apply Kd.R_drew)); exact HO_23.out⟩, ⟨by (with_reducible repeat (first | refine blk_drewN ?_ _ | refine blk_drew ?_ | refine blk_alloc ?_ _)); exact BK131.out⟩, ⟨by repeat (first | (with_reducible first | exact HB.out | apply below_alloc | apply pw_below_drewN | apply below_drew1 | refine below_set ?_ GE131.out) | exact HB.out)⟩⟩
                        · rw [if_neg c18] at H
                          exact absurd H (by simp)
                      · rw [if_neg c17] at H
                        exact absurd H (by simp)
                    · rw [if_neg c16] at H
                      have c16b0 : decide (0 < x25_1) = false := decide_eq_false c16
                      clear c16
                      by_cases c20 : x8_1.size + (rdOf ByteArray.empty t133 x25_1).size ≤ 9223372036854775807
                      · rw [if_pos c20] at H
                        have c20b0 := eq_true c20
                        have c20b1 : decide (x8_1.size + (rdOf ByteArray.empty t133 x25_1).size ≤ 9223372036854775807) = true := decide_eq_true c20
                        try have c20b2 : (9223372036854775807 < x8_1.size + (rdOf ByteArray.empty t133 x25_1).size) = False := eq_false (Nat.not_lt.2 c20)
                        have H' := Aside0.mk H
                        clear H
                        have p136 : 0 ≤ (x25_1 : Int) := of_decide_eq_true (by first | (with_reducible assumption) | assumption)
                        have q136 : x25_1 < (t133.length : Int) := of_decide_eq_true (by first | (with_reducible assumption) | assumption)
                        obtain ⟨ad136, e136, hx136_0⟩ := Kd.at_string (Kd.R_reads' HO_23.out).2.2 x25_1 p136 q136
                        cases e136
                        replace p136 := eq_true p136
                        replace q136 := eq_true q136
                        go_wp2
                        go_roundg k1
                        case measure => have := HK1.out; omega
                        case rel => exact ⟨(x8_1 ++ (rdOf ByteArray.empty t133 x25_1)), (wrap64 (x25_1 + 1)), (by first | rfl | (simp; done) | (simp [*]; done)), (by first | rfl | (simp; done) | (simp [*]; done)), H', ⟨by have := HK1.out; omega⟩, ⟨by (with_reducible repeat (first | apply Kd.V_alloc | apply Kd.V_drewN | apply Kd.V_drew)); exact HO_0.out⟩, ⟨by (with_reducible repeat (first | apply Kd.R_alloc | apply Kd.R_drewN | apply Kd.R_drew)); exact HO_23.out⟩, ⟨by (with_reducible repeat (first | refine blk_drewN ?_ _ | refine blk_drew ?_ | refine blk_alloc ?_ _)); exact BK131.out⟩, ⟨by repeat (first | (with_reducible first | exact HB.out | apply below_alloc | apply pw_below_drewN | apply below_drew1 | refine below_set ?_ GE131.out) | exact HB.out)⟩⟩
                      · rw [if_neg c20] at H
                        exact absurd H (by simp)
                  · rw [if_neg c15] at H
                    exact absurd H (by simp)
                · rw [if_neg c14] at H
                  exact absurd H (by simp)
              · rw [if_neg c13] at H
                have c13b0 : decide (x25_1 < (t133.length : Int)) = false := decide_eq_false c13
                clear c13
                obtain ⟨y137, hy137⟩ : ∃ y_ : List ByteArray, y_ = (([x8_1] : List ByteArray)) := ⟨_, rfl⟩
                replace H : (spec_LtLines.j1 k1 l0 a1 y137 a2_0 a2_1 a2_2 a2_3 a2_4 a2_5 a2_6 a2_7 a2_8) = some r := by first | (rw [hy137]; with_reducible exact H) | (have H2_ := (Option.bind_some _ _).symm.trans H; rw [hy137]; with_reducible exact H2_) | (have H2_ := (Option.bind_some _ _).symm.trans H; with_reducible exact H2_) | with_reducible exact H | (rw [hy137]; exact H) | exact H
                have Ny137 := Aside0.mk hy137
                clear hy137
                have H' := Aside0.mk H
                clear H
                go_wp2_with (first | ((with_reducible refine gate_dst (N := 41) rfl ?_); refine Kd.R_lit Kd.string _ 9 ?hg (N := 41) ?hd (xs := ([x8_1] : List ByteArray)) (inner := [.string x8_1]) (ok := fun _ => True) (okp := fun _ => True) ?hr ?hp (fun _ hk => hk) trivial (Below.refl _ _) (Nat.le_refl _) (by simp) ?_; (case hd => rfl); (case hg => rfl); (case hr => first | (go_simp; done) | (go_simp; rfl)); (case hp => exact (Reps.one (show Kd.M Kd.string _ _ _ x8_1 [.string x8_1] from rfl) (Reps.none _ _))); intro v138 w21 ho22 hb hg_ hnew_; clear hg_ hnew_; (first | rw [← Ny137.out] at ho22 | (simp only [Int.reduceToNat] at ho22; rw [← Ny137.out] at ho22)); have n0_ := Aside0.mk (Kd.V_elder' (by (with_reducible repeat (first | apply Kd.V_alloc | apply Kd.V_drewN | apply Kd.V_drew)); exact HO_0.out) (Kd.R_base ho22) hb); have n1_ := Aside0.mk (Kd.R_elder' (by (with_reducible repeat (first | apply Kd.R_alloc | apply Kd.R_drewN | apply Kd.R_drew)); exact HO_23.out) (Kd.R_base ho22) hb); have n2_ := Aside0.mk (Kd.R_lower (Kd.R_new' (Kd.R_newM (M := fun k_ => (w.heap.size ≤ k_)) ho22 (below_size (by repeat (first | (with_reducible first | exact HB.out | apply below_alloc | apply pw_below_drewN | apply below_drew1 | refine below_set ?_ GE131.out) | exact HB.out))) (fun k_ h_ => h_)) (Kd.R_lt (by (with_reducible repeat (first | apply Kd.R_alloc | apply Kd.R_drewN | apply Kd.R_drew)); exact HO_23.out))) (below_size (by repeat (first | (with_reducible first | exact HB.out | apply below_alloc | apply pw_below_drewN | apply below_drew1 | refine below_set ?_ GE131.out) | exact HB.out)))); have n3_ := Aside0.mk (blk_below (g := gb131) (o := .cells #[.int .i64 a2_0, .string a2_1, .string a2_2, .string a2_3, .string a2_4, .string a2_5, .string a2_6, .string a2_7, .string a2_8] 29 (0, 0)) (by (with_reducible repeat (first | refine blk_drewN ?_ _ | refine blk_drew ?_ | refine blk_alloc ?_ _)); exact BK131.out) hb); have n4_ := Aside0.mk (below_step (by repeat (first | (with_reducible first | exact HB.out | apply below_alloc | apply pw_below_drewN | apply below_drew1 | refine below_set ?_ GE131.out) | exact HB.out)) hb); clear HO_0; clear HO_23; clear BK131; clear HB; have HO_0 := n0_; have HO_23 := n1_; have HO139 := n2_; have BK131 := n3_; have HB := n4_; clear n0_ n1_ n2_ n3_ n4_; clear hb ho22))
                go_meet
                case rel => exact ⟨_, (y137), H', ⟨by have := HK1.out; first | omega | exact Nat.le_refl _⟩, ⟨by (with_reducible repeat (first | apply Kd.V_alloc | apply Kd.V_drewN | apply Kd.V_drew)); exact Kd.V_mono HO_0.out (fun _ hk => ⟨hk.1.1, ⟨hk.2, hk.1.2.2⟩⟩)⟩, ⟨by (with_reducible repeat (first | apply Kd.R_alloc | apply Kd.R_drewN | apply Kd.R_drew)); exact Kd.R_mono HO139.out (fun _ hk => hk.1.1)⟩, ⟨by (with_reducible repeat (first | refine blk_drewN ?_ _ | refine blk_drew ?_ | refine blk_alloc ?_ _)); exact BK131.out⟩, ⟨by repeat (first | (with_reducible first | exact HB.out | apply below_alloc | apply pw_below_drewN | apply below_drew1 | refine below_set ?_ GE131.out) | exact HB.out)⟩⟩
      case rest =>
        clear HC7
        try clear c1
        try clear p1
        try clear q1
        try clear hx1
        try clear c2
        try clear p2
        try clear c3
        try clear c4
        try clear c4b0
        try clear c5
        try clear c5b0
        try clear p6
        try clear c11
        try clear c11b0
        try clear c11b1
        try clear c13
        try clear c13b0
        try clear p13
        try clear q13
        try clear hx13
        try clear c14
        try clear c14b0
        try clear c15
        try clear c15b0
        try clear c16
        try clear c16b0
        try clear c17
        try clear c17b0
        try clear c17b1
        try clear c17b2
        try clear c18
        try clear c18b0
        try clear c18b1
        try clear c18b2
        try clear c20
        try clear c20b0
        try clear c20b1
        try clear c20b2
        try clear hcz10_0
        try clear hcz10_1
        try clear hcz10_2
        try clear hcz10_3
        try clear hcz10_4
        try clear hcz10_5
        try clear hcz10_6
        try clear hcz10_7
        try clear hcz10_8
        try clear hcz19_0
        try clear hcz19_1
        try clear hcz19_2
        try clear hcz19_3
        try clear hcz19_4
        try clear hcz19_5
        try clear hcz19_6
        try clear hcz19_7
        try clear hcz19_8
        try clear hfz10_0
        try clear hfz10_1
        try clear hfz10_2
        try clear hfz10_3
        try clear hfz10_4
        try clear hfz10_5
        try clear hfz10_6
        try clear hfz10_7
        try clear hfz10_8
        try clear hfz19_0
        try clear hfz19_1
        try clear hfz19_2
        try clear hfz19_3
        try clear hfz19_4
        try clear hfz19_5
        try clear hfz19_6
        try clear hfz19_7
        try clear hfz19_8
        try clear hx132_0
        try clear hx132_1
        try clear hx136_0
        try clear p1
        try clear p132
        try clear p136
        try clear p2
        try clear q1
        try clear q132
        try clear q136
        obtain ⟨kq, x7_6, HA, HJ6, HO_0, HO_7, BK131, HB⟩ := hcut
        cases kq with
        | zero => exact absurd HA.out (by simp [spec_LtLines.j1])
        | succ kj6 =>
          have H := HA.out
          clear HA
          simp only [spec_LtLines.j1] at H
          have H' := Aside0.mk H
          clear H
          obtain ⟨Ao23, co23, eo23⟩ := Kd.R_slice HO_7.out
          subst eo23
          go_wp2
          go_loopg [11, 44] kj6 (fun kq v11 v44 w' => ∃ (x11_2 : List ByteArray) (x44_2 : Int), v44 = .int .i64 x44_2 ∧ Aside0 (spec_LtLines.l1 kq l0 a1 x11_2 x7_6 (x7_6.length : Int) x44_2 a2_0 a2_1 a2_2 a2_3 a2_4 a2_5 a2_6 a2_7 a2_8 = some r) ∧ Aside0 (kq ≤ kj6) ∧ Aside0 (Kd.V k54 54 w' w.heap.size (fun k_ => (P0_ k_ ∨ w.heap.size ≤ k_) ∧ some k_ ≠ (v11 : Value).ownBlock ∧ some k_ ≠ ((.slice Ao23 x7_6.length co23) : Value).ownBlock ∧ k_ ≠ gb131) (.slice (some ad132) l0.length c0) l0) ∧ Aside0 (Kd.R Kd.string 9 w' w.heap.size (fun k_ => (w.heap.size ≤ k_) ∧ some k_ ≠ ((.slice Ao23 x7_6.length co23) : Value).ownBlock) v11 x11_2) ∧ Aside0 (Kd.R Kd.string 9 w' w.heap.size (fun k_ => (w.heap.size ≤ k_) ∧ some k_ ≠ (v11 : Value).ownBlock) (.slice Ao23 x7_6.length co23) x7_6) ∧ Aside0 (w'.heap[gb131]? = some (.cells #[.int .i64 a2_0, .string a2_1, .string a2_2, .string a2_3, .string a2_4, .string a2_5, .string a2_6, .string a2_7, .string a2_8] 29 (0, 0))) ∧ Aside0 (Below w.heap.size w w'))
          case atStart => exact ⟨(([] : List ByteArray)), (0), (by first | rfl | (simp; done) | (simp [*]; done)), H', ⟨Nat.le_refl _⟩, ⟨by (with_reducible repeat (first | apply Kd.V_alloc | apply Kd.V_drewN | apply Kd.V_drew)); exact Kd.V_mono HO_0.out (fun _ hk => ⟨hk.1, ⟨(by simp [Value.ownBlock]), ⟨hk.2.1, hk.2.2⟩⟩⟩)⟩, ⟨by first | exact Kd.R_nil _ _ _ _ _ | exact Kd.N_nil _ _ _ _ _ | exact Kd.V_nil _ _ _ _ _ | exact Kd.Q_nil _ _ _ _ _ | exact Kd.S_nil _ _ _ _ _⟩, ⟨by (with_reducible repeat (first | apply Kd.R_alloc | apply Kd.R_drewN | apply Kd.R_drew)); exact Kd.R_mono HO_7.out (fun _ hk => ⟨hk, (by simp [Value.ownBlock])⟩)⟩, ⟨by (with_reducible repeat (first | refine blk_drewN ?_ _ | refine blk_drew ?_ | refine blk_alloc ?_ _)); exact BK131.out⟩, ⟨by repeat (first | (with_reducible first | exact HB.out | apply below_alloc | apply pw_below_drewN | apply below_drew1 | refine below_set ?_ GE131.out) | exact HB.out)⟩⟩
          case round =>
            clear H'
            try clear c1
            try clear p1
            try clear q1
            try clear hx1
            try clear c2
            try clear p2
            try clear c3
            try clear c4
            try clear c4b0
            try clear c5
            try clear c5b0
            try clear p6
            try clear c11
            try clear c11b0
            try clear c11b1
            try clear c13
            try clear c13b0
            try clear p13
            try clear q13
            try clear hx13
            try clear c14
            try clear c14b0
            try clear c15
            try clear c15b0
            try clear c16
            try clear c16b0
            try clear c17
            try clear c17b0
            try clear c17b1
            try clear c17b2
            try clear c18
            try clear c18b0
            try clear c18b1
            try clear c18b2
            try clear c20
            try clear c20b0
            try clear c20b1
            try clear c20b2
            try clear hcz10_0
            try clear hcz10_1
            try clear hcz10_2
            try clear hcz10_3
            try clear hcz10_4
            try clear hcz10_5
            try clear hcz10_6
            try clear hcz10_7
            try clear hcz10_8
            try clear hcz19_0
            try clear hcz19_1
            try clear hcz19_2
            try clear hcz19_3
            try clear hcz19_4
            try clear hcz19_5
            try clear hcz19_6
            try clear hcz19_7
            try clear hcz19_8
            try clear hfz10_0
            try clear hfz10_1
            try clear hfz10_2
            try clear hfz10_3
            try clear hfz10_4
            try clear hfz10_5
            try clear hfz10_6
            try clear hfz10_7
            try clear hfz10_8
            try clear hfz19_0
            try clear hfz19_1
            try clear hfz19_2
            try clear hfz19_3
            try clear hfz19_4
            try clear hfz19_5
            try clear hfz19_6
            try clear hfz19_7
            try clear hfz19_8
            try clear hx132_0
            try clear hx132_1
            try clear hx136_0
            try clear p1
            try clear p13
            try clear p132
            try clear p136
            try clear p2
            try clear p6
            try clear q1
            try clear q13
            try clear q132
            try clear q136
            obtain ⟨x11_2, x44_2, rfl, HA, HK2, HO_0, HO_11, HO_42, BK131, HB⟩ := hrel
            cases gk with
            | zero => exact absurd HA.out (by simp [spec_LtLines.l1])
            | succ k2 =>
              have H := HA.out
              clear HA
              simp only [spec_LtLines.l1] at H
              by_cases c24 : x44_2 < (x7_6.length : Int)
              · rw [if_pos c24] at H
                have c24b0 : decide (x44_2 < (x7_6.length : Int)) = true := decide_eq_true c24
                clear c24
                by_cases c25 : 0 ≤ x44_2
                · rw [if_pos c25] at H
                  have c25b0 : decide (0 ≤ x44_2) = true := decide_eq_true c25
                  clear c25
                  by_cases c26 : x44_2 < (x7_6.length : Int)
                  · rw [if_pos c26] at H
                    have c26b0 : decide (x44_2 < (x7_6.length : Int)) = true := decide_eq_true c26
                    clear c26
                    by_cases c27 : x44_2 = 0
                    · rw [if_pos c27] at H
                      have c27b0 : (x44_2 == 0) = true := beq_iff_eq.mpr c27
                      have c27b1 : (x44_2 != 0) = false := bne_eq_false_iff_eq.mpr c27
                      clear c27
                      replace H := Option.bind_eq_some_iff.mp H
                      obtain ⟨t141, A280, H⟩ := H
                      replace H : ((spec_LtBullet.f k2 l0 a1 a2_0 a2_1 a2_2 a2_3 a2_4 a2_5 a2_6 a2_7 a2_8).bind fun t142 => (if t141.size + t142.size ≤ 9223372036854775807 then (if (t141 ++ t142).size + 1 ≤ 9223372036854775807 then (if ((t141 ++ t142) ++ (⟨#[32]⟩ : ByteArray)).size + (rdOf ByteArray.empty x7_6 x44_2).size ≤ 9223372036854775807 then (if x11_2.length < 8796093022208 then (spec_LtLines.l1 k2 l0 a1 (x11_2 ++ [((t141 ++ t142) ++ (⟨#[32]⟩ : ByteArray)) ++ (rdOf ByteArray.empty x7_6 x44_2)]) x7_6 (x7_6.length : Int) (wrap64 (x44_2 + 1)) a2_0 a2_1 a2_2 a2_3 a2_4 a2_5 a2_6 a2_7 a2_8) else (none)) else (none)) else (none)) else (none))) = some r := H
                      have A28 := Aside0.mk A280
                      clear A280
                      replace H := Option.bind_eq_some_iff.mp H
                      obtain ⟨t142, A290, H⟩ := H
                      replace H : (if t141.size + t142.size ≤ 9223372036854775807 then (if (t141 ++ t142).size + 1 ≤ 9223372036854775807 then (if ((t141 ++ t142) ++ (⟨#[32]⟩ : ByteArray)).size + (rdOf ByteArray.empty x7_6 x44_2).size ≤ 9223372036854775807 then (if x11_2.length < 8796093022208 then (spec_LtLines.l1 k2 l0 a1 (x11_2 ++ [((t141 ++ t142) ++ (⟨#[32]⟩ : ByteArray)) ++ (rdOf ByteArray.empty x7_6 x44_2)]) x7_6 (x7_6.length : Int) (wrap64 (x44_2 + 1)) a2_0 a2_1 a2_2 a2_3 a2_4 a2_5 a2_6 a2_7 a2_8) else (none)) else (none)) else (none)) else (none)) = some r := H
                      have A29 := Aside0.mk A290
                      clear A290
                      by_cases c30 : t141.size + t142.size ≤ 9223372036854775807
                      · rw [if_pos c30] at H
                        have c30b0 := eq_true c30
                        have c30b1 : decide (t141.size + t142.size ≤ 9223372036854775807) = true := decide_eq_true c30
                        try have c30b2 : (9223372036854775807 < t141.size + t142.size) = False := eq_false (Nat.not_lt.2 c30)
                        by_cases c31 : (t141 ++ t142).size + 1 ≤ 9223372036854775807
                        · rw [if_pos c31] at H
                          have c31b0 := eq_true c31
                          have c31b1 : decide ((t141 ++ t142).size + 1 ≤ 9223372036854775807) = true := decide_eq_true c31
                          try have c31b2 : (9223372036854775807 < (t141 ++ t142).size + 1) = False := eq_false (Nat.not_lt.2 c31)
                          try have c31b3 : (9223372036854775807 < t141.size + t142.size + 1) = False := eq_false (by have h_ := c31; simp only [ByteArray.size_append', ByteArray.size_mk', ByteArray.size_extract, List.size_toArray, List.length_cons, List.length_nil] at h_; omega)
                          by_cases c32 : ((t141 ++ t142) ++ (⟨#[32]⟩ : ByteArray)).size + (rdOf ByteArray.empty x7_6 x44_2).size ≤ 9223372036854775807
                          · rw [if_pos c32] at H
                            have c32b0 := eq_true c32
                            have c32b1 : decide (((t141 ++ t142) ++ (⟨#[32]⟩ : ByteArray)).size + (rdOf ByteArray.empty x7_6 x44_2).size ≤ 9223372036854775807) = true := decide_eq_true c32
                            try have c32b2 : (9223372036854775807 < ((t141 ++ t142) ++ (⟨#[32]⟩ : ByteArray)).size + (rdOf ByteArray.empty x7_6 x44_2).size) = False := eq_false (Nat.not_lt.2 c32)
                            try have c32b3 : (9223372036854775807 < t141.size + t142.size + 1 + (rdOf ByteArray.empty x7_6 x44_2).size) = False := eq_false (by have h_ := c32; simp only [ByteArray.size_append', ByteArray.size_mk', ByteArray.size_extract, List.size_toArray, List.length_cons, List.length_nil] at h_; omega)
                            by_cases c33 : x11_2.length < 8796093022208
                            · rw [if_pos c33] at H
                              have LMc33 := Aside0.mk c33
                              clear c33
                              obtain ⟨y143, hy143⟩ : ∃ y_ : List ByteArray, y_ = (x11_2 ++ [((t141 ++ t142) ++ (⟨#[32]⟩ : ByteArray)) ++ (rdOf ByteArray.empty x7_6 x44_2)]) := ⟨_, rfl⟩
                              replace H : (spec_LtLines.l1 k2 l0 a1 y143 x7_6 (x7_6.length : Int) (wrap64 (x44_2 + 1)) a2_0 a2_1 a2_2 a2_3 a2_4 a2_5 a2_6 a2_7 a2_8) = some r := by first | (rw [hy143]; with_reducible exact H) | (have H2_ := (Option.bind_some _ _).symm.trans H; rw [hy143]; with_reducible exact H2_) | (have H2_ := (Option.bind_some _ _).symm.trans H; with_reducible exact H2_) | with_reducible exact H | (rw [hy143]; exact H) | exact H
                              have Ny143 := Aside0.mk hy143
                              clear hy143
                              have H' := Aside0.mk H
                              clear H
                              have p140 : 0 ≤ (x44_2 : Int) := of_decide_eq_true (by first | (with_reducible assumption) | assumption)
                              have q140 : x44_2 < (x7_6.length : Int) := of_decide_eq_true (by first | (with_reducible assumption) | assumption)
                              obtain ⟨ad140, e140, hx140_0⟩ := Kd.at_string (Kd.R_reads' HO_42.out).2.2 x44_2 p140 q140
                              cases e140
                              replace p140 := eq_true p140
                              replace q140 := eq_true q140
                              try go_wp2
                              have n0_ := Aside0.mk (Kd.V_drew HO_0.out)
                              have n1_ := Aside0.mk (Kd.R_drew HO_11.out)
                              have n2_ := Aside0.mk (Kd.R_drew HO_42.out)
                              have n3_ := Aside0.mk (blk_drew BK131.out)
                              have n4_ := Aside0.mk (below_drew1 HB.out)
                              clear HO_0
                              clear HO_11
                              clear HO_42
                              clear BK131
                              clear HB
                              have HO_0 := n0_
                              have HO_11 := n1_
                              have HO_42 := n2_
                              have BK131 := n3_
                              have HB := n4_
                              clear n0_ n1_ n2_ n3_ n4_
                              refine start_ (n := 16) (S := fun w' => w'.cell? ⟨gb131, 0, none⟩ = some (.int .i64 a2_0) ∧ w'.cell? ⟨gb131, 1, none⟩ = some (.string a2_1) ∧ w'.cell? ⟨gb131, 2, none⟩ = some (.string a2_2) ∧ w'.cell? ⟨gb131, 3, none⟩ = some (.string a2_3) ∧ w'.cell? ⟨gb131, 4, none⟩ = some (.string a2_4) ∧ w'.cell? ⟨gb131, 5, none⟩ = some (.string a2_5) ∧ w'.cell? ⟨gb131, 6, none⟩ = some (.string a2_6) ∧ w'.cell? ⟨gb131, 7, none⟩ = some (.string a2_7) ∧ w'.cell? ⟨gb131, 8, none⟩ = some (.string a2_8)) (ds := []) #[false, false, false, false, false, false, false, false, false, false, false, false, false, false, false, false] (by kernel_rfl) rfl rfl ⟨(blk_cell BK131.out 0).trans rfl, (blk_cell BK131.out 1).trans rfl, (blk_cell BK131.out 2).trans rfl, (blk_cell BK131.out 3).trans rfl, (blk_cell BK131.out 4).trans rfl, (blk_cell BK131.out 5).trans rfl, (blk_cell BK131.out 6).trans rfl, (blk_cell BK131.out 7).trans rfl, (blk_cell BK131.out 8).trans rfl⟩ (fun hHeld => ?_); refine with_tabW spec_LtLines.tab17 spec_LtLines.bits17 (fun HT_ HW_ => ?_)
                              generalize wr.drew = w34 at HO_0 HO_11 HO_42 BK131 HB hHeld ⊢
                              refine pure_ (i := 0) (N := some 51) (v := ?_) (a' := ?_) #[true, false, false, false, false, false, false, false, false, false, false, false, false, false, false, false] rfl rfl (any_of HT_.out (by kernel_rfl)) (fun _ _ _ h => h) (Or.inl ⟨by rfl, ?_⟩) ?_ ?_
                              rotate_left
                              · intro w'
                                go_simp
                                with_reducible rfl
                              rotate_left
                              · simp only [Act.put, List.setIfInBounds_toArray, List.set_cons_zero, List.set_cons_succ, i64_w, i32_w]
                                rfl
                              refine pure_ (i := 1) (N := some 52) (v := ?_) (a' := ?_) #[true, true, false, false, false, false, false, false, false, false, false, false, false, false, false, false] rfl rfl (any_of HT_.out (by kernel_rfl)) (fun _ _ _ h => h) (Or.inl ⟨by rfl, ?_⟩) ?_ ?_
                              rotate_left
                              · intro w'
                                go_simp
                                with_reducible rfl
                              rotate_left
                              · simp only [Act.put, List.setIfInBounds_toArray, List.set_cons_zero, List.set_cons_succ, i64_w, i32_w]
                                rfl
                              refine pure_ (i := 2) (N := some 53) (v := ?_) (a' := ?_) #[true, true, true, false, false, false, false, false, false, false, false, false, false, false, false, false] rfl rfl (any_of HT_.out (by kernel_rfl)) (fun _ _ _ h => h) (Or.inl ⟨by rfl, ?_⟩) ?_ ?_
                              rotate_left
                              · intro w'
                                go_simp
                                with_reducible rfl
                              rotate_left
                              · simp only [Act.put, List.setIfInBounds_toArray, List.set_cons_zero, List.set_cons_succ, i64_w, i32_w]
                                rfl
                              refine pure_ (i := 5) (N := some 56) (v := ?_) (a' := ?_) #[true, true, true, false, false, true, false, false, false, false, false, false, false, false, false, false] rfl rfl (any_of HT_.out (by kernel_rfl)) (fun _ _ _ h => h) (Or.inl ⟨by rfl, ?_⟩) ?_ ?_
                              rotate_left
                              · intro w'
                                go_simp
                                with_reducible rfl
                              rotate_left
                              · simp only [Act.put, List.setIfInBounds_toArray, List.set_cons_zero, List.set_cons_succ, i64_w, i32_w]
                                rfl
                              refine pure_ (i := 6) (N := some 57) (v := ?_) (a' := ?_) #[true, true, true, false, false, true, true, false, false, false, false, false, false, false, false, false] rfl rfl (any_of HT_.out (by kernel_rfl)) (fun _ _ _ h => h) (Or.inl ⟨by rfl, ?_⟩) ?_ ?_
                              rotate_left
                              · intro w'
                                go_simp
                                with_reducible rfl
                              rotate_left
                              · simp only [Act.put, List.setIfInBounds_toArray, List.set_cons_zero, List.set_cons_succ, i64_w, i32_w]
                                rfl
                              refine pure_ (i := 11) (N := some 62) (v := ?_) (a' := ?_) #[true, true, true, false, false, true, true, false, false, false, false, true, false, false, false, false] rfl rfl (any_of HT_.out (by kernel_rfl)) (fun _ _ _ h => h) (Or.inl ⟨by rfl, ?_⟩) ?_ ?_
                              rotate_left
                              · intro w'
                                go_simp
                                with_reducible rfl
                              rotate_left
                              · simp only [Act.put, List.setIfInBounds_toArray, List.set_cons_zero, List.set_cons_succ, i64_w, i32_w]
                                rfl
                              refine take_ (i := 3) (N := some 54) (v := ?_) (a' := ?_) #[true, true, true, true, false, true, true, false, false, false, false, true, false, false, false, false] rfl rfl (take_ofW HT_.out HW_.out (by kernel_rfl)) (fun _ _ _ h => h) (Or.inl ⟨by rfl, ?_⟩) hHeld ?_ ?_
                              rotate_left
                              · rintro w' ⟨s0, s1, s2, s3, s4, s5, s6, s7, s8⟩
                                go_simp
                                with_reducible rfl
                              rotate_left
                              · simp only [Act.put, List.setIfInBounds_toArray, List.set_cons_zero, List.set_cons_succ, i64_w, i32_w]
                                rfl
                              refine take_ (i := 7) (N := some 58) (v := ?_) (a' := ?_) #[true, true, true, true, false, true, true, true, false, false, false, true, false, false, false, false] rfl rfl (take_ofW HT_.out HW_.out (by kernel_rfl)) (fun _ _ _ h => h) (Or.inl ⟨by rfl, ?_⟩) hHeld ?_ ?_
                              rotate_left
                              · rintro w' ⟨s0, s1, s2, s3, s4, s5, s6, s7, s8⟩
                                go_simp
                                with_reducible rfl
                              rotate_left
                              · simp only [Act.put, List.setIfInBounds_toArray, List.set_cons_zero, List.set_cons_succ, i64_w, i32_w]
                                rfl
                              refine one_ (i := 4) (N := some 55) #[true, true, true, true, true, true, true, true, false, false, false, true, false, false, false, false] rfl rfl (one_of HT_.out (by kernel_rfl)) (by decide) (fun K hK => ?_)
                              refine goes_ Tryd.func53 (by kernel_rfl) rfl #[.slice (some ad132) l0.length c0, .int .i64 a1, .agg #[.int .i64 a2_0, .string a2_1, .string a2_2, .string a2_3, .string a2_4, .string a2_5, .string a2_6, .string a2_7, .string a2_8]] (by rfl) rfl rfl (by (try simp only [List.map_toArray, List.map_cons, List.map_nil]); first | done | rfl | (simp only [List.length_drop, List.length_take]; rfl)) ?_
                              with_reducible refine (spec_LtAhead.calls k2 _ _ l0 a1 a2_0 a2_1 a2_2 a2_3 a2_4 a2_5 a2_6 a2_7 a2_8 t141 _ ?side1 ?side2 A28.out).mono ?_
                              (case side1 => repeat (first | exact (Kd.V_reads' HO_0.out).2.2 | (with_reducible refine Kd.C_alloc ?_ _) | (with_reducible refine Kd.C_drewN ?_ _) | (with_reducible refine Kd.C_drew ?_)))
                              (case side2 => exact (Kd.V_reads' HO_0.out).2.1)
                              rintro e w35 ⟨rfl, hb⟩
                              refine ⟨_, rfl, ?_⟩
                              have n0_ := Aside0.mk (Kd.V_below (by (with_reducible repeat (first | apply Kd.V_alloc | apply Kd.V_drewN | apply Kd.V_drew)); exact HO_0.out) hb)
                              have n1_ := Aside0.mk (Kd.R_below (by (with_reducible repeat (first | apply Kd.R_alloc | apply Kd.R_drewN | apply Kd.R_drew)); exact HO_11.out) hb)
                              have n2_ := Aside0.mk (Kd.R_below (by (with_reducible repeat (first | apply Kd.R_alloc | apply Kd.R_drewN | apply Kd.R_drew)); exact HO_42.out) hb)
                              have n3_ := Aside0.mk (blk_below (g := gb131) (o := .cells #[.int .i64 a2_0, .string a2_1, .string a2_2, .string a2_3, .string a2_4, .string a2_5, .string a2_6, .string a2_7, .string a2_8] 29 (0, 0)) (by (with_reducible repeat (first | refine blk_drewN ?_ _ | refine blk_drew ?_ | refine blk_alloc ?_ _)); exact BK131.out) hb)
                              have n4_ := Aside0.mk (below_step (by repeat (first | (with_reducible first | exact HB.out | apply below_alloc | apply pw_below_drewN | apply below_drew1 | refine below_set ?_ GE131.out) | exact HB.out)) hb)
                              clear HO_0
                              clear HO_11
                              clear HO_42
                              clear BK131
                              clear HB
                              have HO_0 := n0_
                              have HO_11 := n1_
                              have HO_42 := n2_
                              have BK131 := n3_
                              have HB := n4_
                              clear n0_ n1_ n2_ n3_ n4_
                              (try clear hb)
                              (try clear hb2)
                              (try clear hk)
                              (try clear hi)
                              refine hK.out _ _ ⟨(blk_cell BK131.out 0).trans rfl, (blk_cell BK131.out 1).trans rfl, (blk_cell BK131.out 2).trans rfl, (blk_cell BK131.out 3).trans rfl, (blk_cell BK131.out 4).trans rfl, (blk_cell BK131.out 5).trans rfl, (blk_cell BK131.out 6).trans rfl, (blk_cell BK131.out 7).trans rfl, (blk_cell BK131.out 8).trans rfl⟩ (fun hHeld => ?_)
                              clear hK K
                              refine norm_ (a' := ?_) ?_ ?_
                              rotate_left
                              · show Act.put _ (some 55) _ = _
                                simp only [Act.put, List.setIfInBounds_toArray, List.set_cons_zero, List.set_cons_succ, i64_w, i32_w]
                                rfl
                              refine one_ (i := 8) (N := some 59) #[true, true, true, true, true, true, true, true, true, false, false, true, false, false, false, false] rfl rfl (one_of HT_.out (by kernel_rfl)) (by decide) (fun K hK => ?_)
                              refine goes_ Tryd.func54 (by kernel_rfl) rfl #[.slice (some ad132) l0.length c0, .int .i64 a1, .agg #[.int .i64 a2_0, .string a2_1, .string a2_2, .string a2_3, .string a2_4, .string a2_5, .string a2_6, .string a2_7, .string a2_8]] (by rfl) rfl rfl (by (try simp only [List.map_toArray, List.map_cons, List.map_nil]); first | done | rfl | (simp only [List.length_drop, List.length_take]; rfl)) ?_
                              with_reducible refine (spec_LtBullet.calls k2 _ _ l0 a1 a2_0 a2_1 a2_2 a2_3 a2_4 a2_5 a2_6 a2_7 a2_8 t142 _ ?side1 ?side2 A29.out).mono ?_
                              (case side1 => repeat (first | exact (Kd.V_reads' HO_0.out).2.2 | (with_reducible refine Kd.C_alloc ?_ _) | (with_reducible refine Kd.C_drewN ?_ _) | (with_reducible refine Kd.C_drew ?_)))
                              (case side2 => exact (Kd.V_reads' HO_0.out).2.1)
                              rintro e w36 ⟨rfl, hb⟩
                              refine ⟨_, rfl, ?_⟩
                              have n0_ := Aside0.mk (Kd.V_below (by (with_reducible repeat (first | apply Kd.V_alloc | apply Kd.V_drewN | apply Kd.V_drew)); exact HO_0.out) hb)
                              have n1_ := Aside0.mk (Kd.R_below (by (with_reducible repeat (first | apply Kd.R_alloc | apply Kd.R_drewN | apply Kd.R_drew)); exact HO_11.out) hb)
                              have n2_ := Aside0.mk (Kd.R_below (by (with_reducible repeat (first | apply Kd.R_alloc | apply Kd.R_drewN | apply Kd.R_drew)); exact HO_42.out) hb)
                              have n3_ := Aside0.mk (blk_below (g := gb131) (o := .cells #[.int .i64 a2_0, .string a2_1, .string a2_2, .string a2_3, .string a2_4, .string a2_5, .string a2_6, .string a2_7, .string a2_8] 29 (0, 0)) (by (with_reducible repeat (first | refine blk_drewN ?_ _ | refine blk_drew ?_ | refine blk_alloc ?_ _)); exact BK131.out) hb)
                              have n4_ := Aside0.mk (below_step (by repeat (first | (with_reducible first | exact HB.out | apply below_alloc | apply pw_below_drewN | apply below_drew1 | refine below_set ?_ GE131.out) | exact HB.out)) hb)
                              clear HO_0
                              clear HO_11
                              clear HO_42
                              clear BK131
                              clear HB
                              have HO_0 := n0_
                              have HO_11 := n1_
                              have HO_42 := n2_
                              have BK131 := n3_
                              have HB := n4_
                              clear n0_ n1_ n2_ n3_ n4_
                              (try clear hb)
                              (try clear hb2)
                              (try clear hk)
                              (try clear hi)
                              refine hK.out _ _ ⟨(blk_cell BK131.out 0).trans rfl, (blk_cell BK131.out 1).trans rfl, (blk_cell BK131.out 2).trans rfl, (blk_cell BK131.out 3).trans rfl, (blk_cell BK131.out 4).trans rfl, (blk_cell BK131.out 5).trans rfl, (blk_cell BK131.out 6).trans rfl, (blk_cell BK131.out 7).trans rfl, (blk_cell BK131.out 8).trans rfl⟩ (fun hHeld => ?_)
                              clear hK K
                              refine norm_ (a' := ?_) ?_ ?_
                              rotate_left
                              · show Act.put _ (some 59) _ = _
                                simp only [Act.put, List.setIfInBounds_toArray, List.set_cons_zero, List.set_cons_succ, i64_w, i32_w]
                                rfl
                              refine pure_ (i := 9) (N := some 60) (v := ?_) (a' := ?_) #[true, true, true, true, true, true, true, true, true, true, false, true, false, false, false, false] rfl rfl (any_of HT_.out (by kernel_rfl)) (fun _ _ _ h => h) (Or.inl ⟨by rfl, ?_⟩) ?_ ?_
                              rotate_left
                              · intro w'
                                go_simp
                                with_reducible rfl
                              rotate_left
                              · simp only [Act.put, List.setIfInBounds_toArray, List.set_cons_zero, List.set_cons_succ, i64_w, i32_w]
                                rfl
                              refine pure_ (i := 10) (N := some 61) (v := ?_) (a' := ?_) #[true, true, true, true, true, true, true, true, true, true, true, true, false, false, false, false] rfl rfl (any_of HT_.out (by kernel_rfl)) (fun _ _ _ h => h) (Or.inl ⟨by rfl, ?_⟩) ?_ ?_
                              rotate_left
                              · intro w'
                                go_simp
                                with_reducible rfl
                              rotate_left
                              · simp only [Act.put, List.setIfInBounds_toArray, List.set_cons_zero, List.set_cons_succ, i64_w, i32_w]
                                rfl
                              refine pure_ (i := 12) (N := some 63) (v := ?_) (a' := ?_) #[true, true, true, true, true, true, true, true, true, true, true, true, true, false, false, false] rfl rfl (any_of HT_.out (by kernel_rfl)) (fun _ _ _ h => h) (Or.inl ⟨by rfl, ?_⟩) ?_ ?_
                              rotate_left
                              · intro w'
                                go_simp
                                with_reducible rfl
                              rotate_left
                              · simp only [Act.put, List.setIfInBounds_toArray, List.set_cons_zero, List.set_cons_succ, i64_w, i32_w]
                                rfl
                              refine one_ (i := 13) (N := some 64) #[true, true, true, true, true, true, true, true, true, true, true, true, true, true, false, false] rfl rfl (one_of HT_.out (by kernel_rfl)) (by decide) (fun K hK => ?_)
                              refine value_ (w1 := ?_) (v := ?_) (by rfl) rfl ?_ ?_
                              rotate_left 2
                              · go_simp
                                constructor
                                · rfl
                                · rfl
                              refine hK.out _ _ ⟨(blk_cell (blk_alloc BK131.out _) 0).trans rfl, (blk_cell (blk_alloc BK131.out _) 1).trans rfl, (blk_cell (blk_alloc BK131.out _) 2).trans rfl, (blk_cell (blk_alloc BK131.out _) 3).trans rfl, (blk_cell (blk_alloc BK131.out _) 4).trans rfl, (blk_cell (blk_alloc BK131.out _) 5).trans rfl, (blk_cell (blk_alloc BK131.out _) 6).trans rfl, (blk_cell (blk_alloc BK131.out _) 7).trans rfl, (blk_cell (blk_alloc BK131.out _) 8).trans rfl⟩ (fun hHeld => ?_)
                              clear hK K
                              refine norm_ (a' := ?_) ?_ ?_
                              rotate_left
                              · show Act.put _ (some 64) _ = _
                                simp only [Act.put, List.setIfInBounds_toArray, List.set_cons_zero, List.set_cons_succ, i64_w, i32_w]
                                rfl
                              refine one_ (i := 14) (N := some 65) #[true, true, true, true, true, true, true, true, true, true, true, true, true, true, true, false] rfl rfl (one_of HT_.out (by kernel_rfl)) (by decide) (fun K hK => ?_)
                              refine Kd.R_append_step Kd.string (w0 := w) w.heap.size (by rfl) (.tmp 51) (.tmp 64) 31 9 (.string ⟨#[]⟩) 16 rfl Tryd.underlying31 info9 rfl (by decide) (by omega) u11 x11_2 (((t141 ++ t142) ++ (⟨#[32]⟩ : ByteArray)) ++ (rdOf ByteArray.empty x7_6 x44_2)) [.string (((t141 ++ t142) ++ (⟨#[32]⟩ : ByteArray)) ++ (rdOf ByteArray.empty x7_6 x44_2))] (fun k_ => (w.heap.size ≤ k_) ∧ some k_ ≠ (.slice (some ad140) x7_6.length co23 : Value).ownBlock) (fun _ => False) rfl rfl ?aP (fun _ hk => hk.elim) ?aF ?aO ?aB ?aS ?aL ?_
                              (case aP => exact rfl)
                              (case aB => exact (by repeat (first | (with_reducible first | exact HB.out | apply below_alloc | apply pw_below_drewN | apply below_drew1 | refine below_set ?_ GE131.out) | exact HB.out)))
                              (case aF => exact (fun k_ hk => ⟨(Nat.le_trans (below_size (by repeat (first | (with_reducible first | exact HB.out | apply below_alloc | apply pw_below_drewN | apply below_drew1 | refine below_set ?_ GE131.out) | exact HB.out))) hk), Kd.fresh' (Kd.R_lt (by (with_reducible repeat (first | apply Kd.R_alloc | apply Kd.R_drewN | apply Kd.R_drew)); exact HO_42.out)) k_ hk⟩))
                              (case aO => exact (by (with_reducible repeat (first | apply Kd.R_alloc | apply Kd.R_drewN | apply Kd.R_drew)); exact HO_11.out))
                              (case aS => exact (below_size (by repeat (first | (with_reducible first | exact HB.out | apply below_alloc | apply pw_below_drewN | apply below_drew1 | refine below_set ?_ GE131.out) | exact HB.out))))
                              (case aL => have := LMc33.out; omega)
                              intro v144 w37 ho hb hg hat
                              rw [← Ny143.out] at ho
                              have n0_ := Aside0.mk (Kd.V_afterv (ok := (fun k_ => (P0_ k_ ∨ w.heap.size ≤ k_) ∧ some k_ ≠ (.slice (some ad140) x7_6.length co23 : Value).ownBlock ∧ k_ ≠ gb131)) (by (with_reducible repeat (first | apply Kd.V_alloc | apply Kd.V_drewN | apply Kd.V_drew)); exact Kd.V_mono HO_0.out (fun _ hk => ⟨⟨hk.1, ⟨hk.2.2.1, hk.2.2.2⟩⟩, hk.2.1⟩)) hg hat)
                              have n1_ := Aside0.mk (Kd.R_after (ok := (fun k_ => (w.heap.size ≤ k_))) (by (with_reducible repeat (first | apply Kd.R_alloc | apply Kd.R_drewN | apply Kd.R_drew)); exact HO_42.out) hg hat)
                              have n2_ := Aside0.mk (blk_grown (g := gb131) (o := .cells #[.int .i64 a2_0, .string a2_1, .string a2_2, .string a2_3, .string a2_4, .string a2_5, .string a2_6, .string a2_7, .string a2_8] 29 (0, 0)) (by (with_reducible repeat (first | refine blk_drewN ?_ _ | refine blk_drew ?_ | refine blk_alloc ?_ _)); exact BK131.out) hg (Kd.R_ne HO_11.out BK131.out (by decide)))
                              have n3_ := Aside0.mk (hb)
                              have n4_ := Aside0.mk (ho)
                              clear HO_0
                              clear HO_42
                              clear BK131
                              clear HB
                              clear HO_11
                              have HO_0 := n0_
                              have HO_42 := n1_
                              have BK131 := n2_
                              have HB := n3_
                              have HO145 := n4_
                              clear n0_ n1_ n2_ n3_ n4_
                              clear ho hb hg hat
                              refine hK.out _ _ ⟨(blk_cell BK131.out 0).trans rfl, (blk_cell BK131.out 1).trans rfl, (blk_cell BK131.out 2).trans rfl, (blk_cell BK131.out 3).trans rfl, (blk_cell BK131.out 4).trans rfl, (blk_cell BK131.out 5).trans rfl, (blk_cell BK131.out 6).trans rfl, (blk_cell BK131.out 7).trans rfl, (blk_cell BK131.out 8).trans rfl⟩ (fun hHeld => ?_)
                              clear hK K
                              refine norm_ (a' := ?_) ?_ ?_
                              rotate_left
                              · show Act.put _ (some 65) _ = _
                                simp only [Act.put, List.setIfInBounds_toArray, List.set_cons_zero, List.set_cons_succ, i64_w, i32_w]
                                rfl
                              refine pure_ (i := 15) (N := some 11) (v := ?_) (a' := ?_) #[true, true, true, true, true, true, true, true, true, true, true, true, true, true, true, true] rfl rfl (any_of HT_.out (by kernel_rfl)) (fun _ _ _ h => h) (Or.inl ⟨by rfl, ?_⟩) ?_ ?_
                              rotate_left
                              · intro w'
                                go_simp
                                with_reducible rfl
                              rotate_left
                              · simp only [Act.put, List.setIfInBounds_toArray, List.set_cons_zero, List.set_cons_succ, i64_w, i32_w]
                                rfl
                              refine done_ (done_of HT_.out (by kernel_rfl)) ?_
                              try go_wp2
                              go_roundg k2
                              case measure => have := HJ6.out; have := HK2.out; omega
                              case rel => exact ⟨(y143), (wrap64 (x44_2 + 1)), (by first | rfl | (simp; done) | (simp [*]; done)), H', ⟨by have := HJ6.out; have := HK2.out; omega⟩, ⟨by (with_reducible repeat (first | apply Kd.V_alloc | apply Kd.V_drewN | apply Kd.V_drew)); exact Kd.V_mono HO_0.out (fun _ hk => ⟨hk.1.1, ⟨hk.2, ⟨hk.1.2.1, hk.1.2.2⟩⟩⟩)⟩, ⟨by (with_reducible repeat (first | apply Kd.R_alloc | apply Kd.R_drewN | apply Kd.R_drew)); exact HO145.out⟩, ⟨by (with_reducible repeat (first | apply Kd.R_alloc | apply Kd.R_drewN | apply Kd.R_drew)); exact HO_42.out⟩, ⟨by (with_reducible repeat (first | refine blk_drewN ?_ _ | refine blk_drew ?_ | refine blk_alloc ?_ _)); exact BK131.out⟩, ⟨by repeat (first | (with_reducible first | exact HB.out | apply below_alloc | apply pw_below_drewN | apply below_drew1 | refine below_set ?_ GE131.out) | exact HB.out)⟩⟩
                            · rw [if_neg c33] at H
                              exact absurd H (by simp)
                          · rw [if_neg c32] at H
                            exact absurd H (by simp)
                        · rw [if_neg c31] at H
                          exact absurd H (by simp)
                      · rw [if_neg c30] at H
                        exact absurd H (by simp)
                    · rw [if_neg c27] at H
                      have c27b0 : (x44_2 == 0) = false := beq_eq_false_iff_ne.mpr c27
                      have c27b1 : (x44_2 != 0) = true := bne_iff_ne.mpr c27
                      replace H := Option.bind_eq_some_iff.mp H
                      obtain ⟨t146, A380, H⟩ := H
                      replace H : (if 0 ≤ a1 then (if a1 < (l0.length : Int) then ((spec_ltLink.f k2 l0 a1 ((rd_T54 l0 a1).f1) a2_0 a2_1 a2_2 a2_3 a2_4 a2_5 a2_6 a2_7 a2_8).bind fun t148 => (if t146.size + t148.size ≤ 9223372036854775807 then (if (t146 ++ t148).size + (rdOf ByteArray.empty x7_6 x44_2).size ≤ 9223372036854775807 then (if x11_2.length < 8796093022208 then (spec_LtLines.l1 k2 l0 a1 (x11_2 ++ [(t146 ++ t148) ++ (rdOf ByteArray.empty x7_6 x44_2)]) x7_6 (x7_6.length : Int) (wrap64 (x44_2 + 1)) a2_0 a2_1 a2_2 a2_3 a2_4 a2_5 a2_6 a2_7 a2_8) else (none)) else (none)) else (none))) else (none)) else (none)) = some r := H
                      have A38 := Aside0.mk A380
                      clear A380
                      by_cases c39 : 0 ≤ a1
                      · rw [if_pos c39] at H
                        have c39b0 : decide (0 ≤ a1) = true := decide_eq_true c39
                        clear c39
                        by_cases c40 : a1 < (l0.length : Int)
                        · rw [if_pos c40] at H
                          have c40b0 : decide (a1 < (l0.length : Int)) = true := decide_eq_true c40
                          clear c40
                          replace H := Option.bind_eq_some_iff.mp H
                          obtain ⟨t148, A410, H⟩ := H
                          replace H : (if t146.size + t148.size ≤ 9223372036854775807 then (if (t146 ++ t148).size + (rdOf ByteArray.empty x7_6 x44_2).size ≤ 9223372036854775807 then (if x11_2.length < 8796093022208 then (spec_LtLines.l1 k2 l0 a1 (x11_2 ++ [(t146 ++ t148) ++ (rdOf ByteArray.empty x7_6 x44_2)]) x7_6 (x7_6.length : Int) (wrap64 (x44_2 + 1)) a2_0 a2_1 a2_2 a2_3 a2_4 a2_5 a2_6 a2_7 a2_8) else (none)) else (none)) else (none)) = some r := H
                          have A41 := Aside0.mk A410
                          clear A410
                          by_cases c42 : t146.size + t148.size ≤ 9223372036854775807
                          · rw [if_pos c42] at H
                            have c42b0 := eq_true c42
                            have c42b1 : decide (t146.size + t148.size ≤ 9223372036854775807) = true := decide_eq_true c42
                            try have c42b2 : (9223372036854775807 < t146.size + t148.size) = False := eq_false (Nat.not_lt.2 c42)
                            by_cases c43 : (t146 ++ t148).size + (rdOf ByteArray.empty x7_6 x44_2).size ≤ 9223372036854775807
                            · rw [if_pos c43] at H
                              have c43b0 := eq_true c43
                              have c43b1 : decide ((t146 ++ t148).size + (rdOf ByteArray.empty x7_6 x44_2).size ≤ 9223372036854775807) = true := decide_eq_true c43
                              try have c43b2 : (9223372036854775807 < (t146 ++ t148).size + (rdOf ByteArray.empty x7_6 x44_2).size) = False := eq_false (Nat.not_lt.2 c43)
                              try have c43b3 : (9223372036854775807 < t146.size + t148.size + (rdOf ByteArray.empty x7_6 x44_2).size) = False := eq_false (by have h_ := c43; simp only [ByteArray.size_append', ByteArray.size_mk', ByteArray.size_extract, List.size_toArray, List.length_cons, List.length_nil] at h_; omega)
                              by_cases c44 : x11_2.length < 8796093022208
                              · rw [if_pos c44] at H
                                have LMc44 := Aside0.mk c44
                                clear c44
                                obtain ⟨y149, hy149⟩ : ∃ y_ : List ByteArray, y_ = (x11_2 ++ [(t146 ++ t148) ++ (rdOf ByteArray.empty x7_6 x44_2)]) := ⟨_, rfl⟩
                                replace H : (spec_LtLines.l1 k2 l0 a1 y149 x7_6 (x7_6.length : Int) (wrap64 (x44_2 + 1)) a2_0 a2_1 a2_2 a2_3 a2_4 a2_5 a2_6 a2_7 a2_8) = some r := by first | (rw [hy149]; with_reducible exact H) | (have H2_ := (Option.bind_some _ _).symm.trans H; rw [hy149]; with_reducible exact H2_) | (have H2_ := (Option.bind_some _ _).symm.trans H; with_reducible exact H2_) | with_reducible exact H | (rw [hy149]; exact H) | exact H
                                have Ny149 := Aside0.mk hy149
                                clear hy149
                                have H' := Aside0.mk H
                                clear H
                                have p140 : 0 ≤ (x44_2 : Int) := of_decide_eq_true (by first | (with_reducible assumption) | assumption)
                                have q140 : x44_2 < (x7_6.length : Int) := of_decide_eq_true (by first | (with_reducible assumption) | assumption)
                                obtain ⟨ad140, e140, hx140_0⟩ := Kd.at_string (Kd.R_reads' HO_42.out).2.2 x44_2 p140 q140
                                cases e140
                                replace p140 := eq_true p140
                                replace q140 := eq_true q140
                                try go_wp2
                                have n0_ := Aside0.mk (Kd.V_drew HO_0.out)
                                have n1_ := Aside0.mk (Kd.R_drew HO_11.out)
                                have n2_ := Aside0.mk (Kd.R_drew HO_42.out)
                                have n3_ := Aside0.mk (blk_drew BK131.out)
                                have n4_ := Aside0.mk (below_drew1 HB.out)
                                clear HO_0
                                clear HO_11
                                clear HO_42
                                clear BK131
                                clear HB
                                have HO_0 := n0_
                                have HO_11 := n1_
                                have HO_42 := n2_
                                have BK131 := n3_
                                have HB := n4_
                                clear n0_ n1_ n2_ n3_ n4_
                                have p147 : 0 ≤ (a1 : Int) := of_decide_eq_true (by first | (with_reducible assumption) | assumption)
                                have q147 : a1 < (l0.length : Int) := of_decide_eq_true (by first | (with_reducible assumption) | assumption)
                                obtain ⟨ad147, e147, hx147_0, hx147_1⟩ := at_T54 (Kd.V_reads' HO_0.out).2.2 a1 p147 q147
                                obtain rfl : ad132 = ad147 := (by injection e147)
                                replace p147 := eq_true p147
                                replace q147 := eq_true q147
                                refine start_ (n := 20) (S := fun w' => w'.cell? ⟨gb131, 0, none⟩ = some (.int .i64 a2_0) ∧ w'.cell? ⟨gb131, 1, none⟩ = some (.string a2_1) ∧ w'.cell? ⟨gb131, 2, none⟩ = some (.string a2_2) ∧ w'.cell? ⟨gb131, 3, none⟩ = some (.string a2_3) ∧ w'.cell? ⟨gb131, 4, none⟩ = some (.string a2_4) ∧ w'.cell? ⟨gb131, 5, none⟩ = some (.string a2_5) ∧ w'.cell? ⟨gb131, 6, none⟩ = some (.string a2_6) ∧ w'.cell? ⟨gb131, 7, none⟩ = some (.string a2_7) ∧ w'.cell? ⟨gb131, 8, none⟩ = some (.string a2_8) ∧ w'.cell? (ad132.add ((a1).toNat * 2)) = some (.string ((rd_T54 l0 a1).f0)) ∧ w'.cell? ⟨(ad132.add ((a1).toNat * 2)).block, (ad132.add ((a1).toNat * 2)).off + 1, none⟩ = some (.int .i64 ((rd_T54 l0 a1).f1))) (ds := [17, 18]) #[false, false, false, false, false, false, false, false, false, false, false, false, false, false, false, false, false, false, false, false] (by kernel_rfl) rfl rfl ⟨(blk_cell BK131.out 0).trans rfl, (blk_cell BK131.out 1).trans rfl, (blk_cell BK131.out 2).trans rfl, (blk_cell BK131.out 3).trans rfl, (blk_cell BK131.out 4).trans rfl, (blk_cell BK131.out 5).trans rfl, (blk_cell BK131.out 6).trans rfl, (blk_cell BK131.out 7).trans rfl, (blk_cell BK131.out 8).trans rfl, hx147_0, hx147_1⟩ (fun hHeld => ?_); refine with_tabW spec_LtLines.tab18 spec_LtLines.bits18 (fun HT_ HW_ => ?_)
                                generalize wr.drew = w45 at HO_0 HO_11 HO_42 BK131 HB hx147_0 hx147_1 hHeld ⊢
                                refine pure_ (i := 0) (N := some 66) (v := ?_) (a' := ?_) #[true, false, false, false, false, false, false, false, false, false, false, false, false, false, false, false, false, false, false, false] rfl rfl (any_of HT_.out (by kernel_rfl)) (fun _ _ _ h => h) (Or.inl ⟨by rfl, ?_⟩) ?_ ?_
                                rotate_left
                                · intro w'
                                  go_simp
                                  with_reducible rfl
                                rotate_left
                                · simp only [Act.put, List.setIfInBounds_toArray, List.set_cons_zero, List.set_cons_succ, i64_w, i32_w]
                                  rfl
                                refine pure_ (i := 1) (N := some 67) (v := ?_) (a' := ?_) #[true, true, false, false, false, false, false, false, false, false, false, false, false, false, false, false, false, false, false, false] rfl rfl (any_of HT_.out (by kernel_rfl)) (fun _ _ _ h => h) (Or.inl ⟨by rfl, ?_⟩) ?_ ?_
                                rotate_left
                                · intro w'
                                  go_simp
                                  with_reducible rfl
                                rotate_left
                                · simp only [Act.put, List.setIfInBounds_toArray, List.set_cons_zero, List.set_cons_succ, i64_w, i32_w]
                                  rfl
                                refine pure_ (i := 2) (N := some 68) (v := ?_) (a' := ?_) #[true, true, true, false, false, false, false, false, false, false, false, false, false, false, false, false, false, false, false, false] rfl rfl (any_of HT_.out (by kernel_rfl)) (fun _ _ _ h => h) (Or.inl ⟨by rfl, ?_⟩) ?_ ?_
                                rotate_left
                                · intro w'
                                  go_simp
                                  with_reducible rfl
                                rotate_left
                                · simp only [Act.put, List.setIfInBounds_toArray, List.set_cons_zero, List.set_cons_succ, i64_w, i32_w]
                                  rfl
                                refine pure_ (i := 5) (N := some 71) (v := ?_) (a' := ?_) #[true, true, true, false, false, true, false, false, false, false, false, false, false, false, false, false, false, false, false, false] rfl rfl (any_of HT_.out (by kernel_rfl)) (fun _ _ _ h => h) (Or.inl ⟨by rfl, ?_⟩) ?_ ?_
                                rotate_left
                                · intro w'
                                  go_simp
                                  with_reducible rfl
                                rotate_left
                                · simp only [Act.put, List.setIfInBounds_toArray, List.set_cons_zero, List.set_cons_succ, i64_w, i32_w]
                                  rfl
                                refine pure_ (i := 6) (N := some 72) (v := ?_) (a' := ?_) #[true, true, true, false, false, true, true, false, false, false, false, false, false, false, false, false, false, false, false, false] rfl rfl (any_of HT_.out (by kernel_rfl)) (fun _ _ _ h => h) (Or.inl ⟨by rfl, ?_⟩) ?_ ?_
                                rotate_left
                                · intro w'
                                  go_simp
                                  with_reducible rfl
                                rotate_left
                                · simp only [Act.put, List.setIfInBounds_toArray, List.set_cons_zero, List.set_cons_succ, i64_w, i32_w]
                                  rfl
                                refine pure_ (i := 7) (N := some 73) (v := ?_) (a' := ?_) #[true, true, true, false, false, true, true, true, false, false, false, false, false, false, false, false, false, false, false, false] rfl rfl (any_of HT_.out (by kernel_rfl)) (fun _ _ _ h => h) (Or.inl ⟨by rfl, ?_⟩) ?_ ?_
                                rotate_left
                                · intro w'
                                  go_simp
                                  with_reducible rfl
                                rotate_left
                                · simp only [Act.put, List.setIfInBounds_toArray, List.set_cons_zero, List.set_cons_succ, i64_w, i32_w]
                                  rfl
                                refine pure_ (i := 8) (N := some 74) (v := ?_) (a' := ?_) #[true, true, true, false, false, true, true, true, true, false, false, false, false, false, false, false, false, false, false, false] rfl rfl (any_of HT_.out (by kernel_rfl)) (fun _ _ _ h => h) (Or.inl ⟨by rfl, ?_⟩) ?_ ?_
                                rotate_left
                                · intro w'
                                  go_simp
                                  with_reducible rfl
                                rotate_left
                                · simp only [Act.put, List.setIfInBounds_toArray, List.set_cons_zero, List.set_cons_succ, i64_w, i32_w]
                                  rfl
                                refine pure_ (i := 9) (N := some 75) (v := ?_) (a' := ?_) #[true, true, true, false, false, true, true, true, true, true, false, false, false, false, false, false, false, false, false, false] rfl rfl (any_of HT_.out (by kernel_rfl)) (fun _ _ _ h => h) (Or.inl ⟨by rfl, ?_⟩) ?_ ?_
                                rotate_left
                                · intro w'
                                  go_simp
                                  with_reducible rfl
                                rotate_left
                                · simp only [Act.put, List.setIfInBounds_toArray, List.set_cons_zero, List.set_cons_succ, i64_w, i32_w]
                                  rfl
                                refine pure_ (i := 10) (N := some 76) (v := ?_) (a' := ?_) #[true, true, true, false, false, true, true, true, true, true, true, false, false, false, false, false, false, false, false, false] rfl rfl (any_of HT_.out (by kernel_rfl)) (fun _ _ _ h => h) (Or.inl ⟨by rfl, ?_⟩) ?_ ?_
                                rotate_left
                                · intro w'
                                  go_simp
                                  with_reducible rfl
                                rotate_left
                                · simp only [Act.put, List.setIfInBounds_toArray, List.set_cons_zero, List.set_cons_succ, i64_w, i32_w]
                                  rfl
                                refine pure_ (i := 15) (N := some 81) (v := ?_) (a' := ?_) #[true, true, true, false, false, true, true, true, true, true, true, false, false, false, false, true, false, false, false, false] rfl rfl (any_of HT_.out (by kernel_rfl)) (fun _ _ _ h => h) (Or.inl ⟨by rfl, ?_⟩) ?_ ?_
                                rotate_left
                                · intro w'
                                  go_simp
                                  with_reducible rfl
                                rotate_left
                                · simp only [Act.put, List.setIfInBounds_toArray, List.set_cons_zero, List.set_cons_succ, i64_w, i32_w]
                                  rfl
                                refine take_ (i := 3) (N := some 69) (v := ?_) (a' := ?_) #[true, true, true, true, false, true, true, true, true, true, true, false, false, false, false, true, false, false, false, false] rfl rfl (take_ofW HT_.out HW_.out (by kernel_rfl)) (fun _ _ _ h => h) (Or.inl ⟨by rfl, ?_⟩) hHeld ?_ ?_
                                rotate_left
                                · rintro w' ⟨s0, s1, s2, s3, s4, s5, s6, s7, s8, s9, s10⟩
                                  go_simp
                                  with_reducible rfl
                                rotate_left
                                · simp only [Act.put, List.setIfInBounds_toArray, List.set_cons_zero, List.set_cons_succ, i64_w, i32_w]
                                  rfl
                                refine take_ (i := 11) (N := some 77) (v := ?_) (a' := ?_) #[true, true, true, true, false, true, true, true, true, true, true, true, false, false, false, true, false, false, false, false] rfl rfl (take_ofW HT_.out HW_.out (by kernel_rfl)) (fun _ _ _ h => h) (Or.inl ⟨by rfl, ?_⟩) hHeld ?_ ?_
                                rotate_left
                                · rintro w' ⟨s0, s1, s2, s3, s4, s5, s6, s7, s8, s9, s10⟩
                                  go_simp
                                  with_reducible rfl
                                rotate_left
                                · simp only [Act.put, List.setIfInBounds_toArray, List.set_cons_zero, List.set_cons_succ, i64_w, i32_w]
                                  rfl
                                refine take_ (i := 12) (N := some 78) (v := ?_) (a' := ?_) #[true, true, true, true, false, true, true, true, true, true, true, true, true, false, false, true, false, false, false, false] rfl rfl (take_ofW HT_.out HW_.out (by kernel_rfl)) (fun _ _ _ h => h) (Or.inl ⟨by rfl, ?_⟩) hHeld ?_ ?_
                                rotate_left
                                · rintro w' ⟨s0, s1, s2, s3, s4, s5, s6, s7, s8, s9, s10⟩
                                  go_simp
                                  with_reducible rfl
                                rotate_left
                                · simp only [Act.put, List.setIfInBounds_toArray, List.set_cons_zero, List.set_cons_succ, i64_w, i32_w]
                                  rfl
                                refine one_ (i := 4) (N := some 70) #[true, true, true, true, true, true, true, true, true, true, true, true, true, false, false, true, false, false, false, false] rfl rfl (one_of HT_.out (by kernel_rfl)) (by decide) (fun K hK => ?_)
                                refine goes_ Tryd.func53 (by kernel_rfl) rfl #[.slice (some ad132) l0.length c0, .int .i64 a1, .agg #[.int .i64 a2_0, .string a2_1, .string a2_2, .string a2_3, .string a2_4, .string a2_5, .string a2_6, .string a2_7, .string a2_8]] (by rfl) rfl rfl (by (try simp only [List.map_toArray, List.map_cons, List.map_nil]); first | done | rfl | (simp only [List.length_drop, List.length_take]; rfl)) ?_
                                with_reducible refine (spec_LtAhead.calls k2 _ _ l0 a1 a2_0 a2_1 a2_2 a2_3 a2_4 a2_5 a2_6 a2_7 a2_8 t146 _ ?side1 ?side2 A38.out).mono ?_
                                (case side1 => repeat (first | exact (Kd.V_reads' HO_0.out).2.2 | (with_reducible refine Kd.C_alloc ?_ _) | (with_reducible refine Kd.C_drewN ?_ _) | (with_reducible refine Kd.C_drew ?_)))
                                (case side2 => exact (Kd.V_reads' HO_0.out).2.1)
                                rintro e w46 ⟨rfl, hb⟩
                                have HS9_ := (hb.cell (World.block_lt_of_cell? _ _ (hHeld.2.2.2.2.2.2.2.2.2.1))).trans (hHeld.2.2.2.2.2.2.2.2.2.1)
                                have HS10_ := (hb.cell (World.block_lt_of_cell? _ _ (hHeld.2.2.2.2.2.2.2.2.2.2))).trans (hHeld.2.2.2.2.2.2.2.2.2.2)
                                refine ⟨_, rfl, ?_⟩
                                have n0_ := Aside0.mk (Kd.V_below (by (with_reducible repeat (first | apply Kd.V_alloc | apply Kd.V_drewN | apply Kd.V_drew)); exact HO_0.out) hb)
                                have n1_ := Aside0.mk (Kd.R_below (by (with_reducible repeat (first | apply Kd.R_alloc | apply Kd.R_drewN | apply Kd.R_drew)); exact HO_11.out) hb)
                                have n2_ := Aside0.mk (Kd.R_below (by (with_reducible repeat (first | apply Kd.R_alloc | apply Kd.R_drewN | apply Kd.R_drew)); exact HO_42.out) hb)
                                have n3_ := Aside0.mk (blk_below (g := gb131) (o := .cells #[.int .i64 a2_0, .string a2_1, .string a2_2, .string a2_3, .string a2_4, .string a2_5, .string a2_6, .string a2_7, .string a2_8] 29 (0, 0)) (by (with_reducible repeat (first | refine blk_drewN ?_ _ | refine blk_drew ?_ | refine blk_alloc ?_ _)); exact BK131.out) hb)
                                have n4_ := Aside0.mk (below_step (by repeat (first | (with_reducible first | exact HB.out | apply below_alloc | apply pw_below_drewN | apply below_drew1 | refine below_set ?_ GE131.out) | exact HB.out)) hb)
                                clear HO_0
                                clear HO_11
                                clear HO_42
                                clear BK131
                                clear HB
                                have HO_0 := n0_
                                have HO_11 := n1_
                                have HO_42 := n2_
                                have BK131 := n3_
                                have HB := n4_
                                clear n0_ n1_ n2_ n3_ n4_
                                (try clear hb)
                                (try clear hb2)
                                (try clear hk)
                                (try clear hi)
                                refine hK.out _ _ ⟨(blk_cell BK131.out 0).trans rfl, (blk_cell BK131.out 1).trans rfl, (blk_cell BK131.out 2).trans rfl, (blk_cell BK131.out 3).trans rfl, (blk_cell BK131.out 4).trans rfl, (blk_cell BK131.out 5).trans rfl, (blk_cell BK131.out 6).trans rfl, (blk_cell BK131.out 7).trans rfl, (blk_cell BK131.out 8).trans rfl, HS9_, HS10_⟩ (fun hHeld => ?_)
                                clear hK K
                                refine norm_ (a' := ?_) ?_ ?_
                                rotate_left
                                · show Act.put _ (some 70) _ = _
                                  simp only [Act.put, List.setIfInBounds_toArray, List.set_cons_zero, List.set_cons_succ, i64_w, i32_w]
                                  rfl
                                refine one_ (i := 13) (N := some 79) #[true, true, true, true, true, true, true, true, true, true, true, true, true, true, false, true, false, false, false, false] rfl rfl (one_of HT_.out (by kernel_rfl)) (by decide) (fun K hK => ?_)
                                refine goes_ Tryd.func55 (by kernel_rfl) rfl #[.slice (some ad132) l0.length c0, .int .i64 a1, .int .i64 ((rd_T54 l0 a1).f1), .agg #[.int .i64 a2_0, .string a2_1, .string a2_2, .string a2_3, .string a2_4, .string a2_5, .string a2_6, .string a2_7, .string a2_8]] (by rfl) rfl rfl (by (try simp only [List.map_toArray, List.map_cons, List.map_nil]); first | done | rfl | (simp only [List.length_drop, List.length_take]; rfl)) ?_
                                with_reducible refine (spec_ltLink.calls k2 _ _ l0 a1 ((rd_T54 l0 a1).f1) a2_0 a2_1 a2_2 a2_3 a2_4 a2_5 a2_6 a2_7 a2_8 t148 _ ?side1 ?side2 A41.out).mono ?_
                                (case side1 => repeat (first | exact (Kd.V_reads' HO_0.out).2.2 | (with_reducible refine Kd.C_alloc ?_ _) | (with_reducible refine Kd.C_drewN ?_ _) | (with_reducible refine Kd.C_drew ?_)))
                                (case side2 => exact (Kd.V_reads' HO_0.out).2.1)
                                rintro e w47 ⟨rfl, hb⟩
                                have HS9_ := (hb.cell (World.block_lt_of_cell? _ _ (hHeld.2.2.2.2.2.2.2.2.2.1))).trans (hHeld.2.2.2.2.2.2.2.2.2.1)
                                have HS10_ := (hb.cell (World.block_lt_of_cell? _ _ (hHeld.2.2.2.2.2.2.2.2.2.2))).trans (hHeld.2.2.2.2.2.2.2.2.2.2)
                                refine ⟨_, rfl, ?_⟩
                                have n0_ := Aside0.mk (Kd.V_below (by (with_reducible repeat (first | apply Kd.V_alloc | apply Kd.V_drewN | apply Kd.V_drew)); exact HO_0.out) hb)
                                have n1_ := Aside0.mk (Kd.R_below (by (with_reducible repeat (first | apply Kd.R_alloc | apply Kd.R_drewN | apply Kd.R_drew)); exact HO_11.out) hb)
                                have n2_ := Aside0.mk (Kd.R_below (by (with_reducible repeat (first | apply Kd.R_alloc | apply Kd.R_drewN | apply Kd.R_drew)); exact HO_42.out) hb)
                                have n3_ := Aside0.mk (blk_below (g := gb131) (o := .cells #[.int .i64 a2_0, .string a2_1, .string a2_2, .string a2_3, .string a2_4, .string a2_5, .string a2_6, .string a2_7, .string a2_8] 29 (0, 0)) (by (with_reducible repeat (first | refine blk_drewN ?_ _ | refine blk_drew ?_ | refine blk_alloc ?_ _)); exact BK131.out) hb)
                                have n4_ := Aside0.mk (below_step (by repeat (first | (with_reducible first | exact HB.out | apply below_alloc | apply pw_below_drewN | apply below_drew1 | refine below_set ?_ GE131.out) | exact HB.out)) hb)
                                clear HO_0
                                clear HO_11
                                clear HO_42
                                clear BK131
                                clear HB
                                have HO_0 := n0_
                                have HO_11 := n1_
                                have HO_42 := n2_
                                have BK131 := n3_
                                have HB := n4_
                                clear n0_ n1_ n2_ n3_ n4_
                                (try clear hb)
                                (try clear hb2)
                                (try clear hk)
                                (try clear hi)
                                refine hK.out _ _ ⟨(blk_cell BK131.out 0).trans rfl, (blk_cell BK131.out 1).trans rfl, (blk_cell BK131.out 2).trans rfl, (blk_cell BK131.out 3).trans rfl, (blk_cell BK131.out 4).trans rfl, (blk_cell BK131.out 5).trans rfl, (blk_cell BK131.out 6).trans rfl, (blk_cell BK131.out 7).trans rfl, (blk_cell BK131.out 8).trans rfl, HS9_, HS10_⟩ (fun hHeld => ?_)
                                clear hK K
                                refine norm_ (a' := ?_) ?_ ?_
                                rotate_left
                                · show Act.put _ (some 79) _ = _
                                  simp only [Act.put, List.setIfInBounds_toArray, List.set_cons_zero, List.set_cons_succ, i64_w, i32_w]
                                  rfl
                                refine pure_ (i := 14) (N := some 80) (v := ?_) (a' := ?_) #[true, true, true, true, true, true, true, true, true, true, true, true, true, true, true, true, false, false, false, false] rfl rfl (any_of HT_.out (by kernel_rfl)) (fun _ _ _ h => h) (Or.inl ⟨by rfl, ?_⟩) ?_ ?_
                                rotate_left
                                · intro w'
                                  go_simp
                                  with_reducible rfl
                                rotate_left
                                · simp only [Act.put, List.setIfInBounds_toArray, List.set_cons_zero, List.set_cons_succ, i64_w, i32_w]
                                  rfl
                                refine pure_ (i := 16) (N := some 82) (v := ?_) (a' := ?_) #[true, true, true, true, true, true, true, true, true, true, true, true, true, true, true, true, true, false, false, false] rfl rfl (any_of HT_.out (by kernel_rfl)) (fun _ _ _ h => h) (Or.inl ⟨by rfl, ?_⟩) ?_ ?_
                                rotate_left
                                · intro w'
                                  go_simp
                                  with_reducible rfl
                                rotate_left
                                · simp only [Act.put, List.setIfInBounds_toArray, List.set_cons_zero, List.set_cons_succ, i64_w, i32_w]
                                  rfl
                                refine last_ (i := 17) (N := some 83) #[true, true, true, true, true, true, true, true, true, true, true, true, true, true, true, true, true, true, false, false] rfl rfl (one_of HT_.out (by kernel_rfl)) (by decide) (fun K hK => ?_)
                                refine value_ (w1 := ?_) (v := ?_) (by rfl) rfl ?_ ?_
                                rotate_left 2
                                · go_simp
                                  constructor
                                  · rfl
                                  · rfl
                                refine hK.out _ _ ?_
                                clear hK K
                                refine norm_ (a' := ?_) ?_ ?_
                                rotate_left
                                · show Act.put _ (some 83) _ = _
                                  simp only [Act.put, List.setIfInBounds_toArray, List.set_cons_zero, List.set_cons_succ, i64_w, i32_w]
                                  rfl
                                refine last_ (i := 18) (N := some 84) #[true, true, true, true, true, true, true, true, true, true, true, true, true, true, true, true, true, true, true, false] rfl rfl (one_of HT_.out (by kernel_rfl)) (by decide) (fun K hK => ?_)
                                refine Kd.R_append_step Kd.string (w0 := w) w.heap.size (by rfl) (.tmp 66) (.tmp 83) 31 9 (.string ⟨#[]⟩) 16 rfl Tryd.underlying31 info9 rfl (by decide) (by omega) u11 x11_2 ((t146 ++ t148) ++ (rdOf ByteArray.empty x7_6 x44_2)) [.string ((t146 ++ t148) ++ (rdOf ByteArray.empty x7_6 x44_2))] (fun k_ => (w.heap.size ≤ k_) ∧ some k_ ≠ (.slice (some ad140) x7_6.length co23 : Value).ownBlock) (fun _ => False) rfl rfl ?aP (fun _ hk => hk.elim) ?aF ?aO ?aB ?aS ?aL ?_
                                (case aP => exact rfl)
                                (case aB => exact (by repeat (first | (with_reducible first | exact HB.out | apply below_alloc | apply pw_below_drewN | apply below_drew1 | refine below_set ?_ GE131.out) | exact HB.out)))
                                (case aF => exact (fun k_ hk => ⟨(Nat.le_trans (below_size (by repeat (first | (with_reducible first | exact HB.out | apply below_alloc | apply pw_below_drewN | apply below_drew1 | refine below_set ?_ GE131.out) | exact HB.out))) hk), Kd.fresh' (Kd.R_lt (by (with_reducible repeat (first | apply Kd.R_alloc | apply Kd.R_drewN | apply Kd.R_drew)); exact HO_42.out)) k_ hk⟩))
                                (case aO => exact (by (with_reducible repeat (first | apply Kd.R_alloc | apply Kd.R_drewN | apply Kd.R_drew)); exact HO_11.out))
                                (case aS => exact (below_size (by repeat (first | (with_reducible first | exact HB.out | apply below_alloc | apply pw_below_drewN | apply below_drew1 | refine below_set ?_ GE131.out) | exact HB.out))))
                                (case aL => have := LMc44.out; omega)
                                intro v150 w48 ho hb hg hat
                                rw [← Ny149.out] at ho
                                have n0_ := Aside0.mk (Kd.V_afterv (ok := (fun k_ => (P0_ k_ ∨ w.heap.size ≤ k_) ∧ some k_ ≠ (.slice (some ad140) x7_6.length co23 : Value).ownBlock ∧ k_ ≠ gb131)) (by (with_reducible repeat (first | apply Kd.V_alloc | apply Kd.V_drewN | apply Kd.V_drew)); exact Kd.V_mono HO_0.out (fun _ hk => ⟨⟨hk.1, ⟨hk.2.2.1, hk.2.2.2⟩⟩, hk.2.1⟩)) hg hat)
                                have n1_ := Aside0.mk (Kd.R_after (ok := (fun k_ => (w.heap.size ≤ k_))) (by (with_reducible repeat (first | apply Kd.R_alloc | apply Kd.R_drewN | apply Kd.R_drew)); exact HO_42.out) hg hat)
                                have n2_ := Aside0.mk (blk_grown (g := gb131) (o := .cells #[.int .i64 a2_0, .string a2_1, .string a2_2, .string a2_3, .string a2_4, .string a2_5, .string a2_6, .string a2_7, .string a2_8] 29 (0, 0)) (by (with_reducible repeat (first | refine blk_drewN ?_ _ | refine blk_drew ?_ | refine blk_alloc ?_ _)); exact BK131.out) hg (Kd.R_ne HO_11.out BK131.out (by decide)))
                                have n3_ := Aside0.mk (hb)
                                have n4_ := Aside0.mk (ho)
                                clear HO_0
                                clear HO_42
                                clear BK131
                                clear HB
                                clear HO_11
                                have HO_0 := n0_
                                have HO_42 := n1_
                                have BK131 := n2_
                                have HB := n3_
                                have HO151 := n4_
                                clear n0_ n1_ n2_ n3_ n4_
                                clear ho hb hg hat
                                refine hK.out _ _ ?_
                                clear hK K
                                refine norm_ (a' := ?_) ?_ ?_
                                rotate_left
                                · show Act.put _ (some 84) _ = _
                                  simp only [Act.put, List.setIfInBounds_toArray, List.set_cons_zero, List.set_cons_succ, i64_w, i32_w]
                                  rfl
                                refine pure_ (i := 19) (N := some 11) (v := ?_) (a' := ?_) #[true, true, true, true, true, true, true, true, true, true, true, true, true, true, true, true, true, true, true, true] rfl rfl (any_of HT_.out (by kernel_rfl)) (fun _ _ _ h => h) (Or.inl ⟨by rfl, ?_⟩) ?_ ?_
                                rotate_left
                                · intro w'
                                  go_simp
                                  with_reducible rfl
                                rotate_left
                                · simp only [Act.put, List.setIfInBounds_toArray, List.set_cons_zero, List.set_cons_succ, i64_w, i32_w]
                                  rfl
                                refine done_ (done_of HT_.out (by kernel_rfl)) ?_
                                try go_wp2
                                go_roundg k2
                                case measure => have := HJ6.out; have := HK2.out; omega
                                case rel => exact ⟨(y149), (wrap64 (x44_2 + 1)), (by first | rfl | (simp; done) | (simp [*]; done)), H', ⟨by have := HJ6.out; have := HK2.out; omega⟩, ⟨by (with_reducible repeat (first | apply Kd.V_alloc | apply Kd.V_drewN | apply Kd.V_drew)); exact Kd.V_mono HO_0.out (fun _ hk => ⟨hk.1.1, ⟨hk.2, ⟨hk.1.2.1, hk.1.2.2⟩⟩⟩)⟩, ⟨by (with_reducible repeat (first | apply Kd.R_alloc | apply Kd.R_drewN | apply Kd.R_drew)); exact HO151.out⟩, ⟨by (with_reducible repeat (first | apply Kd.R_alloc | apply Kd.R_drewN | apply Kd.R_drew)); exact HO_42.out⟩, ⟨by (with_reducible repeat (first | refine blk_drewN ?_ _ | refine blk_drew ?_ | refine blk_alloc ?_ _)); exact BK131.out⟩, ⟨by repeat (first | (with_reducible first | exact HB.out | apply below_alloc | apply pw_below_drewN | apply below_drew1 | refine below_set ?_ GE131.out) | exact HB.out)⟩⟩
                              · rw [if_neg c44] at H
                                exact absurd H (by simp)
                            · rw [if_neg c43] at H
                              exact absurd H (by simp)
                          · rw [if_neg c42] at H
                            exact absurd H (by simp)
                        · rw [if_neg c40] at H
                          exact absurd H (by simp)
                      · rw [if_neg c39] at H
                        exact absurd H (by simp)
                  · rw [if_neg c26] at H
                    exact absurd H (by simp)
                · rw [if_neg c25] at H
                  exact absurd H (by simp)
              · rw [if_neg c24] at H
                have c24b0 : decide (x44_2 < (x7_6.length : Int)) = false := decide_eq_false c24
                clear c24
                obtain rfl := Option.some.inj H
                go_wp2
                go_ret
                exact ⟨_, by first | rfl | (simp [errW_none, errW_some] <;> rfl) | (simp [*, errW_none, errW_some] <;> rfl), by (with_reducible repeat (first | apply Kd.R_alloc | apply Kd.R_drewN | apply Kd.R_drew)); exact Kd.R_mono HO_11.out (fun _ hk => hk.1), by repeat (first | (with_reducible first | exact HB.out | apply below_alloc | apply pw_below_drewN | apply below_drew1 | refine below_set ?_ GE131.out) | exact HB.out)⟩
    · rw [if_neg c5] at H
      exact absurd H (by simp)
  · rw [if_neg c4] at H
    exact absurd H (by simp)

end Go.Proofs.YteenhipldfdkaaaDoor.P
