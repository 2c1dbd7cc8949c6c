/- Printed by a program of this session (pf.sh): Go functions as Lean functions, with their contracts. -/
import Derived.Test.YtejjjenjnfaopaaGreatDoorPx0
import Derived.Test.YtejjjenjnfaopaaGreatDoorPx3
import Derived.Test.YtejjjenjnfaopaaGreatDoorPx4
import Derived.Test.YtejjjenjnfaopaaGreatDoorFf
import Derived.Test.YtejjjenjnfaopaaGreatDoorFz
import Derived.Test.YtejjjenjnfaopaaGreatDoorPx2
namespace Go.Proofs.YtejjjenjnfaopaaGreatDoor.P
open Go.RowKit Go.Proofs.YtejjjenjnfaopaaGreatDoorW.PrintWords Go.Proofs.YtejjjenjnfaopaaGreatDoorW.PrintLast Go.Proofs.YtejjjenjnfaopaaGreatDoorW.PrintMore
attribute [local go_sem] max2_int min2_int max_two min_two max_three min_three max_four min_four   -- for this text's walks alone
set_option linter.unusedVariables false
set_option linter.unusedSimpArgs false

/-! ### spec_LtLines: function 56 -/
mutual
def spec_LtLines.j1 : Nat → List (S43) → Int → List ByteArray → Int → ByteArray → ByteArray → ByteArray → ByteArray → ByteArray → ByteArray → ByteArray → ByteArray → Option (List ByteArray)
 | 0, _, _, _, _, _, _, _, _, _, _, _, _ => none
 | k + 1, x0, x1, x7, x142000, x142001, x142002, x142003, x142004, x142005, x142006, x142007, x142008 => spec_LtLines.l1 k x0 x1 ([] : List ByteArray) x7 (x7.length : Int) 0 x142000 x142001 x142002 x142003 x142004 x142005 x142006 x142007 x142008
def spec_LtLines.l1 : Nat → List (S43) → Int → List ByteArray → List ByteArray → Int → Int → Int → ByteArray → ByteArray → ByteArray → ByteArray → ByteArray → ByteArray → ByteArray → ByteArray → Option (List ByteArray)
 | 0, _, _, _, _, _, _, _, _, _, _, _, _, _, _, _ => none
 | k + 1, x0, x1, x11, x42, x43, x44, x142000, x142001, x142002, x142003, x142004, x142005, x142006, x142007, x142008 => if x44 < x43 then (if 0 ≤ x44 then (if x44 < (x42.length : Int) then (if x44 = 0 then ((spec_LtAhead.f k x0 x1 x142000 x142001 x142002 x142003 x142004 x142005 x142006 x142007 x142008).bind fun t151 => ((spec_LtBullet.f k x0 x1 x142000 x142001 x142002 x142003 x142004 x142005 x142006 x142007 x142008).bind fun t152 => (if t151.size + t152.size ≤ 9223372036854775807 then (if (t151 ++ t152).size + 1 ≤ 9223372036854775807 then (if ((t151 ++ t152) ++ (⟨#[32]⟩ : ByteArray)).size + (rdOf ByteArray.empty x42 x44).size ≤ 9223372036854775807 then (if x11.length < 8796093022208 then (spec_LtLines.l1 k x0 x1 (x11 ++ [((t151 ++ t152) ++ (⟨#[32]⟩ : ByteArray)) ++ (rdOf ByteArray.empty x42 x44)]) x42 x43 (wrap64 (x44 + 1)) x142000 x142001 x142002 x142003 x142004 x142005 x142006 x142007 x142008) else (none)) else (none)) else (none)) else (none)))) else ((spec_LtAhead.f k x0 x1 x142000 x142001 x142002 x142003 x142004 x142005 x142006 x142007 x142008).bind fun t156 => (if 0 ≤ x1 then (if x1 < (x0.length : Int) then ((spec_ltLink.f k x0 x1 ((rd_T43 x0 x1).f1) x142000 x142001 x142002 x142003 x142004 x142005 x142006 x142007 x142008).bind fun t158 => (if t156.size + t158.size ≤ 9223372036854775807 then (if (t156 ++ t158).size + (rdOf ByteArray.empty x42 x44).size ≤ 9223372036854775807 then (if x11.length < 8796093022208 then (spec_LtLines.l1 k x0 x1 (x11 ++ [(t156 ++ t158) ++ (rdOf ByteArray.empty x42 x44)]) x42 x43 (wrap64 (x44 + 1)) x142000 x142001 x142002 x142003 x142004 x142005 x142006 x142007 x142008) else (none)) else (none)) else (none))) else (none)) else (none)))) else (none)) else (none)) else (some x11)
def spec_LtLines.l0 : Nat → List (S43) → Int → ByteArray → List ByteArray → Int → Int → Int → ByteArray → ByteArray → ByteArray → ByteArray → ByteArray → ByteArray → ByteArray → ByteArray → Option (List ByteArray)
 | 0, _, _, _, _, _, _, _, _, _, _, _, _, _, _, _ => none
 | k + 1, x0, x1, x8, x23, x24, x25, x142000, x142001, x142002, x142003, x142004, x142005, x142006, x142007, x142008 => if x25 < x24 then (if 0 ≤ x25 then (if x25 < (x23.length : Int) then (if x25 > 0 then (if x8.size + x142007.size ≤ 9223372036854775807 then (if (x8 ++ x142007).size + (rdOf ByteArray.empty x23 x25).size ≤ 9223372036854775807 then (spec_LtLines.l0 k x0 x1 ((x8 ++ x142007) ++ (rdOf ByteArray.empty x23 x25)) x23 x24 (wrap64 (x25 + 1)) x142000 x142001 x142002 x142003 x142004 x142005 x142006 x142007 x142008) else (none)) else (none)) else (if x8.size + (rdOf ByteArray.empty x23 x25).size ≤ 9223372036854775807 then (spec_LtLines.l0 k x0 x1 (x8 ++ (rdOf ByteArray.empty x23 x25)) x23 x24 (wrap64 (x25 + 1)) x142000 x142001 x142002 x142003 x142004 x142005 x142006 x142007 x142008) else (none))) else (none)) else (none)) else (spec_LtLines.j1 k x0 x1 (([x8] : List ByteArray)) x142000 x142001 x142002 x142003 x142004 x142005 x142006 x142007 x142008)
end
def spec_LtLines.f (k : Nat) (l0 : List (S43)) (a1 : Int) (a2_0 : Int) (a2_1 : ByteArray) (a2_2 : ByteArray) (a2_3 : ByteArray) (a2_4 : ByteArray) (a2_5 : ByteArray) (a2_6 : ByteArray) (a2_7 : ByteArray) (a2_8 : ByteArray) : Option (List ByteArray) := if 0 ≤ a1 then (if a1 < (l0.length : Int) then ((spec_TxLines.f ((rd_T43 l0 a1).f0)).bind fun t143 => (if a2_7.toList = ([10] : List UInt8) then (spec_LtLines.j1 k l0 a1 t143 a2_0 a2_1 a2_2 a2_3 a2_4 a2_5 a2_6 a2_7 a2_8) else (spec_LtLines.l0 k l0 a1 (⟨#[]⟩ : ByteArray) t143 (t143.length : Int) 0 a2_0 a2_1 a2_2 a2_3 a2_4 a2_5 a2_6 a2_7 a2_8))) else (none)) else (none)
theorem spec_LtLines.mono_l : ∀ k, (∀ y0 y1 y2 y3 y4 y5 y6 y7 y8 y9 y10 y11, LeO (spec_LtLines.j1 k y0 y1 y2 y3 y4 y5 y6 y7 y8 y9 y10 y11) (spec_LtLines.j1 (k + 1) y0 y1 y2 y3 y4 y5 y6 y7 y8 y9 y10 y11)) ∧ (∀ y0 y1 y2 y3 y4 y5 y6 y7 y8 y9 y10 y11 y12 y13 y14, LeO (spec_LtLines.l1 k y0 y1 y2 y3 y4 y5 y6 y7 y8 y9 y10 y11 y12 y13 y14) (spec_LtLines.l1 (k + 1) y0 y1 y2 y3 y4 y5 y6 y7 y8 y9 y10 y11 y12 y13 y14)) ∧ (∀ y0 y1 y2 y3 y4 y5 y6 y7 y8 y9 y10 y11 y12 y13 y14, LeO (spec_LtLines.l0 k y0 y1 y2 y3 y4 y5 y6 y7 y8 y9 y10 y11 y12 y13 y14) (spec_LtLines.l0 (k + 1) y0 y1 y2 y3 y4 y5 y6 y7 y8 y9 y10 y11 y12 y13 y14))
 | 0 => ⟨fun _ _ _ _ _ _ _ _ _ _ _ _ r h => by simp [spec_LtLines.j1] at h, fun _ _ _ _ _ _ _ _ _ _ _ _ _ _ _ r h => by simp [spec_LtLines.l1] at h, fun _ _ _ _ _ _ _ _ _ _ _ _ _ _ _ r h => by simp [spec_LtLines.l0] at h⟩
 | k + 1 => by
  obtain ⟨ih0, ih1, ih2⟩ := spec_LtLines.mono_l k
  refine ⟨?_, ?_, ?_⟩
  ·intro y0 y1 y2 y3 y4 y5 y6 y7 y8 y9 y10 y11
   unfold spec_LtLines.j1
   repeat' first
   | (with_reducible exact ih0 _ _ _ _ _ _ _ _ _ _ _ _)
   | (with_reducible exact ih1 _ _ _ _ _ _ _ _ _ _ _ _ _ _ _)
   | (with_reducible exact ih2 _ _ _ _ _ _ _ _ _ _ _ _ _ _ _)
   | (with_reducible exact spec_LtAhead.mono _ _ _ _ _ _ _ _ _ _ _ _)
   | (with_reducible exact spec_LtBullet.mono _ _ _ _ _ _ _ _ _ _ _ _)
   | (with_reducible exact spec_ltLink.mono _ _ _ _ _ _ _ _ _ _ _ _ _)
   | (with_reducible exact LeO.refl _)
   | (with_reducible exact LeO.none _)
   | (with_reducible refine LeO.ite ?_ ?_)
   | (with_reducible refine LeO.bind ?_ (fun _ => ?_))
   | exact ih0 _ _ _ _ _ _ _ _ _ _ _ _
   | exact ih1 _ _ _ _ _ _ _ _ _ _ _ _ _ _ _
   | exact ih2 _ _ _ _ _ _ _ _ _ _ _ _ _ _ _
   | exact spec_LtAhead.mono _ _ _ _ _ _ _ _ _ _ _ _
   | exact spec_LtBullet.mono _ _ _ _ _ _ _ _ _ _ _ _
   | exact spec_ltLink.mono _ _ _ _ _ _ _ _ _ _ _ _ _
   | exact LeO.none _
   | refine LeO.ite ?_ ?_
   | refine LeO.bind ?_ (fun _ => ?_)
  ·intro y0 y1 y2 y3 y4 y5 y6 y7 y8 y9 y10 y11 y12 y13 y14
   unfold spec_LtLines.l1
   repeat' first
   | (with_reducible exact ih0 _ _ _ _ _ _ _ _ _ _ _ _)
   | (with_reducible exact ih1 _ _ _ _ _ _ _ _ _ _ _ _ _ _ _)
   | (with_reducible exact ih2 _ _ _ _ _ _ _ _ _ _ _ _ _ _ _)
   | (with_reducible exact spec_LtAhead.mono _ _ _ _ _ _ _ _ _ _ _ _)
   | (with_reducible exact spec_LtBullet.mono _ _ _ _ _ _ _ _ _ _ _ _)
   | (with_reducible exact spec_ltLink.mono _ _ _ _ _ _ _ _ _ _ _ _ _)
   | (with_reducible exact LeO.refl _)
   | (with_reducible exact LeO.none _)
   | (with_reducible refine LeO.ite ?_ ?_)
   | (with_reducible refine LeO.bind ?_ (fun _ => ?_))
   | exact ih0 _ _ _ _ _ _ _ _ _ _ _ _
   | exact ih1 _ _ _ _ _ _ _ _ _ _ _ _ _ _ _
   | exact ih2 _ _ _ _ _ _ _ _ _ _ _ _ _ _ _
   | exact spec_LtAhead.mono _ _ _ _ _ _ _ _ _ _ _ _
   | exact spec_LtBullet.mono _ _ _ _ _ _ _ _ _ _ _ _
   | exact spec_ltLink.mono _ _ _ _ _ _ _ _ _ _ _ _ _
   | exact LeO.none _
   | refine LeO.ite ?_ ?_
   | refine LeO.bind ?_ (fun _ => ?_)
  ·intro y0 y1 y2 y3 y4 y5 y6 y7 y8 y9 y10 y11 y12 y13 y14
   unfold spec_LtLines.l0
   repeat' first
   | (with_reducible exact ih0 _ _ _ _ _ _ _ _ _ _ _ _)
   | (with_reducible exact ih1 _ _ _ _ _ _ _ _ _ _ _ _ _ _ _)
   | (with_reducible exact ih2 _ _ _ _ _ _ _ _ _ _ _ _ _ _ _)
   | (with_reducible exact spec_LtAhead.mono _ _ _ _ _ _ _ _ _ _ _ _)
   | (with_reducible exact spec_LtBullet.mono _ _ _ _ _ _ _ _ _ _ _ _)
   | (with_reducible exact spec_ltLink.mono _ _ _ _ _ _ _ _ _ _ _ _ _)
   | (with_reducible exact LeO.refl _)
   | (with_reducible exact LeO.none _)
   | (with_reducible refine LeO.ite ?_ ?_)
   | (with_reducible refine LeO.bind ?_ (fun _ => ?_))
   | exact ih0 _ _ _ _ _ _ _ _ _ _ _ _
   | exact ih1 _ _ _ _ _ _ _ _ _ _ _ _ _ _ _
   | exact ih2 _ _ _ _ _ _ _ _ _ _ _ _ _ _ _
   | exact spec_LtAhead.mono _ _ _ _ _ _ _ _ _ _ _ _
   | exact spec_LtBullet.mono _ _ _ _ _ _ _ _ _ _ _ _
   | exact spec_ltLink.mono _ _ _ _ _ _ _ _ _ _ _ _ _
   | exact LeO.none _
   | refine LeO.ite ?_ ?_
   | refine LeO.bind ?_ (fun _ => ?_)
theorem spec_LtLines.mono : ∀ a0 a1 a2 a3 a4 a5 a6 a7 a8 a9 a10 k, LeO (spec_LtLines.f k a0 a1 a2 a3 a4 a5 a6 a7 a8 a9 a10) (spec_LtLines.f (k + 1) a0 a1 a2 a3 a4 a5 a6 a7 a8 a9 a10) := by
 intro a0 a1 a2 a3 a4 a5 a6 a7 a8 a9 a10 k
 obtain ⟨ih0, ih1, ih2⟩ := spec_LtLines.mono_l k
 unfold spec_LtLines.f
 repeat' first
   | (with_reducible exact ih0 _ _ _ _ _ _ _ _ _ _ _ _)
   | (with_reducible exact ih1 _ _ _ _ _ _ _ _ _ _ _ _ _ _ _)
   | (with_reducible exact ih2 _ _ _ _ _ _ _ _ _ _ _ _ _ _ _)
   | (with_reducible exact spec_LtAhead.mono _ _ _ _ _ _ _ _ _ _ _ _)
   | (with_reducible exact spec_LtBullet.mono _ _ _ _ _ _ _ _ _ _ _ _)
   | (with_reducible exact spec_ltLink.mono _ _ _ _ _ _ _ _ _ _ _ _ _)
   | (with_reducible exact LeO.refl _)
   | (with_reducible exact LeO.none _)
   | (with_reducible refine LeO.ite ?_ ?_)
   | (with_reducible refine LeO.bind ?_ (fun _ => ?_))
   | exact ih0 _ _ _ _ _ _ _ _ _ _ _ _
   | exact ih1 _ _ _ _ _ _ _ _ _ _ _ _ _ _ _
   | exact ih2 _ _ _ _ _ _ _ _ _ _ _ _ _ _ _
   | exact spec_LtAhead.mono _ _ _ _ _ _ _ _ _ _ _ _
   | exact spec_LtBullet.mono _ _ _ _ _ _ _ _ _ _ _ _
   | exact spec_ltLink.mono _ _ _ _ _ _ _ _ _ _ _ _ _
   | exact LeO.none _
   | refine LeO.ite ?_ ?_
   | refine LeO.bind ?_ (fun _ => ?_)
def spec_LtLines.T17 : Bool × List (List Nat × List Nat) := (true, [([], []), ([], []), ([], []), ([], []), ([1, 2, 3], [1, 2, 3]), ([], []), ([], []), ([], []), ([5, 6, 7, 4], [5, 6, 7]), ([4, 8], [4, 8]), ([9], [9]), ([], []), ([10, 11], [10, 11]), ([12], [12]), ([0, 13, 8], [0, 13]), ([14, 14, 0, 1, 2, 3, 4, 5, 6, 7, 8, 9, 10, 11, 12, 13, 14], [0, 14])])
def spec_LtLines.B17 : List Nat := [0, 0, 0, 0, 14, 0, 0, 0, 254, 510, 1022, 0, 4094, 8190, 16383, 32767]
theorem spec_LtLines.tab17 : rtab .any (opsOf Tryz.f56 17) = spec_LtLines.T17 := by kernel_rfl
theorem spec_LtLines.bits17 : waitsOk spec_LtLines.T17.2 spec_LtLines.B17 = true := by kernel_rfl
def spec_LtLines.T18 : Bool × List (List Nat × List Nat) := (true, [([], []), ([], []), ([], []), ([], []), ([1, 2, 3], [1, 2, 3]), ([], []), ([], []), ([], []), ([], []), ([7, 8], [7, 8]), ([9], [9]), ([10], [10]), ([], []), ([5, 6, 11, 12, 4], [5, 6, 11, 12]), ([4, 13], [4, 13]), ([], []), ([14, 15], [14, 15]), ([16], [16]), ([0, 17, 13], [0, 17]), ([18, 18, 0, 1, 2, 3, 4, 5, 6, 7, 8, 9, 10, 11, 12, 13, 14, 15, 16, 17, 18], [0, 18])])
def spec_LtLines.B18 : List Nat := [0, 0, 0, 0, 14, 0, 0, 0, 0, 384, 896, 1920, 0, 8190, 16382, 0, 65534, 131070, 262143, 524287]
theorem spec_LtLines.tab18 : rtab .any (opsOf Tryz.f56 18) = spec_LtLines.T18 := by kernel_rfl
theorem spec_LtLines.bits18 : waitsOk spec_LtLines.T18.2 spec_LtLines.B18 = true := by kernel_rfl
set_option maxHeartbeats 8000000 in
set_option maxRecDepth 100000 in
theorem spec_LtLines.calls (k : Nat) (P0_ : Nat → Prop) (A0 : Option Addr) (c0 : Nat) (l0 : List (S43)) (a1 : Int) (a2_0 : Int) (a2_1 : ByteArray) (a2_2 : ByteArray) (a2_3 : ByteArray) (a2_4 : ByteArray) (a2_5 : ByteArray) (a2_6 : ByteArray) (a2_7 : ByteArray) (a2_8 : ByteArray) (r : List ByteArray) (w : World) (hs0 : Kd.V k43 43 w w.heap.size (fun k_ => P0_ k_) (.slice A0 l0.length c0) l0) (h : spec_LtLines.f k l0 a1 a2_0 a2_1 a2_2 a2_3 a2_4 a2_5 a2_6 a2_7 a2_8 = some r) :
  Calls Tryz.prog 56 #[.slice A0 l0.length c0, .int .i64 a1, .agg #[.int .i64 a2_0, .string a2_1, .string a2_2, .string a2_3, .string a2_4, .string a2_5, .string a2_6, .string a2_7, .string a2_8]] w fun e w' => ∃ v0_ : Value, e = .returned (v0_) ∧ Kd.R Kd.string 9 w' w.heap.size (fun k_ => (w.heap.size ≤ k_)) v0_ r ∧ Below w.heap.size w w' := by
 have hu24 := Tryz.underlying24
 have HO0 := Aside0.mk (show Kd.V k43 43 w w.heap.size (fun k_ => (P0_ k_ ∨ w.heap.size ≤ k_)) (.slice A0 l0.length c0) l0 from Kd.V_mono hs0 (fun k_ hk => .inl hk))
 have HB := Aside0.mk (Below.refl w.heap.size w)
 have H : (if 0 ≤ a1 then (if a1 < (l0.length : Int) then ((spec_TxLines.f ((rd_T43 l0 a1).f0)).bind fun t143 => (if a2_7.toList = ([10] : List UInt8) then (spec_LtLines.j1 k l0 a1 t143 a2_0 a2_1 a2_2 a2_3 a2_4 a2_5 a2_6 a2_7 a2_8) else (spec_LtLines.l0 k l0 a1 (⟨#[]⟩ : ByteArray) t143 (t143.length : Int) 0 a2_0 a2_1 a2_2 a2_3 a2_4 a2_5 a2_6 a2_7 a2_8))) else (none)) else (none)) = some r := h
 clear h
 by_cases c4 : 0 ≤ a1
 ·rw [if_pos c4] at H
  have c4b0 : decide (0 ≤ a1) = true := decide_eq_true c4
  clear c4
  by_cases c5 : a1 < (l0.length : Int)
  ·rw [if_pos c5] at H
   have c5b0 : decide (a1 < (l0.length : Int)) = true := decide_eq_true c5
   clear c5
   replace H := Option.bind_eq_some_iff.mp H
   obtain ⟨t143, A60, H⟩ := H
   replace H : (if a2_7.toList = ([10] : List UInt8) then (spec_LtLines.j1 k l0 a1 t143 a2_0 a2_1 a2_2 a2_3 a2_4 a2_5 a2_6 a2_7 a2_8) else (spec_LtLines.l0 k l0 a1 (⟨#[]⟩ : ByteArray) t143 (t143.length : Int) 0 a2_0 a2_1 a2_2 a2_3 a2_4 a2_5 a2_6 a2_7 a2_8)) = some r := H
   have A6 := Aside0.mk A60
   clear A60
   have HC7 := Aside0.mk H
   clear H
   go_enter Tryz.func56, Tryz.ntmps56
   go_upto_if 22 with (first | ((with_reducible refine gate_dst (N := 5) rfl ?_); refine box_event ?hg (N := 5) ?hd (cs := #[.int .i64 a2_0, .string a2_1, .string a2_2, .string a2_3, .string a2_4, .string a2_5, .string a2_6, .string a2_7, .string a2_8]) (t := 24) ?hr ?_; (case hd => rfl); (case hg => rfl); (case hr => first | (go_simp; done) | (go_simp; rfl)); intro gb141 hg w8 hbox hb; have n0_ := Aside0.mk (Kd.V_below (Kd.V_elderB (by (with_reducible repeat (first | apply Kd.V_alloc | apply Kd.V_drewN | apply Kd.V_drew)); exact HO0.out) gb141 (Nat.le_of_eq hg.symm)) hb); have n1_ := Aside0.mk (below_step (by repeat (first | (with_reducible first | exact HB.out | apply below_alloc | apply pw_below_drewN | apply below_drew1) | exact HB.out)) hb); have n2_ := Aside0.mk (hbox); have n3_ := Aside0.mk ((by rw [hg]; exact (below_size (by repeat (first | (with_reducible first | exact HB.out | apply below_alloc | apply pw_below_drewN | apply below_drew1) | exact HB.out))) : w.heap.size ≤ gb141)); have n4_ := Aside0.mk ((by rw [hg]; exact (below_size (by repeat (first | (with_reducible first | exact HB.out | apply below_alloc | apply pw_below_drewN | apply below_drew1) | exact HB.out))) : w.heap.size ≤ gb141)); clear HO0; clear HB; have HO0 := n0_; have HB := n1_; have BK141 := n2_; have GW141 := n3_; have GE141 := n4_; clear n0_ n1_ n2_ n3_ n4_; clear hb hbox hg; have p142 : 0 ≤ (a1 : Int) := of_decide_eq_true (by first | (with_reducible assumption) | assumption); have q142 : a1 < (l0.length : Int) := of_decide_eq_true (by first | (with_reducible assumption) | assumption); obtain ⟨ad142, e142, hx142_0, hx142_1⟩ := at_T43 (Kd.V_reads' HO0.out).2.2 a1 p142 q142; cases e142; replace p142 := eq_true p142; replace q142 := eq_true q142) | ((with_reducible refine gate_callee (f := 35) rfl ?_); refine goesL_ (some 19) rfl rfl Tryz.func35 (by kernel_rfl) rfl #[.string ((rd_T43 l0 a1).f0)] rfl (by (try simp only [List.map_toArray, List.map_cons, List.map_nil]); first | done | rfl | (simp only [List.length_drop, List.length_take]; rfl)) ?_; (with_reducible refine (spec_TxLines.calls ((rd_T43 l0 a1).f0) t143 _ A6.out).mono ?_); rintro e w9 ⟨v144, rfl, ho0, hb⟩; refine ⟨_, rfl, ?_⟩; have n0_ := Aside0.mk (Kd.V_elder' (by (with_reducible repeat (first | apply Kd.V_alloc | apply Kd.V_drewN | apply Kd.V_drew)); exact HO0.out) (Kd.R_base ho0) hb); have n1_ := Aside0.mk (Kd.R_lower (Kd.R_newM (M := fun k_ => (w.heap.size ≤ k_)) ho0 (below_size (by repeat (first | (with_reducible first | exact HB.out | apply below_alloc | apply pw_below_drewN | apply below_drew1 | refine below_set ?_ GE141.out) | exact HB.out))) (fun k_ h_ => h_)) (below_size (by repeat (first | (with_reducible first | exact HB.out | apply below_alloc | apply pw_below_drewN | apply below_drew1 | refine below_set ?_ GE141.out) | exact HB.out)))); have n2_ := Aside0.mk (blk_below (g := gb141) (o := .cells #[.int .i64 a2_0, .string a2_1, .string a2_2, .string a2_3, .string a2_4, .string a2_5, .string a2_6, .string a2_7, .string a2_8] 24 (0, 0)) (by (with_reducible repeat (first | refine blk_drewN ?_ _ | refine blk_drew ?_ | refine blk_alloc ?_ _)); exact BK141.out) hb); have n3_ := Aside0.mk (below_step (by repeat (first | (with_reducible first | exact HB.out | apply below_alloc | apply pw_below_drewN | apply below_drew1 | refine below_set ?_ GE141.out) | exact HB.out)) hb); clear HO0; clear BK141; clear HB; have HO0 := n0_; have HO145 := n1_; have BK141 := n2_; have HB := n3_; clear n0_ n1_ n2_ n3_; (try clear hb); (try clear hb2); (try clear hk); (try clear hi); (try clear ho0); have hcz10_0 : w9.cell? ⟨gb141, 0, none⟩ = some (.int .i64 a2_0) := (blk_cell BK141.out 0).trans rfl; have hcz10_1 : w9.cell? ⟨gb141, 1, none⟩ = some (.string a2_1) := (blk_cell BK141.out 1).trans rfl; have hcz10_2 : w9.cell? ⟨gb141, 2, none⟩ = some (.string a2_2) := (blk_cell BK141.out 2).trans rfl; have hcz10_3 : w9.cell? ⟨gb141, 3, none⟩ = some (.string a2_3) := (blk_cell BK141.out 3).trans rfl; have hcz10_4 : w9.cell? ⟨gb141, 4, none⟩ = some (.string a2_4) := (blk_cell BK141.out 4).trans rfl; have hcz10_5 : w9.cell? ⟨gb141, 5, none⟩ = some (.string a2_5) := (blk_cell BK141.out 5).trans rfl; have hcz10_6 : w9.cell? ⟨gb141, 6, none⟩ = some (.string a2_6) := (blk_cell BK141.out 6).trans rfl; have hcz10_7 : w9.cell? ⟨gb141, 7, none⟩ = some (.string a2_7) := (blk_cell BK141.out 7).trans rfl; have hcz10_8 : w9.cell? ⟨gb141, 8, none⟩ = some (.string a2_8) := (blk_cell BK141.out 8).trans rfl; have hfz10_0 := blk_frozen BK141.out 0; have hfz10_1 := blk_frozen BK141.out 1; have hfz10_2 := blk_frozen BK141.out 2; have hfz10_3 := blk_frozen BK141.out 3; have hfz10_4 := blk_frozen BK141.out 4; have hfz10_5 := blk_frozen BK141.out 5; have hfz10_6 := blk_frozen BK141.out 6; have hfz10_7 := blk_frozen BK141.out 7; have hfz10_8 := blk_frozen BK141.out 8))
   (try simp only [Act.put, List.setIfInBounds_toArray, List.set_cons_zero, List.set_cons_succ])
   go_cut [7] (fun v7 wc => ∃ (kq : Nat) (x7_6 : List ByteArray), Aside0 (spec_LtLines.j1 kq l0 a1 x7_6 a2_0 a2_1 a2_2 a2_3 a2_4 a2_5 a2_6 a2_7 a2_8 = some r) ∧ Aside0 (kq ≤ k) ∧ Aside0 (Kd.V k43 43 wc w.heap.size (fun k_ => (P0_ k_ ∨ w.heap.size ≤ k_) ∧ some k_ ≠ (v7 : Value).ownBlock ∧ k_ ≠ gb141) (.slice (some ad142) l0.length c0) l0) ∧ Aside0 (Kd.R Kd.string 9 wc w.heap.size (fun k_ => (w.heap.size ≤ k_)) v7 x7_6) ∧ Aside0 (wc.heap[gb141]? = some (.cells #[.int .i64 a2_0, .string a2_1, .string a2_2, .string a2_3, .string a2_4, .string a2_5, .string a2_6, .string a2_7, .string a2_8] 24 (0, 0))) ∧ Aside0 (Below w.heap.size w wc))
   case first =>
    have H := HC7.out
    clear HC7
    by_cases c11 : a2_7.toList = ([10] : List UInt8)
    ·rw [if_pos c11] at H
     have c11b0 : (a2_7.toList == ([10] : List UInt8)) = true := beq_iff_eq.mpr c11
     have c11b1 : (a2_7.toList != ([10] : List UInt8)) = false := bne_eq_false_iff_eq.mpr c11
     clear c11
     (first | rw [c11b0] | (simp only [i64_w, i32_w]; rw [c11b0]) | skip)
     have H' := Aside0.mk H
     clear H
     go_wp2
     go_meet
     case rel => exact ⟨_, (t143), H', ⟨by first | omega | exact Nat.le_refl _⟩, ⟨by (with_reducible repeat (first | apply Kd.V_alloc | apply Kd.V_drewN | apply Kd.V_drew)); exact Kd.V_mono HO0.out (fun _ hk => ⟨hk.1.1, ⟨hk.2, hk.1.2⟩⟩)⟩, ⟨by (with_reducible repeat (first | apply Kd.R_alloc | apply Kd.R_drewN | apply Kd.R_drew)); exact Kd.R_mono HO145.out (fun _ hk => hk.1)⟩, ⟨by (with_reducible repeat (first | refine blk_drewN ?_ _ | refine blk_drew ?_ | refine blk_alloc ?_ _)); exact BK141.out⟩, ⟨by repeat (first | (with_reducible first | exact HB.out | apply below_alloc | apply pw_below_drewN | apply below_drew1 | refine below_set ?_ GE141.out) | exact HB.out)⟩⟩
    ·rw [if_neg c11] at H
     have c11b0 : (a2_7.toList == ([10] : List UInt8)) = false := beq_eq_false_iff_ne.mpr c11
     have c11b1 : (a2_7.toList != ([10] : List UInt8)) = true := bne_iff_ne.mpr c11
     (first | rw [c11b0] | (simp only [i64_w, i32_w]; rw [c11b0]) | skip)
     have H' := Aside0.mk H
     clear H
     obtain ⟨Ao12, co12, eo12⟩ := Kd.R_slice HO145.out
     subst eo12
     go_wp2
     go_loopg [8, 25] k (fun kq v8 v25 w' => ∃ (x8_1 : ByteArray) (x25_1 : Int), v8 = .string x8_1 ∧ v25 = .int .i64 x25_1 ∧ Aside0 (spec_LtLines.l0 kq l0 a1 x8_1 t143 (t143.length : Int) x25_1 a2_0 a2_1 a2_2 a2_3 a2_4 a2_5 a2_6 a2_7 a2_8 = some r) ∧ Aside0 (kq ≤ k) ∧ Aside0 (Kd.V k43 43 w' w.heap.size (fun k_ => (P0_ k_ ∨ w.heap.size ≤ k_) ∧ some k_ ≠ ((.slice Ao12 t143.length co12) : Value).ownBlock ∧ k_ ≠ gb141) (.slice (some ad142) l0.length c0) l0) ∧ Aside0 (Kd.R Kd.string 9 w' w.heap.size (fun k_ => (w.heap.size ≤ k_)) (.slice Ao12 t143.length co12) t143) ∧ Aside0 (w'.heap[gb141]? = some (.cells #[.int .i64 a2_0, .string a2_1, .string a2_2, .string a2_3, .string a2_4, .string a2_5, .string a2_6, .string a2_7, .string a2_8] 24 (0, 0))) ∧ Aside0 (Below w.heap.size w w'))
     case atStart => exact ⟨((⟨#[]⟩ : ByteArray)), (0), (by first | rfl | (simp; done) | (simp [*]; done)), (by first | rfl | (simp; done) | (simp [*]; done)), H', ⟨Nat.le_refl _⟩, ⟨by (with_reducible repeat (first | apply Kd.V_alloc | apply Kd.V_drewN | apply Kd.V_drew)); exact Kd.V_mono HO0.out (fun _ hk => ⟨hk.1.1, ⟨hk.2, hk.1.2⟩⟩)⟩, ⟨by (with_reducible repeat (first | apply Kd.R_alloc | apply Kd.R_drewN | apply Kd.R_drew)); exact Kd.R_mono HO145.out (fun _ hk => hk.1)⟩, ⟨by (with_reducible repeat (first | refine blk_drewN ?_ _ | refine blk_drew ?_ | refine blk_alloc ?_ _)); exact BK141.out⟩, ⟨by repeat (first | (with_reducible first | exact HB.out | apply below_alloc | apply pw_below_drewN | apply below_drew1 | refine below_set ?_ GE141.out) | exact HB.out)⟩⟩
     case round =>
      clear H'
      try clear c1
      try clear p1
      try clear q1
      try clear hx1
      try clear p2
      try clear c3
      try clear c4
      try clear c4b0
      try clear c5
      try clear c5b0
      try clear c11
      try clear c11b0
      try clear c11b1
      try clear hcz10_0
      try clear hcz10_1
      try clear hcz10_2
      try clear hcz10_3
      try clear hcz10_4
      try clear hcz10_5
      try clear hcz10_6
      try clear hcz10_7
      try clear hcz10_8
      try clear hfz10_0
      try clear hfz10_1
      try clear hfz10_2
      try clear hfz10_3
      try clear hfz10_4
      try clear hfz10_5
      try clear hfz10_6
      try clear hfz10_7
      try clear hfz10_8
      try clear hx142_0
      try clear hx142_1
      try clear p142
      try clear q142
      obtain ⟨x8_1, x25_1, rfl, rfl, HA, HK1, HO_0, HO_23, BK141, HB⟩ := hrel
      cases gk with
      | zero => exact absurd HA.out (by simp [spec_LtLines.l0])
      | succ k1 =>
       have H := HA.out
       clear HA
       simp only [spec_LtLines.l0] at H
       by_cases c13 : x25_1 < (t143.length : Int)
       ·rw [if_pos c13] at H
        have c13b0 : decide (x25_1 < (t143.length : Int)) = true := decide_eq_true c13
        clear c13
        by_cases c14 : 0 ≤ x25_1
        ·rw [if_pos c14] at H
         have c14b0 : decide (0 ≤ x25_1) = true := decide_eq_true c14
         clear c14
         by_cases c15 : x25_1 < (t143.length : Int)
         ·rw [if_pos c15] at H
          have c15b0 : decide (x25_1 < (t143.length : Int)) = true := decide_eq_true c15
          clear c15
          by_cases c16 : x25_1 > 0
          ·rw [if_pos c16] at H
           have c16b0 : decide (0 < x25_1) = true := decide_eq_true c16
           clear c16
           by_cases c17 : x8_1.size + a2_7.size ≤ 9223372036854775807
           ·rw [if_pos c17] at H
            have c17b0 := eq_true c17
            have c17b1 : decide (x8_1.size + a2_7.size ≤ 9223372036854775807) = true := decide_eq_true c17
            try have c17b2 : (9223372036854775807 < x8_1.size + a2_7.size) = False := eq_false (Nat.not_lt.2 c17)
            by_cases c18 : (x8_1 ++ a2_7).size + (rdOf ByteArray.empty t143 x25_1).size ≤ 9223372036854775807
            ·rw [if_pos c18] at H
             have c18b0 := eq_true c18
             have c18b1 : decide ((x8_1 ++ a2_7).size + (rdOf ByteArray.empty t143 x25_1).size ≤ 9223372036854775807) = true := decide_eq_true c18
             try have c18b2 : (9223372036854775807 < (x8_1 ++ a2_7).size + (rdOf ByteArray.empty t143 x25_1).size) = False := eq_false (Nat.not_lt.2 c18)
             try have c18b3 : (9223372036854775807 < x8_1.size + a2_7.size + (rdOf ByteArray.empty t143 x25_1).size) = False := eq_false (by have h_ := c18; simp only [ByteArray.size_append', ByteArray.size_mk', ByteArray.size_extract, List.size_toArray, List.length_cons, List.length_nil] at h_; omega)
             have H' := Aside0.mk H
             clear H
             have p146 : 0 ≤ (x25_1 : Int) := of_decide_eq_true (by first | (with_reducible assumption) | assumption)
             have q146 : x25_1 < (t143.length : Int) := of_decide_eq_true (by first | (with_reducible assumption) | assumption)
             obtain ⟨ad146, e146, hx146_0⟩ := Kd.at_string (Kd.R_reads' HO_23.out).2.2 x25_1 p146 q146
             cases e146
             replace p146 := eq_true p146
             replace q146 := eq_true q146
             have hcz19_0 : wr.cell? ⟨gb141, 0, none⟩ = some (.int .i64 a2_0) := (blk_cell BK141.out 0).trans rfl
             have hcz19_1 : wr.cell? ⟨gb141, 1, none⟩ = some (.string a2_1) := (blk_cell BK141.out 1).trans rfl
             have hcz19_2 : wr.cell? ⟨gb141, 2, none⟩ = some (.string a2_2) := (blk_cell BK141.out 2).trans rfl
             have hcz19_3 : wr.cell? ⟨gb141, 3, none⟩ = some (.string a2_3) := (blk_cell BK141.out 3).trans rfl
             have hcz19_4 : wr.cell? ⟨gb141, 4, none⟩ = some (.string a2_4) := (blk_cell BK141.out 4).trans rfl
             have hcz19_5 : wr.cell? ⟨gb141, 5, none⟩ = some (.string a2_5) := (blk_cell BK141.out 5).trans rfl
             have hcz19_6 : wr.cell? ⟨gb141, 6, none⟩ = some (.string a2_6) := (blk_cell BK141.out 6).trans rfl
             have hcz19_7 : wr.cell? ⟨gb141, 7, none⟩ = some (.string a2_7) := (blk_cell BK141.out 7).trans rfl
             have hcz19_8 : wr.cell? ⟨gb141, 8, none⟩ = some (.string a2_8) := (blk_cell BK141.out 8).trans rfl
             have hfz19_0 := blk_frozen BK141.out 0
             have hfz19_1 := blk_frozen BK141.out 1
             have hfz19_2 := blk_frozen BK141.out 2
             have hfz19_3 := blk_frozen BK141.out 3
             have hfz19_4 := blk_frozen BK141.out 4
             have hfz19_5 := blk_frozen BK141.out 5
             have hfz19_6 := blk_frozen BK141.out 6
             have hfz19_7 := blk_frozen BK141.out 7
             have hfz19_8 := blk_frozen BK141.out 8
             go_wp2
             go_roundg k1
             case measure => have := HK1.out; omega
             case rel => exact ⟨((x8_1 ++ a2_7) ++ (rdOf ByteArray.empty t143 x25_1)), (wrap64 (x25_1 + 1)), (by first | rfl | (simp; done) | (simp [*]; done)), (by first | rfl | (simp; done) | (simp [*]; done)), H', ⟨by have := HK1.out; omega⟩, ⟨by (with_reducible repeat (first | apply Kd.V_alloc | apply Kd.V_drewN | apply Kd.V_drew)); exact HO_0.out⟩, ⟨by (with_reducible repeat (first | apply Kd.R_alloc | apply Kd.R_drewN | apply Kd.R_drew)); exact HO_23.out⟩, ⟨by (with_reducible repeat (first | refine blk_drewN ?_ _ | refine blk_drew ?_ | refine blk_alloc ?_ _)); exact BK141.out⟩, ⟨by repeat (first | (with_reducible first | exact HB.out | apply below_alloc | apply pw_below_drewN | apply below_drew1 | refine below_set ?_ GE141.out) | exact HB.out)⟩⟩
            ·rw [if_neg c18] at H
             exact absurd H (by simp)
           ·rw [if_neg c17] at H
            exact absurd H (by simp)
          ·rw [if_neg c16] at H
           have c16b0 : decide (0 < x25_1) = false := decide_eq_false c16
           clear c16
           by_cases c20 : x8_1.size + (rdOf ByteArray.empty t143 x25_1).size ≤ 9223372036854775807
           ·rw [if_pos c20] at H
            have c20b0 := eq_true c20
            have c20b1 : decide (x8_1.size + (rdOf ByteArray.empty t143 x25_1).size ≤ 9223372036854775807) = true := decide_eq_true c20
            try have c20b2 : (9223372036854775807 < x8_1.size + (rdOf ByteArray.empty t143 x25_1).size) = False := eq_false (Nat.not_lt.2 c20)
            have H' := Aside0.mk H
            clear H
            have p146 : 0 ≤ (x25_1 : Int) := of_decide_eq_true (by first | (with_reducible assumption) | assumption)
            have q146 : x25_1 < (t143.length : Int) := of_decide_eq_true (by first | (with_reducible assumption) | assumption)
            obtain ⟨ad146, e146, hx146_0⟩ := Kd.at_string (Kd.R_reads' HO_23.out).2.2 x25_1 p146 q146
            cases e146
            replace p146 := eq_true p146
            replace q146 := eq_true q146
            go_wp2
            go_roundg k1
            case measure => have := HK1.out; omega
            case rel => exact ⟨(x8_1 ++ (rdOf ByteArray.empty t143 x25_1)), (wrap64 (x25_1 + 1)), (by first | rfl | (simp; done) | (simp [*]; done)), (by first | rfl | (simp; done) | (simp [*]; done)), H', ⟨by have := HK1.out; omega⟩, ⟨by (with_reducible repeat (first | apply Kd.V_alloc | apply Kd.V_drewN | apply Kd.V_drew)); exact HO_0.out⟩, ⟨by (with_reducible repeat (first | apply Kd.R_alloc | apply Kd.R_drewN | apply Kd.R_drew)); exact HO_23.out⟩, ⟨by (with_reducible repeat (first | refine blk_drewN ?_ _ | refine blk_drew ?_ | refine blk_alloc ?_ _)); exact BK141.out⟩, ⟨by repeat (first | (with_reducible first | exact HB.out | apply below_alloc | apply pw_below_drewN | apply below_drew1 | refine below_set ?_ GE141.out) | exact HB.out)⟩⟩
           ·rw [if_neg c20] at H
            exact absurd H (by simp)
         ·rw [if_neg c15] at H
          exact absurd H (by simp)
        ·rw [if_neg c14] at H
         exact absurd H (by simp)
       ·rw [if_neg c13] at H
        have c13b0 : decide (x25_1 < (t143.length : Int)) = false := decide_eq_false c13
        clear c13
        obtain ⟨y147, hy147⟩ : ∃ y_ : List ByteArray, y_ = (([x8_1] : List ByteArray)) := ⟨_, rfl⟩
        replace H : (spec_LtLines.j1 k1 l0 a1 y147 a2_0 a2_1 a2_2 a2_3 a2_4 a2_5 a2_6 a2_7 a2_8) = some r := by first | (rw [hy147]; with_reducible exact H) | (have H2_ := (Option.bind_some _ _).symm.trans H; rw [hy147]; with_reducible exact H2_) | (have H2_ := (Option.bind_some _ _).symm.trans H; with_reducible exact H2_) | with_reducible exact H | (rw [hy147]; exact H) | exact H
        have Ny147 := Aside0.mk hy147
        clear hy147
        have H' := Aside0.mk H
        clear H
        go_wp2_with (first | ((with_reducible refine gate_dst (N := 41) rfl ?_); refine Kd.R_lit Kd.string _ 9 ?hg (N := 41) ?hd (xs := ([x8_1] : List ByteArray)) (inner := [.string x8_1]) (ok := fun _ => True) (okp := fun _ => True) ?hr ?hp (fun _ hk => hk) trivial (Below.refl _ _) (Nat.le_refl _) (by simp) ?_; (case hd => rfl); (case hg => rfl); (case hr => first | (go_simp; done) | (go_simp; rfl)); (case hp => exact (Reps.one (show Kd.M Kd.string _ _ _ x8_1 [.string x8_1] from rfl) (Reps.none _ _))); intro v148 w21 ho22 hb hg_ hnew_; clear hg_ hnew_; (first | rw [← Ny147.out] at ho22 | (simp only [Int.reduceToNat] at ho22; rw [← Ny147.out] at ho22)); have n0_ := Aside0.mk (Kd.V_elder' (by (with_reducible repeat (first | apply Kd.V_alloc | apply Kd.V_drewN | apply Kd.V_drew)); exact HO_0.out) (Kd.R_base ho22) hb); have n1_ := Aside0.mk (Kd.R_elder' (by (with_reducible repeat (first | apply Kd.R_alloc | apply Kd.R_drewN | apply Kd.R_drew)); exact HO_23.out) (Kd.R_base ho22) hb); have n2_ := Aside0.mk (Kd.R_lower (Kd.R_new' (Kd.R_newM (M := fun k_ => (w.heap.size ≤ k_)) ho22 (below_size (by repeat (first | (with_reducible first | exact HB.out | apply below_alloc | apply pw_below_drewN | apply below_drew1 | refine below_set ?_ GE141.out) | exact HB.out))) (fun k_ h_ => h_)) (Kd.R_lt (by (with_reducible repeat (first | apply Kd.R_alloc | apply Kd.R_drewN | apply Kd.R_drew)); exact HO_23.out))) (below_size (by repeat (first | (with_reducible first | exact HB.out | apply below_alloc | apply pw_below_drewN | apply below_drew1 | refine below_set ?_ GE141.out) | exact HB.out)))); have n3_ := Aside0.mk (blk_below (g := gb141) (o := .cells #[.int .i64 a2_0, .string a2_1, .string a2_2, .string a2_3, .string a2_4, .string a2_5, .string a2_6, .string a2_7, .string a2_8] 24 (0, 0)) (by (with_reducible repeat (first | refine blk_drewN ?_ _ | refine blk_drew ?_ | refine blk_alloc ?_ _)); exact BK141.out) hb); have n4_ := Aside0.mk (below_step (by repeat (first | (with_reducible first | exact HB.out | apply below_alloc | apply pw_below_drewN | apply below_drew1 | refine below_set ?_ GE141.out) | exact HB.out)) hb); clear HO_0; clear HO_23; clear BK141; clear HB; have HO_0 := n0_; have HO_23 := n1_; have HO149 := n2_; have BK141 := n3_; have HB := n4_; clear n0_ n1_ n2_ n3_ n4_; clear hb ho22))
        go_meet
        case rel => exact ⟨_, (y147), H', ⟨by have := HK1.out; first | omega | exact Nat.le_refl _⟩, ⟨by (with_reducible repeat (first | apply Kd.V_alloc | apply Kd.V_drewN | apply Kd.V_drew)); exact Kd.V_mono HO_0.out (fun _ hk => ⟨hk.1.1, ⟨hk.2, hk.1.2.2⟩⟩)⟩, ⟨by (with_reducible repeat (first | apply Kd.R_alloc | apply Kd.R_drewN | apply Kd.R_drew)); exact Kd.R_mono HO149.out (fun _ hk => hk.1.1)⟩, ⟨by (with_reducible repeat (first | refine blk_drewN ?_ _ | refine blk_drew ?_ | refine blk_alloc ?_ _)); exact BK141.out⟩, ⟨by repeat (first | (with_reducible first | exact HB.out | apply below_alloc | apply pw_below_drewN | apply below_drew1 | refine below_set ?_ GE141.out) | exact HB.out)⟩⟩
   case rest =>
    clear HC7
    try clear c1
    try clear p1
    try clear q1
    try clear hx1
    try clear c2
    try clear p2
    try clear c3
    try clear c4
    try clear c4b0
    try clear c5
    try clear c5b0
    try clear p6
    try clear c11
    try clear c11b0
    try clear c11b1
    try clear c13
    try clear c13b0
    try clear c14
    try clear c14b0
    try clear p14
    try clear q14
    try clear hx14
    try clear c15
    try clear c15b0
    try clear c16
    try clear c16b0
    try clear c17
    try clear c17b0
    try clear c17b1
    try clear c17b2
    try clear c18
    try clear c18b0
    try clear c18b1
    try clear c18b2
    try clear c20
    try clear c20b0
    try clear c20b1
    try clear c20b2
    try clear hcz10_0
    try clear hcz10_1
    try clear hcz10_2
    try clear hcz10_3
    try clear hcz10_4
    try clear hcz10_5
    try clear hcz10_6
    try clear hcz10_7
    try clear hcz10_8
    try clear hcz19_0
    try clear hcz19_1
    try clear hcz19_2
    try clear hcz19_3
    try clear hcz19_4
    try clear hcz19_5
    try clear hcz19_6
    try clear hcz19_7
    try clear hcz19_8
    try clear hfz10_0
    try clear hfz10_1
    try clear hfz10_2
    try clear hfz10_3
    try clear hfz10_4
    try clear hfz10_5
    try clear hfz10_6
    try clear hfz10_7
    try clear hfz10_8
    try clear hfz19_0
    try clear hfz19_1
    try clear hfz19_2
    try clear hfz19_3
    try clear hfz19_4
    try clear hfz19_5
    try clear hfz19_6
    try clear hfz19_7
    try clear hfz19_8
    try clear hx142_0
    try clear hx142_1
    try clear hx146_0
    try clear p1
    try clear p142
    try clear p146
    try clear p2
    try clear q1
    try clear q142
    try clear q146
    obtain ⟨kq, x7_6, HA, HJ6, HO_0, HO_7, BK141, HB⟩ := hcut
    cases kq with
    | zero => exact absurd HA.out (by simp [spec_LtLines.j1])
    | succ kj6 =>
     have H := HA.out
     clear HA
     simp only [spec_LtLines.j1] at H
     have H' := Aside0.mk H
     clear H
     obtain ⟨Ao23, co23, eo23⟩ := Kd.R_slice HO_7.out
     subst eo23
     go_wp2
     go_loopg [11, 44] kj6 (fun kq v11 v44 w' => ∃ (x11_2 : List ByteArray) (x44_2 : Int), v44 = .int .i64 x44_2 ∧ Aside0 (spec_LtLines.l1 kq l0 a1 x11_2 x7_6 (x7_6.length : Int) x44_2 a2_0 a2_1 a2_2 a2_3 a2_4 a2_5 a2_6 a2_7 a2_8 = some r) ∧ Aside0 (kq ≤ kj6) ∧ Aside0 (Kd.V k43 43 w' w.heap.size (fun k_ => (P0_ k_ ∨ w.heap.size ≤ k_) ∧ some k_ ≠ (v11 : Value).ownBlock ∧ some k_ ≠ ((.slice Ao23 x7_6.length co23) : Value).ownBlock ∧ k_ ≠ gb141) (.slice (some ad142) l0.length c0) l0) ∧ Aside0 (Kd.R Kd.string 9 w' w.heap.size (fun k_ => (w.heap.size ≤ k_) ∧ some k_ ≠ ((.slice Ao23 x7_6.length co23) : Value).ownBlock) v11 x11_2) ∧ Aside0 (Kd.R Kd.string 9 w' w.heap.size (fun k_ => (w.heap.size ≤ k_) ∧ some k_ ≠ (v11 : Value).ownBlock) (.slice Ao23 x7_6.length co23) x7_6) ∧ Aside0 (w'.heap[gb141]? = some (.cells #[.int .i64 a2_0, .string a2_1, .string a2_2, .string a2_3, .string a2_4, .string a2_5, .string a2_6, .string a2_7, .string a2_8] 24 (0, 0))) ∧ Aside0 (Below w.heap.size w w'))
     case atStart => exact ⟨(([] : List ByteArray)), (0), (by first | rfl | (simp; done) | (simp [*]; done)), H', ⟨Nat.le_refl _⟩, ⟨by (with_reducible repeat (first | apply Kd.V_alloc | apply Kd.V_drewN | apply Kd.V_drew)); exact Kd.V_mono HO_0.out (fun _ hk => ⟨hk.1, ⟨(by simp [Value.ownBlock]), ⟨hk.2.1, hk.2.2⟩⟩⟩)⟩, ⟨by first | exact Kd.R_nil _ _ _ _ _ | exact Kd.N_nil _ _ _ _ _ | exact Kd.V_nil _ _ _ _ _ | exact Kd.Q_nil _ _ _ _ _ | exact Kd.S_nil _ _ _ _ _⟩, ⟨by (with_reducible repeat (first | apply Kd.R_alloc | apply Kd.R_drewN | apply Kd.R_drew)); exact Kd.R_mono HO_7.out (fun _ hk => ⟨hk, (by simp [Value.ownBlock])⟩)⟩, ⟨by (with_reducible repeat (first | refine blk_drewN ?_ _ | refine blk_drew ?_ | refine blk_alloc ?_ _)); exact BK141.out⟩, ⟨by repeat (first | (with_reducible first | exact HB.out | apply below_alloc | apply pw_below_drewN | apply below_drew1 | refine below_set ?_ GE141.out) | exact HB.out)⟩⟩
     case round =>
      clear H'
      try clear c1
      try clear p1
      try clear q1
      try clear hx1
      try clear c2
      try clear p2
      try clear c3
      try clear c4
      try clear c4b0
      try clear c5
      try clear c5b0
      try clear p6
      try clear c11
      try clear c11b0
      try clear c11b1
      try clear c13
      try clear c13b0
      try clear c14
      try clear c14b0
      try clear p14
      try clear q14
      try clear hx14
      try clear c15
      try clear c15b0
      try clear c16
      try clear c16b0
      try clear c17
      try clear c17b0
      try clear c17b1
      try clear c17b2
      try clear c18
      try clear c18b0
      try clear c18b1
      try clear c18b2
      try clear c20
      try clear c20b0
      try clear c20b1
      try clear c20b2
      try clear hcz10_0
      try clear hcz10_1
      try clear hcz10_2
      try clear hcz10_3
      try clear hcz10_4
      try clear hcz10_5
      try clear hcz10_6
      try clear hcz10_7
      try clear hcz10_8
      try clear hcz19_0
      try clear hcz19_1
      try clear hcz19_2
      try clear hcz19_3
      try clear hcz19_4
      try clear hcz19_5
      try clear hcz19_6
      try clear hcz19_7
      try clear hcz19_8
      try clear hfz10_0
      try clear hfz10_1
      try clear hfz10_2
      try clear hfz10_3
      try clear hfz10_4
      try clear hfz10_5
      try clear hfz10_6
      try clear hfz10_7
      try clear hfz10_8
      try clear hfz19_0
      try clear hfz19_1
      try clear hfz19_2
      try clear hfz19_3
      try clear hfz19_4
      try clear hfz19_5
      try clear hfz19_6
      try clear hfz19_7
      try clear hfz19_8
      try clear hx142_0
      try clear hx142_1
      try clear hx146_0
      try clear p1
      try clear p14
      try clear p142
      try clear p146
      try clear p2
      try clear p6
      try clear q1
      try clear q14
      try clear q142
      try clear q146
      obtain ⟨x11_2, x44_2, rfl, HA, HK2, HO_0, HO_11, HO_42, BK141, HB⟩ := hrel
      cases gk with
      | zero => exact absurd HA.out (by simp [spec_LtLines.l1])
      | succ k2 =>
       have H := HA.out
       clear HA
       simp only [spec_LtLines.l1] at H
       by_cases c24 : x44_2 < (x7_6.length : Int)
       ·rw [if_pos c24] at H
        have c24b0 : decide (x44_2 < (x7_6.length : Int)) = true := decide_eq_true c24
        clear c24
        by_cases c25 : 0 ≤ x44_2
        ·rw [if_pos c25] at H
         have c25b0 : decide (0 ≤ x44_2) = true := decide_eq_true c25
         clear c25
         by_cases c26 : x44_2 < (x7_6.length : Int)
         ·rw [if_pos c26] at H
          have c26b0 : decide (x44_2 < (x7_6.length : Int)) = true := decide_eq_true c26
          clear c26
          by_cases c27 : x44_2 = 0
          ·rw [if_pos c27] at H
           have c27b0 : (x44_2 == 0) = true := beq_iff_eq.mpr c27
           have c27b1 : (x44_2 != 0) = false := bne_eq_false_iff_eq.mpr c27
           clear c27
           replace H := Option.bind_eq_some_iff.mp H
           obtain ⟨t151, A280, H⟩ := H
           replace H : ((spec_LtBullet.f k2 l0 a1 a2_0 a2_1 a2_2 a2_3 a2_4 a2_5 a2_6 a2_7 a2_8).bind fun t152 => (if t151.size + t152.size ≤ 9223372036854775807 then (if (t151 ++ t152).size + 1 ≤ 9223372036854775807 then (if ((t151 ++ t152) ++ (⟨#[32]⟩ : ByteArray)).size + (rdOf ByteArray.empty x7_6 x44_2).size ≤ 9223372036854775807 then (if x11_2.length < 8796093022208 then (spec_LtLines.l1 k2 l0 a1 (x11_2 ++ [((t151 ++ t152) ++ (⟨#[32]⟩ : ByteArray)) ++ (rdOf ByteArray.empty x7_6 x44_2)]) x7_6 (x7_6.length : Int) (wrap64 (x44_2 + 1)) a2_0 a2_1 a2_2 a2_3 a2_4 a2_5 a2_6 a2_7 a2_8) else (none)) else (none)) else (none)) else (none))) = some r := H
           have A28 := Aside0.mk A280
           clear A280
           replace H := Option.bind_eq_some_iff.mp H
           obtain ⟨t152, A290, H⟩ := H
           replace H : (if t151.size + t152.size ≤ 9223372036854775807 then (if (t151 ++ t152).size + 1 ≤ 9223372036854775807 then (if ((t151 ++ t152) ++ (⟨#[32]⟩ : ByteArray)).size + (rdOf ByteArray.empty x7_6 x44_2).size ≤ 9223372036854775807 then (if x11_2.length < 8796093022208 then (spec_LtLines.l1 k2 l0 a1 (x11_2 ++ [((t151 ++ t152) ++ (⟨#[32]⟩ : ByteArray)) ++ (rdOf ByteArray.empty x7_6 x44_2)]) x7_6 (x7_6.length : Int) (wrap64 (x44_2 + 1)) a2_0 a2_1 a2_2 a2_3 a2_4 a2_5 a2_6 a2_7 a2_8) else (none)) else (none)) else (none)) else (none)) = some r := H
           have A29 := Aside0.mk A290
           clear A290
           by_cases c30 : t151.size + t152.size ≤ 9223372036854775807
           ·rw [if_pos c30] at H
            have c30b0 := eq_true c30
            have c30b1 : decide (t151.size + t152.size ≤ 9223372036854775807) = true := decide_eq_true c30
            try have c30b2 : (9223372036854775807 < t151.size + t152.size) = False := eq_false (Nat.not_lt.2 c30)
            by_cases c31 : (t151 ++ t152).size + 1 ≤ 9223372036854775807
            ·rw [if_pos c31] at H
             have c31b0 := eq_true c31
             have c31b1 : decide ((t151 ++ t152).size + 1 ≤ 9223372036854775807) = true := decide_eq_true c31
             try have c31b2 : (9223372036854775807 < (t151 ++ t152).size + 1) = False := eq_false (Nat.not_lt.2 c31)
             try have c31b3 : (9223372036854775807 < t151.size + t152.size + 1) = False := eq_false (by have h_ := c31; simp only [ByteArray.size_append', ByteArray.size_mk', ByteArray.size_extract, List.size_toArray, List.length_cons, List.length_nil] at h_; omega)
             by_cases c32 : ((t151 ++ t152) ++ (⟨#[32]⟩ : ByteArray)).size + (rdOf ByteArray.empty x7_6 x44_2).size ≤ 9223372036854775807
             ·rw [if_pos c32] at H
              have c32b0 := eq_true c32
              have c32b1 : decide (((t151 ++ t152) ++ (⟨#[32]⟩ : ByteArray)).size + (rdOf ByteArray.empty x7_6 x44_2).size ≤ 9223372036854775807) = true := decide_eq_true c32
              try have c32b2 : (9223372036854775807 < ((t151 ++ t152) ++ (⟨#[32]⟩ : ByteArray)).size + (rdOf ByteArray.empty x7_6 x44_2).size) = False := eq_false (Nat.not_lt.2 c32)
              try have c32b3 : (9223372036854775807 < t151.size + t152.size + 1 + (rdOf ByteArray.empty x7_6 x44_2).size) = False := eq_false (by have h_ := c32; simp only [ByteArray.size_append', ByteArray.size_mk', ByteArray.size_extract, List.size_toArray, List.length_cons, List.length_nil] at h_; omega)
              by_cases c33 : x11_2.length < 8796093022208
              ·rw [if_pos c33] at H
               have LMc33 := Aside0.mk c33
               clear c33
               obtain ⟨y153, hy153⟩ : ∃ y_ : List ByteArray, y_ = (x11_2 ++ [((t151 ++ t152) ++ (⟨#[32]⟩ : ByteArray)) ++ (rdOf ByteArray.empty x7_6 x44_2)]) := ⟨_, rfl⟩
               replace H : (spec_LtLines.l1 k2 l0 a1 y153 x7_6 (x7_6.length : Int) (wrap64 (x44_2 + 1)) a2_0 a2_1 a2_2 a2_3 a2_4 a2_5 a2_6 a2_7 a2_8) = some r := by first | (rw [hy153]; with_reducible exact H) | (have H2_ := (Option.bind_some _ _).symm.trans H; rw [hy153]; with_reducible exact H2_) | (have H2_ := (Option.bind_some _ _).symm.trans H; with_reducible exact H2_) | with_reducible exact H | (rw [hy153]; exact H) | exact H
               have Ny153 := Aside0.mk hy153
               clear hy153
               have H' := Aside0.mk H
               clear H
               have p150 : 0 ≤ (x44_2 : Int) := of_decide_eq_true (by first | (with_reducible assumption) | assumption)
               have q150 : x44_2 < (x7_6.length : Int) := of_decide_eq_true (by first | (with_reducible assumption) | assumption)
               obtain ⟨ad150, e150, hx150_0⟩ := Kd.at_string (Kd.R_reads' HO_42.out).2.2 x44_2 p150 q150
               cases e150
               replace p150 := eq_true p150
               replace q150 := eq_true q150
               try go_wp2
               have n0_ := Aside0.mk (Kd.V_drew HO_0.out)
               have n1_ := Aside0.mk (Kd.R_drew HO_11.out)
               have n2_ := Aside0.mk (Kd.R_drew HO_42.out)
               have n3_ := Aside0.mk (blk_drew BK141.out)
               have n4_ := Aside0.mk (below_drew1 HB.out)
               clear HO_0
               clear HO_11
               clear HO_42
               clear BK141
               clear HB
               have HO_0 := n0_
               have HO_11 := n1_
               have HO_42 := n2_
               have BK141 := n3_
               have HB := n4_
               clear n0_ n1_ n2_ n3_ n4_
               refine start_ (n := 16) (S := fun w' => w'.cell? ⟨gb141, 0, none⟩ = some (.int .i64 a2_0) ∧ w'.cell? ⟨gb141, 1, none⟩ = some (.string a2_1) ∧ w'.cell? ⟨gb141, 2, none⟩ = some (.string a2_2) ∧ w'.cell? ⟨gb141, 3, none⟩ = some (.string a2_3) ∧ w'.cell? ⟨gb141, 4, none⟩ = some (.string a2_4) ∧ w'.cell? ⟨gb141, 5, none⟩ = some (.string a2_5) ∧ w'.cell? ⟨gb141, 6, none⟩ = some (.string a2_6) ∧ w'.cell? ⟨gb141, 7, none⟩ = some (.string a2_7) ∧ w'.cell? ⟨gb141, 8, none⟩ = some (.string a2_8)) (ds := []) #[false, false, false, false, false, false, false, false, false, false, false, false, false, false, false, false] (by kernel_rfl) rfl rfl ⟨(blk_cell BK141.out 0).trans rfl, (blk_cell BK141.out 1).trans rfl, (blk_cell BK141.out 2).trans rfl, (blk_cell BK141.out 3).trans rfl, (blk_cell BK141.out 4).trans rfl, (blk_cell BK141.out 5).trans rfl, (blk_cell BK141.out 6).trans rfl, (blk_cell BK141.out 7).trans rfl, (blk_cell BK141.out 8).trans rfl⟩ (fun hHeld => ?_); refine with_tabW spec_LtLines.tab17 spec_LtLines.bits17 (fun HT_ HW_ => ?_)
               generalize wr.drew = w34 at HO_0 HO_11 HO_42 BK141 HB hHeld ⊢
               refine pure_ (i := 0) (N := some 51) (v := ?_) (a' := ?_) #[true, false, false, false, false, false, false, false, false, false, false, false, false, false, false, false] rfl rfl (any_of HT_.out (by kernel_rfl)) (fun _ _ _ h => h) (Or.inl ⟨by rfl, ?_⟩) ?_ ?_
               rotate_left
               ·intro w'
                go_simp
                with_reducible rfl
               rotate_left
               ·simp only [Act.put, List.setIfInBounds_toArray, List.set_cons_zero, List.set_cons_succ, i64_w, i32_w]
                rfl
               refine pure_ (i := 1) (N := some 52) (v := ?_) (a' := ?_) #[true, true, false, false, false, false, false, false, false, false, false, false, false, false, false, false] rfl rfl (any_of HT_.out (by kernel_rfl)) (fun _ _ _ h => h) (Or.inl ⟨by rfl, ?_⟩) ?_ ?_
               rotate_left
               ·intro w'
                go_simp
                with_reducible rfl
               rotate_left
               ·simp only [Act.put, List.setIfInBounds_toArray, List.set_cons_zero, List.set_cons_succ, i64_w, i32_w]
                rfl
               refine pure_ (i := 2) (N := some 53) (v := ?_) (a' := ?_) #[true, true, true, false, false, false, false, false, false, false, false, false, false, false, false, false] rfl rfl (any_of HT_.out (by kernel_rfl)) (fun _ _ _ h => h) (Or.inl ⟨by rfl, ?_⟩) ?_ ?_
               rotate_left
               ·intro w'
                go_simp
                with_reducible rfl
               rotate_left
               ·simp only [Act.put, List.setIfInBounds_toArray, List.set_cons_zero, List.set_cons_succ, i64_w, i32_w]
                rfl
               refine pure_ (i := 5) (N := some 56) (v := ?_) (a' := ?_) #[true, true, true, false, false, true, false, false, false, false, false, false, false, false, false, false] rfl rfl (any_of HT_.out (by kernel_rfl)) (fun _ _ _ h => h) (Or.inl ⟨by rfl, ?_⟩) ?_ ?_
               rotate_left
               ·intro w'
                go_simp
                with_reducible rfl
               rotate_left
               ·simp only [Act.put, List.setIfInBounds_toArray, List.set_cons_zero, List.set_cons_succ, i64_w, i32_w]
                rfl
               refine pure_ (i := 6) (N := some 57) (v := ?_) (a' := ?_) #[true, true, true, false, false, true, true, false, false, false, false, false, false, false, false, false] rfl rfl (any_of HT_.out (by kernel_rfl)) (fun _ _ _ h => h) (Or.inl ⟨by rfl, ?_⟩) ?_ ?_
               rotate_left
               ·intro w'
                go_simp
                with_reducible rfl
               rotate_left
               ·simp only [Act.put, List.setIfInBounds_toArray, List.set_cons_zero, List.set_cons_succ, i64_w, i32_w]
                rfl
               refine pure_ (i := 11) (N := some 62) (v := ?_) (a' := ?_) #[true, true, true, false, false, true, true, false, false, false, false, true, false, false, false, false] rfl rfl (any_of HT_.out (by kernel_rfl)) (fun _ _ _ h => h) (Or.inl ⟨by rfl, ?_⟩) ?_ ?_
               rotate_left
               ·intro w'
                go_simp
                with_reducible rfl
               rotate_left
               ·simp only [Act.put, List.setIfInBounds_toArray, List.set_cons_zero, List.set_cons_succ, i64_w, i32_w]
                rfl
               refine take_ (i := 3) (N := some 54) (v := ?_) (a' := ?_) #[true, true, true, true, false, true, true, false, false, false, false, true, false, false, false, false] rfl rfl (take_ofW HT_.out HW_.out (by kernel_rfl)) (fun _ _ _ h => h) (Or.inl ⟨by rfl, ?_⟩) hHeld ?_ ?_
               rotate_left
               ·rintro w' ⟨s0, s1, s2, s3, s4, s5, s6, s7, s8⟩
                go_simp
                with_reducible rfl
               rotate_left
               ·simp only [Act.put, List.setIfInBounds_toArray, List.set_cons_zero, List.set_cons_succ, i64_w, i32_w]
                rfl
               refine take_ (i := 7) (N := some 58) (v := ?_) (a' := ?_) #[true, true, true, true, false, true, true, true, false, false, false, true, false, false, false, false] rfl rfl (take_ofW HT_.out HW_.out (by kernel_rfl)) (fun _ _ _ h => h) (Or.inl ⟨by rfl, ?_⟩) hHeld ?_ ?_
               rotate_left
               ·rintro w' ⟨s0, s1, s2, s3, s4, s5, s6, s7, s8⟩
                go_simp
                with_reducible rfl
               rotate_left
               ·simp only [Act.put, List.setIfInBounds_toArray, List.set_cons_zero, List.set_cons_succ, i64_w, i32_w]
                rfl
               refine one_ (i := 4) (N := some 55) #[true, true, true, true, true, true, true, true, false, false, false, true, false, false, false, false] rfl rfl (one_of HT_.out (by kernel_rfl)) (by decide) (fun K hK => ?_)
               refine goes_ Tryz.func75 (by kernel_rfl) rfl #[.slice (some ad142) l0.length c0, .int .i64 a1, .agg #[.int .i64 a2_0, .string a2_1, .string a2_2, .string a2_3, .string a2_4, .string a2_5, .string a2_6, .string a2_7, .string a2_8]] (by rfl) rfl rfl (by (try simp only [List.map_toArray, List.map_cons, List.map_nil]); first | done | rfl | (simp only [List.length_drop, List.length_take]; rfl)) ?_
               with_reducible refine (spec_LtAhead.calls k2 _ _ l0 a1 a2_0 a2_1 a2_2 a2_3 a2_4 a2_5 a2_6 a2_7 a2_8 t151 _ ?side1 ?side2 A28.out).mono ?_
               (case side1 => repeat (first | exact (Kd.V_reads' HO_0.out).2.2 | (with_reducible refine Kd.C_alloc ?_ _) | (with_reducible refine Kd.C_drewN ?_ _) | (with_reducible refine Kd.C_drew ?_)))
               (case side2 => exact (Kd.V_reads' HO_0.out).2.1)
               rintro e w35 ⟨rfl, hb⟩
               refine ⟨_, rfl, ?_⟩
               have n0_ := Aside0.mk (Kd.V_below (by (with_reducible repeat (first | apply Kd.V_alloc | apply Kd.V_drewN | apply Kd.V_drew)); exact HO_0.out) hb)
               have n1_ := Aside0.mk (Kd.R_below (by (with_reducible repeat (first | apply Kd.R_alloc | apply Kd.R_drewN | apply Kd.R_drew)); exact HO_11.out) hb)
               have n2_ := Aside0.mk (Kd.R_below (by (with_reducible repeat (first | apply Kd.R_alloc | apply Kd.R_drewN | apply Kd.R_drew)); exact HO_42.out) hb)
               have n3_ := Aside0.mk (blk_below (g := gb141) (o := .cells #[.int .i64 a2_0, .string a2_1, .string a2_2, .string a2_3, .string a2_4, .string a2_5, .string a2_6, .string a2_7, .string a2_8] 24 (0, 0)) (by (with_reducible repeat (first | refine blk_drewN ?_ _ | refine blk_drew ?_ | refine blk_alloc ?_ _)); exact BK141.out) hb)
               have n4_ := Aside0.mk (below_step (by repeat (first | (with_reducible first | exact HB.out | apply below_alloc | apply pw_below_drewN | apply below_drew1 | refine below_set ?_ GE141.out) | exact HB.out)) hb)
               clear HO_0
               clear HO_11
               clear HO_42
               clear BK141
               clear HB
               have HO_0 := n0_
               have HO_11 := n1_
               have HO_42 := n2_
               have BK141 := n3_
               have HB := n4_
               clear n0_ n1_ n2_ n3_ n4_
               (try clear hb)
               (try clear hb2)
               (try clear hk)
               (try clear hi)
               refine hK.out _ _ ⟨(blk_cell BK141.out 0).trans rfl, (blk_cell BK141.out 1).trans rfl, (blk_cell BK141.out 2).trans rfl, (blk_cell BK141.out 3).trans rfl, (blk_cell BK141.out 4).trans rfl, (blk_cell BK141.out 5).trans rfl, (blk_cell BK141.out 6).trans rfl, (blk_cell BK141.out 7).trans rfl, (blk_cell BK141.out 8).trans rfl⟩ (fun hHeld => ?_)
               clear hK K
               refine norm_ (a' := ?_) ?_ ?_
               rotate_left
               ·show Act.put _ (some 55) _ = _
                simp only [Act.put, List.setIfInBounds_toArray, List.set_cons_zero, List.set_cons_succ, i64_w, i32_w]
                rfl
               refine one_ (i := 8) (N := some 59) #[true, true, true, true, true, true, true, true, true, false, false, true, false, false, false, false] rfl rfl (one_of HT_.out (by kernel_rfl)) (by decide) (fun K hK => ?_)
               refine goes_ Tryz.func76 (by kernel_rfl) rfl #[.slice (some ad142) l0.length c0, .int .i64 a1, .agg #[.int .i64 a2_0, .string a2_1, .string a2_2, .string a2_3, .string a2_4, .string a2_5, .string a2_6, .string a2_7, .string a2_8]] (by rfl) rfl rfl (by (try simp only [List.map_toArray, List.map_cons, List.map_nil]); first | done | rfl | (simp only [List.length_drop, List.length_take]; rfl)) ?_
               with_reducible refine (spec_LtBullet.calls k2 _ _ l0 a1 a2_0 a2_1 a2_2 a2_3 a2_4 a2_5 a2_6 a2_7 a2_8 t152 _ ?side1 ?side2 A29.out).mono ?_
               (case side1 => repeat (first | exact (Kd.V_reads' HO_0.out).2.2 | (with_reducible refine Kd.C_alloc ?_ _) | (with_reducible refine Kd.C_drewN ?_ _) | (with_reducible refine Kd.C_drew ?_)))
               (case side2 => exact (Kd.V_reads' HO_0.out).2.1)
               rintro e w36 ⟨rfl, hb⟩
               refine ⟨_, rfl, ?_⟩
               have n0_ := Aside0.mk (Kd.V_below (by (with_reducible repeat (first | apply Kd.V_alloc | apply Kd.V_drewN | apply Kd.V_drew)); exact HO_0.out) hb)
               have n1_ := Aside0.mk (Kd.R_below (by (with_reducible repeat (first | apply Kd.R_alloc | apply Kd.R_drewN | apply Kd.R_drew)); exact HO_11.out) hb)
               have n2_ := Aside0.mk (Kd.R_below (by (with_reducible repeat (first | apply Kd.R_alloc | apply Kd.R_drewN | apply Kd.R_drew)); exact HO_42.out) hb)
               have n3_ := Aside0.mk (blk_below (g := gb141) (o := .cells #[.int .i64 a2_0, .string a2_1, .string a2_2, .string a2_3, .string a2_4, .string a2_5, .string a2_6, .string a2_7, .string a2_8] 24 (0, 0)) (by (with_reducible repeat (first | refine blk_drewN ?_ _ | refine blk_drew ?_ | refine blk_alloc ?_ _)); exact BK141.out) hb)
               have n4_ := Aside0.mk (below_step (by repeat (first | (with_reducible first | exact HB.out | apply below_alloc | apply pw_below_drewN | apply below_drew1 | refine below_set ?_ GE141.out) | exact HB.out)) hb)
               clear HO_0
               clear HO_11
               clear HO_42
               clear BK141
               clear HB
               have HO_0 := n0_
               have HO_11 := n1_
               have HO_42 := n2_
               have BK141 := n3_
               have HB := n4_
               clear n0_ n1_ n2_ n3_ n4_
               (try clear hb)
               (try clear hb2)
               (try clear hk)
               (try clear hi)
               refine hK.out _ _ ⟨(blk_cell BK141.out 0).trans rfl, (blk_cell BK141.out 1).trans rfl, (blk_cell BK141.out 2).trans rfl, (blk_cell BK141.out 3).trans rfl, (blk_cell BK141.out 4).trans rfl, (blk_cell BK141.out 5).trans rfl, (blk_cell BK141.out 6).trans rfl, (blk_cell BK141.out 7).trans rfl, (blk_cell BK141.out 8).trans rfl⟩ (fun hHeld => ?_)
               clear hK K
               refine norm_ (a' := ?_) ?_ ?_
               rotate_left
               ·show Act.put _ (some 59) _ = _
                simp only [Act.put, List.setIfInBounds_toArray, List.set_cons_zero, List.set_cons_succ, i64_w, i32_w]
                rfl
               refine pure_ (i := 9) (N := some 60) (v := ?_) (a' := ?_) #[true, true, true, true, true, true, true, true, true, true, false, true, false, false, false, false] rfl rfl (any_of HT_.out (by kernel_rfl)) (fun _ _ _ h => h) (Or.inl ⟨by rfl, ?_⟩) ?_ ?_
               rotate_left
               ·intro w'
                go_simp
                with_reducible rfl
               rotate_left
               ·simp only [Act.put, List.setIfInBounds_toArray, List.set_cons_zero, List.set_cons_succ, i64_w, i32_w]
                rfl
               refine pure_ (i := 10) (N := some 61) (v := ?_) (a' := ?_) #[true, true, true, true, true, true, true, true, true, true, true, true, false, false, false, false] rfl rfl (any_of HT_.out (by kernel_rfl)) (fun _ _ _ h => h) (Or.inl ⟨by rfl, ?_⟩) ?_ ?_
               rotate_left
               ·intro w'
                go_simp
                with_reducible rfl
               rotate_left
               ·simp only [Act.put, List.setIfInBounds_toArray, List.set_cons_zero, List.set_cons_succ, i64_w, i32_w]
                rfl
               refine pure_ (i := 12) (N := some 63) (v := ?_) (a' := ?_) #[true, true, true, true, true, true, true, true, true, true, true, true, true, false, false, false] rfl rfl (any_of HT_.out (by kernel_rfl)) (fun _ _ _ h => h) (Or.inl ⟨by rfl, ?_⟩) ?_ ?_
               rotate_left
               ·intro w'
                go_simp
                with_reducible rfl
               rotate_left
               ·simp only [Act.put, List.setIfInBounds_toArray, List.set_cons_zero, List.set_cons_succ, i64_w, i32_w]
                rfl
               refine one_ (i := 13) (N := some 64) #[true, true, true, true, true, true, true, true, true, true, true, true, true, true, false, false] rfl rfl (one_of HT_.out (by kernel_rfl)) (by decide) (fun K hK => ?_)
               refine value_ (w1 := ?_) (v := ?_) (by rfl) rfl ?_ ?_
               rotate_left 2
               ·go_simp
                constructor
                ·rfl
                ·rfl
               refine hK.out _ _ ⟨(blk_cell (blk_alloc BK141.out _) 0).trans rfl, (blk_cell (blk_alloc BK141.out _) 1).trans rfl, (blk_cell (blk_alloc BK141.out _) 2).trans rfl, (blk_cell (blk_alloc BK141.out _) 3).trans rfl, (blk_cell (blk_alloc BK141.out _) 4).trans rfl, (blk_cell (blk_alloc BK141.out _) 5).trans rfl, (blk_cell (blk_alloc BK141.out _) 6).trans rfl, (blk_cell (blk_alloc BK141.out _) 7).trans rfl, (blk_cell (blk_alloc BK141.out _) 8).trans rfl⟩ (fun hHeld => ?_)
               clear hK K
               refine norm_ (a' := ?_) ?_ ?_
               rotate_left
               ·show Act.put _ (some 64) _ = _
                simp only [Act.put, List.setIfInBounds_toArray, List.set_cons_zero, List.set_cons_succ, i64_w, i32_w]
                rfl
               refine one_ (i := 14) (N := some 65) #[true, true, true, true, true, true, true, true, true, true, true, true, true, true, true, false] rfl rfl (one_of HT_.out (by kernel_rfl)) (by decide) (fun K hK => ?_)
               refine Kd.R_append_step Kd.string (w0 := w) w.heap.size (by rfl) (.tmp 51) (.tmp 64) 48 9 (.string ⟨#[]⟩) 16 rfl Tryz.underlying48 info9 rfl (by decide) (by omega) u11 x11_2 (((t151 ++ t152) ++ (⟨#[32]⟩ : ByteArray)) ++ (rdOf ByteArray.empty x7_6 x44_2)) [.string (((t151 ++ t152) ++ (⟨#[32]⟩ : ByteArray)) ++ (rdOf ByteArray.empty x7_6 x44_2))] (fun k_ => (w.heap.size ≤ k_) ∧ some k_ ≠ (.slice (some ad150) x7_6.length co23 : Value).ownBlock) (fun _ => False) rfl rfl ?aP (fun _ hk => hk.elim) ?aF ?aO ?aB ?aS ?aL ?_
               (case aP => exact rfl)
               (case aB => exact (by repeat (first | (with_reducible first | exact HB.out | apply below_alloc | apply pw_below_drewN | apply below_drew1 | refine below_set ?_ GE141.out) | exact HB.out)))
               (case aF => exact (fun k_ hk => ⟨(Nat.le_trans (below_size (by repeat (first | (with_reducible first | exact HB.out | apply below_alloc | apply pw_below_drewN | apply below_drew1 | refine below_set ?_ GE141.out) | exact HB.out))) hk), Kd.fresh' (Kd.R_lt (by (with_reducible repeat (first | apply Kd.R_alloc | apply Kd.R_drewN | apply Kd.R_drew)); exact HO_42.out)) k_ hk⟩))
               (case aO => exact (by (with_reducible repeat (first | apply Kd.R_alloc | apply Kd.R_drewN | apply Kd.R_drew)); exact HO_11.out))
               (case aS => exact (below_size (by repeat (first | (with_reducible first | exact HB.out | apply below_alloc | apply pw_below_drewN | apply below_drew1 | refine below_set ?_ GE141.out) | exact HB.out))))
               (case aL => have := LMc33.out; omega)
               intro v154 w37 ho hb hg hat
               rw [← Ny153.out] at ho
               have n0_ := Aside0.mk (Kd.V_afterv (ok := (fun k_ => (P0_ k_ ∨ w.heap.size ≤ k_) ∧ some k_ ≠ (.slice (some ad150) x7_6.length co23 : Value).ownBlock ∧ k_ ≠ gb141)) (by (with_reducible repeat (first | apply Kd.V_alloc | apply Kd.V_drewN | apply Kd.V_drew)); exact Kd.V_mono HO_0.out (fun _ hk => ⟨⟨hk.1, ⟨hk.2.2.1, hk.2.2.2⟩⟩, hk.2.1⟩)) hg hat)
               have n1_ := Aside0.mk (Kd.R_after (ok := (fun k_ => (w.heap.size ≤ k_))) (by (with_reducible repeat (first | apply Kd.R_alloc | apply Kd.R_drewN | apply Kd.R_drew)); exact HO_42.out) hg hat)
               have n2_ := Aside0.mk (blk_grown (g := gb141) (o := .cells #[.int .i64 a2_0, .string a2_1, .string a2_2, .string a2_3, .string a2_4, .string a2_5, .string a2_6, .string a2_7, .string a2_8] 24 (0, 0)) (by (with_reducible repeat (first | refine blk_drewN ?_ _ | refine blk_drew ?_ | refine blk_alloc ?_ _)); exact BK141.out) hg (Kd.R_ne HO_11.out BK141.out (by decide)))
               have n3_ := Aside0.mk (hb)
               have n4_ := Aside0.mk (ho)
               clear HO_0
               clear HO_42
               clear BK141
               clear HB
               clear HO_11
               have HO_0 := n0_
               have HO_42 := n1_
               have BK141 := n2_
               have HB := n3_
               have HO155 := n4_
               clear n0_ n1_ n2_ n3_ n4_
               clear ho hb hg hat
               refine hK.out _ _ ⟨(blk_cell BK141.out 0).trans rfl, (blk_cell BK141.out 1).trans rfl, (blk_cell BK141.out 2).trans rfl, (blk_cell BK141.out 3).trans rfl, (blk_cell BK141.out 4).trans rfl, (blk_cell BK141.out 5).trans rfl, (blk_cell BK141.out 6).trans rfl, (blk_cell BK141.out 7).trans rfl, (blk_cell BK141.out 8).trans rfl⟩ (fun hHeld => ?_)
               clear hK K
               refine norm_ (a' := ?_) ?_ ?_
               rotate_left
               ·show Act.put _ (some 65) _ = _
                simp only [Act.put, List.setIfInBounds_toArray, List.set_cons_zero, List.set_cons_succ, i64_w, i32_w]
                rfl
               refine pure_ (i := 15) (N := some 11) (v := ?_) (a' := ?_) #[true, true, true, true, true, true, true, true, true, true, true, true, true, true, true, true] rfl rfl (any_of HT_.out (by kernel_rfl)) (fun _ _ _ h => h) (Or.inl ⟨by rfl, ?_⟩) ?_ ?_
               rotate_left
               ·intro w'
                go_simp
                with_reducible rfl
               rotate_left
               ·simp only [Act.put, List.setIfInBounds_toArray, List.set_cons_zero, List.set_cons_succ, i64_w, i32_w]
                rfl
               refine done_ (done_of HT_.out (by kernel_rfl)) ?_
               try go_wp2
               go_roundg k2
               case measure => have := HJ6.out; have := HK2.out; omega
               case rel => exact ⟨(y153), (wrap64 (x44_2 + 1)), (by first | rfl | (simp; done) | (simp [*]; done)), H', ⟨by have := HJ6.out; have := HK2.out; omega⟩, ⟨by (with_reducible repeat (first | apply Kd.V_alloc | apply Kd.V_drewN | apply Kd.V_drew)); exact Kd.V_mono HO_0.out (fun _ hk => ⟨hk.1.1, ⟨hk.2, ⟨hk.1.2.1, hk.1.2.2⟩⟩⟩)⟩, ⟨by (with_reducible repeat (first | apply Kd.R_alloc | apply Kd.R_drewN | apply Kd.R_drew)); exact HO155.out⟩, ⟨by (with_reducible repeat (first | apply Kd.R_alloc | apply Kd.R_drewN | apply Kd.R_drew)); exact HO_42.out⟩, ⟨by (with_reducible repeat (first | refine blk_drewN ?_ _ | refine blk_drew ?_ | refine blk_alloc ?_ _)); exact BK141.out⟩, ⟨by repeat (first | (with_reducible first | exact HB.out | apply below_alloc | apply pw_below_drewN | apply below_drew1 | refine below_set ?_ GE141.out) | exact HB.out)⟩⟩
              ·rw [if_neg c33] at H
               exact absurd H (by simp)
             ·rw [if_neg c32] at H
              exact absurd H (by simp)
            ·rw [if_neg c31] at H
             exact absurd H (by simp)
           ·rw [if_neg c30] at H
            exact absurd H (by simp)
          ·rw [if_neg c27] at H
           have c27b0 : (x44_2 == 0) = false := beq_eq_false_iff_ne.mpr c27
           have c27b1 : (x44_2 != 0) = true := bne_iff_ne.mpr c27
           replace H := Option.bind_eq_some_iff.mp H
           obtain ⟨t156, A380, H⟩ := H
           replace H : (if 0 ≤ a1 then (if a1 < (l0.length : Int) then ((spec_ltLink.f k2 l0 a1 ((rd_T43 l0 a1).f1) a2_0 a2_1 a2_2 a2_3 a2_4 a2_5 a2_6 a2_7 a2_8).bind fun t158 => (if t156.size + t158.size ≤ 9223372036854775807 then (if (t156 ++ t158).size + (rdOf ByteArray.empty x7_6 x44_2).size ≤ 9223372036854775807 then (if x11_2.length < 8796093022208 then (spec_LtLines.l1 k2 l0 a1 (x11_2 ++ [(t156 ++ t158) ++ (rdOf ByteArray.empty x7_6 x44_2)]) x7_6 (x7_6.length : Int) (wrap64 (x44_2 + 1)) a2_0 a2_1 a2_2 a2_3 a2_4 a2_5 a2_6 a2_7 a2_8) else (none)) else (none)) else (none))) else (none)) else (none)) = some r := H
           have A38 := Aside0.mk A380
           clear A380
           by_cases c39 : 0 ≤ a1
           ·rw [if_pos c39] at H
            have c39b0 : decide (0 ≤ a1) = true := decide_eq_true c39
            clear c39
            by_cases c40 : a1 < (l0.length : Int)
            ·rw [if_pos c40] at H
             have c40b0 : decide (a1 < (l0.length : Int)) = true := decide_eq_true c40
             clear c40
             replace H := Option.bind_eq_some_iff.mp H
             obtain ⟨t158, A410, H⟩ := H
             replace H : (if t156.size + t158.size ≤ 9223372036854775807 then (if (t156 ++ t158).size + (rdOf ByteArray.empty x7_6 x44_2).size ≤ 9223372036854775807 then (if x11_2.length < 8796093022208 then (spec_LtLines.l1 k2 l0 a1 (x11_2 ++ [(t156 ++ t158) ++ (rdOf ByteArray.empty x7_6 x44_2)]) x7_6 (x7_6.length : Int) (wrap64 (x44_2 + 1)) a2_0 a2_1 a2_2 a2_3 a2_4 a2_5 a2_6 a2_7 a2_8) else (none)) else (none)) else (none)) = some r := H
             have A41 := Aside0.mk A410
             clear A410
             by_cases c42 : t156.size + t158.size ≤ 9223372036854775807
             ·rw [if_pos c42] at H
              have c42b0 := eq_true c42
              have c42b1 : decide (t156.size + t158.size ≤ 9223372036854775807) = true := decide_eq_true c42
              try have c42b2 : (9223372036854775807 < t156.size + t158.size) = False := eq_false (Nat.not_lt.2 c42)
              by_cases c43 : (t156 ++ t158).size + (rdOf ByteArray.empty x7_6 x44_2).size ≤ 9223372036854775807
              ·rw [if_pos c43] at H
               have c43b0 := eq_true c43
               have c43b1 : decide ((t156 ++ t158).size + (rdOf ByteArray.empty x7_6 x44_2).size ≤ 9223372036854775807) = true := decide_eq_true c43
               try have c43b2 : (9223372036854775807 < (t156 ++ t158).size + (rdOf ByteArray.empty x7_6 x44_2).size) = False := eq_false (Nat.not_lt.2 c43)
               try have c43b3 : (9223372036854775807 < t156.size + t158.size + (rdOf ByteArray.empty x7_6 x44_2).size) = False := eq_false (by have h_ := c43; simp only [ByteArray.size_append', ByteArray.size_mk', ByteArray.size_extract, List.size_toArray, List.length_cons, List.length_nil] at h_; omega)
               by_cases c44 : x11_2.length < 8796093022208
               ·rw [if_pos c44] at H
                have LMc44 := Aside0.mk c44
                clear c44
                obtain ⟨y159, hy159⟩ : ∃ y_ : List ByteArray, y_ = (x11_2 ++ [(t156 ++ t158) ++ (rdOf ByteArray.empty x7_6 x44_2)]) := ⟨_, rfl⟩
                replace H : (spec_LtLines.l1 k2 l0 a1 y159 x7_6 (x7_6.length : Int) (wrap64 (x44_2 + 1)) a2_0 a2_1 a2_2 a2_3 a2_4 a2_5 a2_6 a2_7 a2_8) = some r := by first | (rw [hy159]; with_reducible exact H) | (have H2_ := (Option.bind_some _ _).symm.trans H; rw [hy159]; with_reducible exact H2_) | (have H2_ := (Option.bind_some _ _).symm.trans H; with_reducible exact H2_) | with_reducible exact H | (rw [hy159]; exact H) | exact H
                have Ny159 := Aside0.mk hy159
                clear hy159
                have H' := Aside0.mk H
                clear H
                have p150 : 0 ≤ (x44_2 : Int) := of_decide_eq_true (by first | (with_reducible assumption) | assumption)
                have q150 : x44_2 < (x7_6.length : Int) := of_decide_eq_true (by first | (with_reducible assumption) | assumption)
                obtain ⟨ad150, e150, hx150_0⟩ := Kd.at_string (Kd.R_reads' HO_42.out).2.2 x44_2 p150 q150
                cases e150
                replace p150 := eq_true p150
                replace q150 := eq_true q150
                try go_wp2
                have n0_ := Aside0.mk (Kd.V_drew HO_0.out)
                have n1_ := Aside0.mk (Kd.R_drew HO_11.out)
                have n2_ := Aside0.mk (Kd.R_drew HO_42.out)
                have n3_ := Aside0.mk (blk_drew BK141.out)
                have n4_ := Aside0.mk (below_drew1 HB.out)
                clear HO_0
                clear HO_11
                clear HO_42
                clear BK141
                clear HB
                have HO_0 := n0_
                have HO_11 := n1_
                have HO_42 := n2_
                have BK141 := n3_
                have HB := n4_
                clear n0_ n1_ n2_ n3_ n4_
                have p157 : 0 ≤ (a1 : Int) := of_decide_eq_true (by first | (with_reducible assumption) | assumption)
                have q157 : a1 < (l0.length : Int) := of_decide_eq_true (by first | (with_reducible assumption) | assumption)
                obtain ⟨ad157, e157, hx157_0, hx157_1⟩ := at_T43 (Kd.V_reads' HO_0.out).2.2 a1 p157 q157
                obtain rfl : ad142 = ad157 := (by injection e157)
                replace p157 := eq_true p157
                replace q157 := eq_true q157
                refine start_ (n := 20) (S := fun w' => w'.cell? ⟨gb141, 0, none⟩ = some (.int .i64 a2_0) ∧ w'.cell? ⟨gb141, 1, none⟩ = some (.string a2_1) ∧ w'.cell? ⟨gb141, 2, none⟩ = some (.string a2_2) ∧ w'.cell? ⟨gb141, 3, none⟩ = some (.string a2_3) ∧ w'.cell? ⟨gb141, 4, none⟩ = some (.string a2_4) ∧ w'.cell? ⟨gb141, 5, none⟩ = some (.string a2_5) ∧ w'.cell? ⟨gb141, 6, none⟩ = some (.string a2_6) ∧ w'.cell? ⟨gb141, 7, none⟩ = some (.string a2_7) ∧ w'.cell? ⟨gb141, 8, none⟩ = some (.string a2_8) ∧ w'.cell? (ad142.add ((a1).toNat * 2)) = some (.string ((rd_T43 l0 a1).f0)) ∧ w'.cell? ⟨(ad142.add ((a1).toNat * 2)).block, (ad142.add ((a1).toNat * 2)).off + 1, none⟩ = some (.int .i64 ((rd_T43 l0 a1).f1))) (ds := [17, 18]) #[false, false, false, false, false, false, false, false, false, false, false, false, false, false, false, false, false, false, false, false] (by kernel_rfl) rfl rfl ⟨(blk_cell BK141.out 0).trans rfl, (blk_cell BK141.out 1).trans rfl, (blk_cell BK141.out 2).trans rfl, (blk_cell BK141.out 3).trans rfl, (blk_cell BK141.out 4).trans rfl, (blk_cell BK141.out 5).trans rfl, (blk_cell BK141.out 6).trans rfl, (blk_cell BK141.out 7).trans rfl, (blk_cell BK141.out 8).trans rfl, hx157_0, hx157_1⟩ (fun hHeld => ?_); refine with_tabW spec_LtLines.tab18 spec_LtLines.bits18 (fun HT_ HW_ => ?_)
                generalize wr.drew = w45 at HO_0 HO_11 HO_42 BK141 HB hx157_0 hx157_1 hHeld ⊢
                refine pure_ (i := 0) (N := some 66) (v := ?_) (a' := ?_) #[true, false, false, false, false, false, false, false, false, false, false, false, false, false, false, false, false, false, false, false] rfl rfl (any_of HT_.out (by kernel_rfl)) (fun _ _ _ h => h) (Or.inl ⟨by rfl, ?_⟩) ?_ ?_
                rotate_left
                ·intro w'
                 go_simp
                 with_reducible rfl
                rotate_left
                ·simp only [Act.put, List.setIfInBounds_toArray, List.set_cons_zero, List.set_cons_succ, i64_w, i32_w]
                 rfl
                refine pure_ (i := 1) (N := some 67) (v := ?_) (a' := ?_) #[true, true, false, false, false, false, false, false, false, false, false, false, false, false, false, false, false, false, false, false] rfl rfl (any_of HT_.out (by kernel_rfl)) (fun _ _ _ h => h) (Or.inl ⟨by rfl, ?_⟩) ?_ ?_
                rotate_left
                ·intro w'
                 go_simp
                 with_reducible rfl
                rotate_left
                ·simp only [Act.put, List.setIfInBounds_toArray, List.set_cons_zero, List.set_cons_succ, i64_w, i32_w]
                 rfl
                refine pure_ (i := 2) (N := some 68) (v := ?_) (a' := ?_) #[true, true, true, false, false, false, false, false, false, false, false, false, false, false, false, false, false, false, false, false] rfl rfl (any_of HT_.out (by kernel_rfl)) (fun _ _ _ h => h) (Or.inl ⟨by rfl, ?_⟩) ?_ ?_
                rotate_left
                ·intro w'
                 go_simp
                 with_reducible rfl
                rotate_left
                ·simp only [Act.put, List.setIfInBounds_toArray, List.set_cons_zero, List.set_cons_succ, i64_w, i32_w]
                 rfl
                refine pure_ (i := 5) (N := some 71) (v := ?_) (a' := ?_) #[true, true, true, false, false, true, false, false, false, false, false, false, false, false, false, false, false, false, false, false] rfl rfl (any_of HT_.out (by kernel_rfl)) (fun _ _ _ h => h) (Or.inl ⟨by rfl, ?_⟩) ?_ ?_
                rotate_left
                ·intro w'
                 go_simp
                 with_reducible rfl
                rotate_left
                ·simp only [Act.put, List.setIfInBounds_toArray, List.set_cons_zero, List.set_cons_succ, i64_w, i32_w]
                 rfl
                refine pure_ (i := 6) (N := some 72) (v := ?_) (a' := ?_) #[true, true, true, false, false, true, true, false, false, false, false, false, false, false, false, false, false, false, false, false] rfl rfl (any_of HT_.out (by kernel_rfl)) (fun _ _ _ h => h) (Or.inl ⟨by rfl, ?_⟩) ?_ ?_
                rotate_left
                ·intro w'
                 go_simp
                 with_reducible rfl
                rotate_left
                ·simp only [Act.put, List.setIfInBounds_toArray, List.set_cons_zero, List.set_cons_succ, i64_w, i32_w]
                 rfl
                refine pure_ (i := 7) (N := some 73) (v := ?_) (a' := ?_) #[true, true, true, false, false, true, true, true, false, false, false, false, false, false, false, false, false, false, false, false] rfl rfl (any_of HT_.out (by kernel_rfl)) (fun _ _ _ h => h) (Or.inl ⟨by rfl, ?_⟩) ?_ ?_
                rotate_left
                ·intro w'
                 go_simp
                 with_reducible rfl
                rotate_left
                ·simp only [Act.put, List.setIfInBounds_toArray, List.set_cons_zero, List.set_cons_succ, i64_w, i32_w]
                 rfl
                refine pure_ (i := 8) (N := some 74) (v := ?_) (a' := ?_) #[true, true, true, false, false, true, true, true, true, false, false, false, false, false, false, false, false, false, false, false] rfl rfl (any_of HT_.out (by kernel_rfl)) (fun _ _ _ h => h) (Or.inl ⟨by rfl, ?_⟩) ?_ ?_
                rotate_left
                ·intro w'
                 go_simp
                 with_reducible rfl
                rotate_left
                ·simp only [Act.put, List.setIfInBounds_toArray, List.set_cons_zero, List.set_cons_succ, i64_w, i32_w]
                 rfl
                refine pure_ (i := 9) (N := some 75) (v := ?_) (a' := ?_) #[true, true, true, false, false, true, true, true, true, true, false, false, false, false, false, false, false, false, false, false] rfl rfl (any_of HT_.out (by kernel_rfl)) (fun _ _ _ h => h) (Or.inl ⟨by rfl, ?_⟩) ?_ ?_
                rotate_left
                ·intro w'
                 go_simp
                 with_reducible rfl
                rotate_left
                ·simp only [Act.put, List.setIfInBounds_toArray, List.set_cons_zero, List.set_cons_succ, i64_w, i32_w]
                 rfl
                refine pure_ (i := 10) (N := some 76) (v := ?_) (a' := ?_) #[true, true, true, false, false, true, true, true, true, true, true, false, false, false, false, false, false, false, false, false] rfl rfl (any_of HT_.out (by kernel_rfl)) (fun _ _ _ h => h) (Or.inl ⟨by rfl, ?_⟩) ?_ ?_
                rotate_left
                ·intro w'
                 go_simp
                 with_reducible rfl
                rotate_left
                ·simp only [Act.put, List.setIfInBounds_toArray, List.set_cons_zero, List.set_cons_succ, i64_w, i32_w]
                 rfl
                refine pure_ (i := 15) (N := some 81) (v := ?_) (a' := ?_) #[true, true, true, false, false, true, true, true, true, true, true, false, false, false, false, true, false, false, false, false] rfl rfl (any_of HT_.out (by kernel_rfl)) (fun _ _ _ h => h) (Or.inl ⟨by rfl, ?_⟩) ?_ ?_
                rotate_left
                ·intro w'
                 go_simp
                 with_reducible rfl
                rotate_left
                ·simp only [Act.put, List.setIfInBounds_toArray, List.set_cons_zero, List.set_cons_succ, i64_w, i32_w]
                 rfl
                refine take_ (i := 3) (N := some 69) (v := ?_) (a' := ?_) #[true, true, true, true, false, true, true, true, true, true, true, false, false, false, false, true, false, false, false, false] rfl rfl (take_ofW HT_.out HW_.out (by kernel_rfl)) (fun _ _ _ h => h) (Or.inl ⟨by rfl, ?_⟩) hHeld ?_ ?_
                rotate_left
                ·rintro w' ⟨s0, s1, s2, s3, s4, s5, s6, s7, s8, s9, s10⟩
                 go_simp
                 with_reducible rfl
                rotate_left
                ·simp only [Act.put, List.setIfInBounds_toArray, List.set_cons_zero, List.set_cons_succ, i64_w, i32_w]
                 rfl
                refine take_ (i := 11) (N := some 77) (v := ?_) (a' := ?_) #[true, true, true, true, false, true, true, true, true, true, true, true, false, false, false, true, false, false, false, false] rfl rfl (take_ofW HT_.out HW_.out (by kernel_rfl)) (fun _ _ _ h => h) (Or.inl ⟨by rfl, ?_⟩) hHeld ?_ ?_
                rotate_left
                ·rintro w' ⟨s0, s1, s2, s3, s4, s5, s6, s7, s8, s9, s10⟩
                 go_simp
                 with_reducible rfl
                rotate_left
                ·simp only [Act.put, List.setIfInBounds_toArray, List.set_cons_zero, List.set_cons_succ, i64_w, i32_w]
                 rfl
                refine take_ (i := 12) (N := some 78) (v := ?_) (a' := ?_) #[true, true, true, true, false, true, true, true, true, true, true, true, true, false, false, true, false, false, false, false] rfl rfl (take_ofW HT_.out HW_.out (by kernel_rfl)) (fun _ _ _ h => h) (Or.inl ⟨by rfl, ?_⟩) hHeld ?_ ?_
                rotate_left
                ·rintro w' ⟨s0, s1, s2, s3, s4, s5, s6, s7, s8, s9, s10⟩
                 go_simp
                 with_reducible rfl
                rotate_left
                ·simp only [Act.put, List.setIfInBounds_toArray, List.set_cons_zero, List.set_cons_succ, i64_w, i32_w]
                 rfl
                refine one_ (i := 4) (N := some 70) #[true, true, true, true, true, true, true, true, true, true, true, true, true, false, false, true, false, false, false, false] rfl rfl (one_of HT_.out (by kernel_rfl)) (by decide) (fun K hK => ?_)
                refine goes_ Tryz.func75 (by kernel_rfl) rfl #[.slice (some ad142) l0.length c0, .int .i64 a1, .agg #[.int .i64 a2_0, .string a2_1, .string a2_2, .string a2_3, .string a2_4, .string a2_5, .string a2_6, .string a2_7, .string a2_8]] (by rfl) rfl rfl (by (try simp only [List.map_toArray, List.map_cons, List.map_nil]); first | done | rfl | (simp only [List.length_drop, List.length_take]; rfl)) ?_
                with_reducible refine (spec_LtAhead.calls k2 _ _ l0 a1 a2_0 a2_1 a2_2 a2_3 a2_4 a2_5 a2_6 a2_7 a2_8 t156 _ ?side1 ?side2 A38.out).mono ?_
                (case side1 => repeat (first | exact (Kd.V_reads' HO_0.out).2.2 | (with_reducible refine Kd.C_alloc ?_ _) | (with_reducible refine Kd.C_drewN ?_ _) | (with_reducible refine Kd.C_drew ?_)))
                (case side2 => exact (Kd.V_reads' HO_0.out).2.1)
                rintro e w46 ⟨rfl, hb⟩
                have HS9_ := (hb.cell (World.block_lt_of_cell? _ _ (hHeld.2.2.2.2.2.2.2.2.2.1))).trans (hHeld.2.2.2.2.2.2.2.2.2.1)
                have HS10_ := (hb.cell (World.block_lt_of_cell? _ _ (hHeld.2.2.2.2.2.2.2.2.2.2))).trans (hHeld.2.2.2.2.2.2.2.2.2.2)
                refine ⟨_, rfl, ?_⟩
                have n0_ := Aside0.mk (Kd.V_below (by (with_reducible repeat (first | apply Kd.V_alloc | apply Kd.V_drewN | apply Kd.V_drew)); exact HO_0.out) hb)
                have n1_ := Aside0.mk (Kd.R_below (by (with_reducible repeat (first | apply Kd.R_alloc | apply Kd.R_drewN | apply Kd.R_drew)); exact HO_11.out) hb)
                have n2_ := Aside0.mk (Kd.R_below (by (with_reducible repeat (first | apply Kd.R_alloc | apply Kd.R_drewN | apply Kd.R_drew)); exact HO_42.out) hb)
                have n3_ := Aside0.mk (blk_below (g := gb141) (o := .cells #[.int .i64 a2_0, .string a2_1, .string a2_2, .string a2_3, .string a2_4, .string a2_5, .string a2_6, .string a2_7, .string a2_8] 24 (0, 0)) (by (with_reducible repeat (first | refine blk_drewN ?_ _ | refine blk_drew ?_ | refine blk_alloc ?_ _)); exact BK141.out) hb)
                have n4_ := Aside0.mk (below_step (by repeat (first | (with_reducible first | exact HB.out | apply below_alloc | apply pw_below_drewN | apply below_drew1 | refine below_set ?_ GE141.out) | exact HB.out)) hb)
                clear HO_0
                clear HO_11
                clear HO_42
                clear BK141
                clear HB
                have HO_0 := n0_
                have HO_11 := n1_
                have HO_42 := n2_
                have BK141 := n3_
                have HB := n4_
                clear n0_ n1_ n2_ n3_ n4_
                (try clear hb)
                (try clear hb2)
                (try clear hk)
                (try clear hi)
                refine hK.out _ _ ⟨(blk_cell BK141.out 0).trans rfl, (blk_cell BK141.out 1).trans rfl, (blk_cell BK141.out 2).trans rfl, (blk_cell BK141.out 3).trans rfl, (blk_cell BK141.out 4).trans rfl, (blk_cell BK141.out 5).trans rfl, (blk_cell BK141.out 6).trans rfl, (blk_cell BK141.out 7).trans rfl, (blk_cell BK141.out 8).trans rfl, HS9_, HS10_⟩ (fun hHeld => ?_)
                clear hK K
                refine norm_ (a' := ?_) ?_ ?_
                rotate_left
                ·show Act.put _ (some 70) _ = _
                 simp only [Act.put, List.setIfInBounds_toArray, List.set_cons_zero, List.set_cons_succ, i64_w, i32_w]
                 rfl
                refine one_ (i := 13) (N := some 79) #[true, true, true, true, true, true, true, true, true, true, true, true, true, true, false, true, false, false, false, false] rfl rfl (one_of HT_.out (by kernel_rfl)) (by decide) (fun K hK => ?_)
                refine goes_ Tryz.func77 (by kernel_rfl) rfl #[.slice (some ad142) l0.length c0, .int .i64 a1, .int .i64 ((rd_T43 l0 a1).f1), .agg #[.int .i64 a2_0, .string a2_1, .string a2_2, .string a2_3, .string a2_4, .string a2_5, .string a2_6, .string a2_7, .string a2_8]] (by rfl) rfl rfl (by (try simp only [List.map_toArray, List.map_cons, List.map_nil]); first | done | rfl | (simp only [List.length_drop, List.length_take]; rfl)) ?_
                with_reducible refine (spec_ltLink.calls k2 _ _ l0 a1 ((rd_T43 l0 a1).f1) a2_0 a2_1 a2_2 a2_3 a2_4 a2_5 a2_6 a2_7 a2_8 t158 _ ?side1 ?side2 A41.out).mono ?_
                (case side1 => repeat (first | exact (Kd.V_reads' HO_0.out).2.2 | (with_reducible refine Kd.C_alloc ?_ _) | (with_reducible refine Kd.C_drewN ?_ _) | (with_reducible refine Kd.C_drew ?_)))
                (case side2 => exact (Kd.V_reads' HO_0.out).2.1)
                rintro e w47 ⟨rfl, hb⟩
                have HS9_ := (hb.cell (World.block_lt_of_cell? _ _ (hHeld.2.2.2.2.2.2.2.2.2.1))).trans (hHeld.2.2.2.2.2.2.2.2.2.1)
                have HS10_ := (hb.cell (World.block_lt_of_cell? _ _ (hHeld.2.2.2.2.2.2.2.2.2.2))).trans (hHeld.2.2.2.2.2.2.2.2.2.2)
                refine ⟨_, rfl, ?_⟩
                have n0_ := Aside0.mk (Kd.V_below (by (with_reducible repeat (first | apply Kd.V_alloc | apply Kd.V_drewN | apply Kd.V_drew)); exact HO_0.out) hb)
                have n1_ := Aside0.mk (Kd.R_below (by (with_reducible repeat (first | apply Kd.R_alloc | apply Kd.R_drewN | apply Kd.R_drew)); exact HO_11.out) hb)
                have n2_ := Aside0.mk (Kd.R_below (by (with_reducible repeat (first | apply Kd.R_alloc | apply Kd.R_drewN | apply Kd.R_drew)); exact HO_42.out) hb)
                have n3_ := Aside0.mk (blk_below (g := gb141) (o := .cells #[.int .i64 a2_0, .string a2_1, .string a2_2, .string a2_3, .string a2_4, .string a2_5, .string a2_6, .string a2_7, .string a2_8] 24 (0, 0)) (by (with_reducible repeat (first | refine blk_drewN ?_ _ | refine blk_drew ?_ | refine blk_alloc ?_ _)); exact BK141.out) hb)
                have n4_ := Aside0.mk (below_step (by repeat (first | (with_reducible first | exact HB.out | apply below_alloc | apply pw_below_drewN | apply below_drew1 | refine below_set ?_ GE141.out) | exact HB.out)) hb)
                clear HO_0
                clear HO_11
                clear HO_42
                clear BK141
                clear HB
                have HO_0 := n0_
                have HO_11 := n1_
                have HO_42 := n2_
                have BK141 := n3_
                have HB := n4_
                clear n0_ n1_ n2_ n3_ n4_
                (try clear hb)
                (try clear hb2)
                (try clear hk)
                (try clear hi)
                refine hK.out _ _ ⟨(blk_cell BK141.out 0).trans rfl, (blk_cell BK141.out 1).trans rfl, (blk_cell BK141.out 2).trans rfl, (blk_cell BK141.out 3).trans rfl, (blk_cell BK141.out 4).trans rfl, (blk_cell BK141.out 5).trans rfl, (blk_cell BK141.out 6).trans rfl, (blk_cell BK141.out 7).trans rfl, (blk_cell BK141.out 8).trans rfl, HS9_, HS10_⟩ (fun hHeld => ?_)
                clear hK K
                refine norm_ (a' := ?_) ?_ ?_
                rotate_left
                ·show Act.put _ (some 79) _ = _
                 simp only [Act.put, List.setIfInBounds_toArray, List.set_cons_zero, List.set_cons_succ, i64_w, i32_w]
                 rfl
                refine pure_ (i := 14) (N := some 80) (v := ?_) (a' := ?_) #[true, true, true, true, true, true, true, true, true, true, true, true, true, true, true, true, false, false, false, false] rfl rfl (any_of HT_.out (by kernel_rfl)) (fun _ _ _ h => h) (Or.inl ⟨by rfl, ?_⟩) ?_ ?_
                rotate_left
                ·intro w'
                 go_simp
                 with_reducible rfl
                rotate_left
                ·simp only [Act.put, List.setIfInBounds_toArray, List.set_cons_zero, List.set_cons_succ, i64_w, i32_w]
                 rfl
                refine pure_ (i := 16) (N := some 82) (v := ?_) (a' := ?_) #[true, true, true, true, true, true, true, true, true, true, true, true, true, true, true, true, true, false, false, false] rfl rfl (any_of HT_.out (by kernel_rfl)) (fun _ _ _ h => h) (Or.inl ⟨by rfl, ?_⟩) ?_ ?_
                rotate_left
                ·intro w'
                 go_simp
                 with_reducible rfl
                rotate_left
                ·simp only [Act.put, List.setIfInBounds_toArray, List.set_cons_zero, List.set_cons_succ, i64_w, i32_w]
                 rfl
                refine last_ (i := 17) (N := some 83) #[true, true, true, true, true, true, true, true, true, true, true, true, true, true, true, true, true, true, false, false] rfl rfl (one_of HT_.out (by kernel_rfl)) (by decide) (fun K hK => ?_)
                refine value_ (w1 := ?_) (v := ?_) (by rfl) rfl ?_ ?_
                rotate_left 2
                ·go_simp
                 constructor
                 ·rfl
                 ·rfl
                refine hK.out _ _ ?_
                clear hK K
                refine norm_ (a' := ?_) ?_ ?_
                rotate_left
                ·show Act.put _ (some 83) _ = _
                 simp only [Act.put, List.setIfInBounds_toArray, List.set_cons_zero, List.set_cons_succ, i64_w, i32_w]
                 rfl
                refine last_ (i := 18) (N := some 84) #[true, true, true, true, true, true, true, true, true, true, true, true, true, true, true, true, true, true, true, false] rfl rfl (one_of HT_.out (by kernel_rfl)) (by decide) (fun K hK => ?_)
                refine Kd.R_append_step Kd.string (w0 := w) w.heap.size (by rfl) (.tmp 66) (.tmp 83) 48 9 (.string ⟨#[]⟩) 16 rfl Tryz.underlying48 info9 rfl (by decide) (by omega) u11 x11_2 ((t156 ++ t158) ++ (rdOf ByteArray.empty x7_6 x44_2)) [.string ((t156 ++ t158) ++ (rdOf ByteArray.empty x7_6 x44_2))] (fun k_ => (w.heap.size ≤ k_) ∧ some k_ ≠ (.slice (some ad150) x7_6.length co23 : Value).ownBlock) (fun _ => False) rfl rfl ?aP (fun _ hk => hk.elim) ?aF ?aO ?aB ?aS ?aL ?_
                (case aP => exact rfl)
                (case aB => exact (by repeat (first | (with_reducible first | exact HB.out | apply below_alloc | apply pw_below_drewN | apply below_drew1 | refine below_set ?_ GE141.out) | exact HB.out)))
                (case aF => exact (fun k_ hk => ⟨(Nat.le_trans (below_size (by repeat (first | (with_reducible first | exact HB.out | apply below_alloc | apply pw_below_drewN | apply below_drew1 | refine below_set ?_ GE141.out) | exact HB.out))) hk), Kd.fresh' (Kd.R_lt (by (with_reducible repeat (first | apply Kd.R_alloc | apply Kd.R_drewN | apply Kd.R_drew)); exact HO_42.out)) k_ hk⟩))
                (case aO => exact (by (with_reducible repeat (first | apply Kd.R_alloc | apply Kd.R_drewN | apply Kd.R_drew)); exact HO_11.out))
                (case aS => exact (below_size (by repeat (first | (with_reducible first | exact HB.out | apply below_alloc | apply pw_below_drewN | apply below_drew1 | refine below_set ?_ GE141.out) | exact HB.out))))
                (case aL => have := LMc44.out; omega)
                intro v160 w48 ho hb hg hat
                rw [← Ny159.out] at ho
                have n0_ := Aside0.mk (Kd.V_afterv (ok := (fun k_ => (P0_ k_ ∨ w.heap.size ≤ k_) ∧ some k_ ≠ (.slice (some ad150) x7_6.length co23 : Value).ownBlock ∧ k_ ≠ gb141)) (by (with_reducible repeat (first | apply Kd.V_alloc | apply Kd.V_drewN | apply Kd.V_drew)); exact Kd.V_mono HO_0.out (fun _ hk => ⟨⟨hk.1, ⟨hk.2.2.1, hk.2.2.2⟩⟩, hk.2.1⟩)) hg hat)
                have n1_ := Aside0.mk (Kd.R_after (ok := (fun k_ => (w.heap.size ≤ k_))) (by (with_reducible repeat (first | apply Kd.R_alloc | apply Kd.R_drewN | apply Kd.R_drew)); exact HO_42.out) hg hat)
                have n2_ := Aside0.mk (blk_grown (g := gb141) (o := .cells #[.int .i64 a2_0, .string a2_1, .string a2_2, .string a2_3, .string a2_4, .string a2_5, .string a2_6, .string a2_7, .string a2_8] 24 (0, 0)) (by (with_reducible repeat (first | refine blk_drewN ?_ _ | refine blk_drew ?_ | refine blk_alloc ?_ _)); exact BK141.out) hg (Kd.R_ne HO_11.out BK141.out (by decide)))
                have n3_ := Aside0.mk (hb)
                have n4_ := Aside0.mk (ho)
                clear HO_0
                clear HO_42
                clear BK141
                clear HB
                clear HO_11
                have HO_0 := n0_
                have HO_42 := n1_
                have BK141 := n2_
                have HB := n3_
                have HO161 := n4_
                clear n0_ n1_ n2_ n3_ n4_
                clear ho hb hg hat
                refine hK.out _ _ ?_
                clear hK K
                refine norm_ (a' := ?_) ?_ ?_
                rotate_left
                ·show Act.put _ (some 84) _ = _
                 simp only [Act.put, List.setIfInBounds_toArray, List.set_cons_zero, List.set_cons_succ, i64_w, i32_w]
                 rfl
                refine pure_ (i := 19) (N := some 11) (v := ?_) (a' := ?_) #[true, true, true, true, true, true, true, true, true, true, true, true, true, true, true, true, true, true, true, true] rfl rfl (any_of HT_.out (by kernel_rfl)) (fun _ _ _ h => h) (Or.inl ⟨by rfl, ?_⟩) ?_ ?_
                rotate_left
                ·intro w'
                 go_simp
                 with_reducible rfl
                rotate_left
                ·simp only [Act.put, List.setIfInBounds_toArray, List.set_cons_zero, List.set_cons_succ, i64_w, i32_w]
                 rfl
                refine done_ (done_of HT_.out (by kernel_rfl)) ?_
                try go_wp2
                go_roundg k2
                case measure => have := HJ6.out; have := HK2.out; omega
                case rel => exact ⟨(y159), (wrap64 (x44_2 + 1)), (by first | rfl | (simp; done) | (simp [*]; done)), H', ⟨by have := HJ6.out; have := HK2.out; omega⟩, ⟨by (with_reducible repeat (first | apply Kd.V_alloc | apply Kd.V_drewN | apply Kd.V_drew)); exact Kd.V_mono HO_0.out (fun _ hk => ⟨hk.1.1, ⟨hk.2, ⟨hk.1.2.1, hk.1.2.2⟩⟩⟩)⟩, ⟨by (with_reducible repeat (first | apply Kd.R_alloc | apply Kd.R_drewN | apply Kd.R_drew)); exact HO161.out⟩, ⟨by (with_reducible repeat (first | apply Kd.R_alloc | apply Kd.R_drewN | apply Kd.R_drew)); exact HO_42.out⟩, ⟨by (with_reducible repeat (first | refine blk_drewN ?_ _ | refine blk_drew ?_ | refine blk_alloc ?_ _)); exact BK141.out⟩, ⟨by repeat (first | (with_reducible first | exact HB.out | apply below_alloc | apply pw_below_drewN | apply below_drew1 | refine below_set ?_ GE141.out) | exact HB.out)⟩⟩
               ·rw [if_neg c44] at H
                exact absurd H (by simp)
              ·rw [if_neg c43] at H
               exact absurd H (by simp)
             ·rw [if_neg c42] at H
              exact absurd H (by simp)
            ·rw [if_neg c40] at H
             exact absurd H (by simp)
           ·rw [if_neg c39] at H
            exact absurd H (by simp)
         ·rw [if_neg c26] at H
          exact absurd H (by simp)
        ·rw [if_neg c25] at H
         exact absurd H (by simp)
       ·rw [if_neg c24] at H
        have c24b0 : decide (x44_2 < (x7_6.length : Int)) = false := decide_eq_false c24
        clear c24
        obtain rfl := Option.some.inj H
        go_wp2
        go_ret
        exact ⟨_, by first | rfl | (simp [errW_none, errW_some] <;> rfl) | (simp [*, errW_none, errW_some] <;> rfl), by (with_reducible repeat (first | apply Kd.R_alloc | apply Kd.R_drewN | apply Kd.R_drew)); exact Kd.R_mono HO_11.out (fun _ hk => hk.1), by repeat (first | (with_reducible first | exact HB.out | apply below_alloc | apply pw_below_drewN | apply below_drew1 | refine below_set ?_ GE141.out) | exact HB.out)⟩
  ·rw [if_neg c5] at H
   exact absurd H (by simp)
 ·rw [if_neg c4] at H
  exact absurd H (by simp)

end Go.Proofs.YtejjjenjnfaopaaGreatDoor.P
namespace Go.Proofs.YtejjjenjnfaopaaGreatDoor.P
open Go.RowKit Go.Proofs.YtejjjenjnfaopaaGreatDoorW.PrintWords Go.Proofs.YtejjjenjnfaopaaGreatDoorW.PrintLast Go.Proofs.YtejjjenjnfaopaaGreatDoorW.PrintMore
attribute [local go_sem] max2_int min2_int max_two min_two max_three min_three max_four min_four   -- for this text's walks alone
set_option linter.unusedVariables false
set_option linter.unusedSimpArgs false

/-! ### spec_LtDrawn: function 27 -/
mutual
def spec_LtDrawn.l0 : Nat → List (S43) → ByteArray → Int → Int → Int → ByteArray → ByteArray → ByteArray → ByteArray → ByteArray → ByteArray → ByteArray → ByteArray → Option (ByteArray)
 | 0, _, _, _, _, _, _, _, _, _, _, _, _, _ => none
 | k + 1, x0, x5, x10, x11, x163000, x163001, x163002, x163003, x163004, x163005, x163006, x163007, x163008 => if x11 < x10 then ((spec_LtLines.f k x0 x11 x163000 x163001 x163002 x163003 x163004 x163005 x163006 x163007 x163008).bind fun t163 => (spec_LtDrawn.l1 k x0 x5 x11 x10 x11 t163 (t163.length : Int) 0 x163000 x163001 x163002 x163003 x163004 x163005 x163006 x163007 x163008)) else (some x5)
def spec_LtDrawn.l1 : Nat → List (S43) → ByteArray → Int → Int → Int → List ByteArray → Int → Int → Int → ByteArray → ByteArray → ByteArray → ByteArray → ByteArray → ByteArray → ByteArray → ByteArray → Option (ByteArray)
 | 0, _, _, _, _, _, _, _, _, _, _, _, _, _, _, _, _, _ => none
 | k + 1, x0, x5, x6, x10, x11, x17, x18, x19, x163000, x163001, x163002, x163003, x163004, x163005, x163006, x163007, x163008 => if x19 < x18 then (if 0 ≤ x19 then (if x19 < (x17.length : Int) then (if x6 > 0 then (if x5.size + 1 ≤ 9223372036854775807 then (if (x5 ++ (⟨#[10]⟩ : ByteArray)).size + (rdOf ByteArray.empty x17 x19).size ≤ 9223372036854775807 then (spec_LtDrawn.l1 k x0 ((x5 ++ (⟨#[10]⟩ : ByteArray)) ++ (rdOf ByteArray.empty x17 x19)) x6 x10 x11 x17 x18 (wrap64 (x19 + 1)) x163000 x163001 x163002 x163003 x163004 x163005 x163006 x163007 x163008) else (none)) else (none)) else (if x19 > 0 then (if x5.size + 1 ≤ 9223372036854775807 then (if (x5 ++ (⟨#[10]⟩ : ByteArray)).size + (rdOf ByteArray.empty x17 x19).size ≤ 9223372036854775807 then (spec_LtDrawn.l1 k x0 ((x5 ++ (⟨#[10]⟩ : ByteArray)) ++ (rdOf ByteArray.empty x17 x19)) x6 x10 x11 x17 x18 (wrap64 (x19 + 1)) x163000 x163001 x163002 x163003 x163004 x163005 x163006 x163007 x163008) else (none)) else (none)) else (if x5.size + (rdOf ByteArray.empty x17 x19).size ≤ 9223372036854775807 then (spec_LtDrawn.l1 k x0 (x5 ++ (rdOf ByteArray.empty x17 x19)) x6 x10 x11 x17 x18 (wrap64 (x19 + 1)) x163000 x163001 x163002 x163003 x163004 x163005 x163006 x163007 x163008) else (none)))) else (none)) else (none)) else (spec_LtDrawn.l0 k x0 x5 x10 (wrap64 (x11 + 1)) x163000 x163001 x163002 x163003 x163004 x163005 x163006 x163007 x163008)
end
def spec_LtDrawn.f (k : Nat) (l0 : List (S43)) (a1_0 : Int) (a1_1 : ByteArray) (a1_2 : ByteArray) (a1_3 : ByteArray) (a1_4 : ByteArray) (a1_5 : ByteArray) (a1_6 : ByteArray) (a1_7 : ByteArray) (a1_8 : ByteArray) : Option (ByteArray) := spec_LtDrawn.l0 k l0 (⟨#[]⟩ : ByteArray) (l0.length : Int) 0 a1_0 a1_1 a1_2 a1_3 a1_4 a1_5 a1_6 a1_7 a1_8
theorem spec_LtDrawn.mono_l : ∀ k, (∀ y0 y1 y2 y3 y4 y5 y6 y7 y8 y9 y10 y11 y12, LeO (spec_LtDrawn.l0 k y0 y1 y2 y3 y4 y5 y6 y7 y8 y9 y10 y11 y12) (spec_LtDrawn.l0 (k + 1) y0 y1 y2 y3 y4 y5 y6 y7 y8 y9 y10 y11 y12)) ∧ (∀ y0 y1 y2 y3 y4 y5 y6 y7 y8 y9 y10 y11 y12 y13 y14 y15 y16, LeO (spec_LtDrawn.l1 k y0 y1 y2 y3 y4 y5 y6 y7 y8 y9 y10 y11 y12 y13 y14 y15 y16) (spec_LtDrawn.l1 (k + 1) y0 y1 y2 y3 y4 y5 y6 y7 y8 y9 y10 y11 y12 y13 y14 y15 y16))
 | 0 => ⟨fun _ _ _ _ _ _ _ _ _ _ _ _ _ r h => by simp [spec_LtDrawn.l0] at h, fun _ _ _ _ _ _ _ _ _ _ _ _ _ _ _ _ _ r h => by simp [spec_LtDrawn.l1] at h⟩
 | k + 1 => by
  obtain ⟨ih0, ih1⟩ := spec_LtDrawn.mono_l k
  refine ⟨?_, ?_⟩
  ·intro y0 y1 y2 y3 y4 y5 y6 y7 y8 y9 y10 y11 y12
   unfold spec_LtDrawn.l0
   repeat' first
   | (with_reducible exact ih0 _ _ _ _ _ _ _ _ _ _ _ _ _)
   | (with_reducible exact ih1 _ _ _ _ _ _ _ _ _ _ _ _ _ _ _ _ _)
   | (with_reducible exact spec_LtLines.mono _ _ _ _ _ _ _ _ _ _ _ _)
   | (with_reducible exact LeO.refl _)
   | (with_reducible exact LeO.none _)
   | (with_reducible refine LeO.ite ?_ ?_)
   | (with_reducible refine LeO.bind ?_ (fun _ => ?_))
   | exact ih0 _ _ _ _ _ _ _ _ _ _ _ _ _
   | exact ih1 _ _ _ _ _ _ _ _ _ _ _ _ _ _ _ _ _
   | exact spec_LtLines.mono _ _ _ _ _ _ _ _ _ _ _ _
   | exact LeO.none _
   | refine LeO.ite ?_ ?_
   | refine LeO.bind ?_ (fun _ => ?_)
  ·intro y0 y1 y2 y3 y4 y5 y6 y7 y8 y9 y10 y11 y12 y13 y14 y15 y16
   unfold spec_LtDrawn.l1
   repeat' first
   | (with_reducible exact ih0 _ _ _ _ _ _ _ _ _ _ _ _ _)
   | (with_reducible exact ih1 _ _ _ _ _ _ _ _ _ _ _ _ _ _ _ _ _)
   | (with_reducible exact spec_LtLines.mono _ _ _ _ _ _ _ _ _ _ _ _)
   | (with_reducible exact LeO.refl _)
   | (with_reducible exact LeO.none _)
   | (with_reducible refine LeO.ite ?_ ?_)
   | (with_reducible refine LeO.bind ?_ (fun _ => ?_))
   | exact ih0 _ _ _ _ _ _ _ _ _ _ _ _ _
   | exact ih1 _ _ _ _ _ _ _ _ _ _ _ _ _ _ _ _ _
   | exact spec_LtLines.mono _ _ _ _ _ _ _ _ _ _ _ _
   | exact LeO.none _
   | refine LeO.ite ?_ ?_
   | refine LeO.bind ?_ (fun _ => ?_)
theorem spec_LtDrawn.mono : ∀ a0 a1 a2 a3 a4 a5 a6 a7 a8 a9 k, LeO (spec_LtDrawn.f k a0 a1 a2 a3 a4 a5 a6 a7 a8 a9) (spec_LtDrawn.f (k + 1) a0 a1 a2 a3 a4 a5 a6 a7 a8 a9) := by
 intro a0 a1 a2 a3 a4 a5 a6 a7 a8 a9 k
 obtain ⟨ih0, ih1⟩ := spec_LtDrawn.mono_l k
 unfold spec_LtDrawn.f
 repeat' first
   | (with_reducible exact ih0 _ _ _ _ _ _ _ _ _ _ _ _ _)
   | (with_reducible exact ih1 _ _ _ _ _ _ _ _ _ _ _ _ _ _ _ _ _)
   | (with_reducible exact spec_LtLines.mono _ _ _ _ _ _ _ _ _ _ _ _)
   | (with_reducible exact LeO.refl _)
   | (with_reducible exact LeO.none _)
   | (with_reducible refine LeO.ite ?_ ?_)
   | (with_reducible refine LeO.bind ?_ (fun _ => ?_))
   | exact ih0 _ _ _ _ _ _ _ _ _ _ _ _ _
   | exact ih1 _ _ _ _ _ _ _ _ _ _ _ _ _ _ _ _ _
   | exact spec_LtLines.mono _ _ _ _ _ _ _ _ _ _ _ _
   | exact LeO.none _
   | refine LeO.ite ?_ ?_
   | refine LeO.bind ?_ (fun _ => ?_)
set_option maxHeartbeats 8000000 in
set_option maxRecDepth 100000 in
theorem spec_LtDrawn.calls (k : Nat) (A0 : Option Addr) (c0 : Nat) (l0 : List (S43)) (a1_0 : Int) (a1_1 : ByteArray) (a1_2 : ByteArray) (a1_3 : ByteArray) (a1_4 : ByteArray) (a1_5 : ByteArray) (a1_6 : ByteArray) (a1_7 : ByteArray) (a1_8 : ByteArray) (r : ByteArray) (w : World) (hr0 : Kd.C k43 w A0 l0.length l0) (hc0 : l0.length ≤ c0) (h : spec_LtDrawn.f k l0 a1_0 a1_1 a1_2 a1_3 a1_4 a1_5 a1_6 a1_7 a1_8 = some r) :
  Calls Tryz.prog 27 #[.slice A0 l0.length c0, .agg #[.int .i64 a1_0, .string a1_1, .string a1_2, .string a1_3, .string a1_4, .string a1_5, .string a1_6, .string a1_7, .string a1_8]] w fun e w' => e = .returned (.string r) ∧ Below w.heap.size w w' := by
 have hu24 := Tryz.underlying24
 have HR0 := Aside0.mk hr0
 have HC0 := Aside0.mk hc0
 clear hr0 hc0
 have HB := Aside0.mk (Below.refl w.heap.size w)
 have H : (spec_LtDrawn.l0 k l0 (⟨#[]⟩ : ByteArray) (l0.length : Int) 0 a1_0 a1_1 a1_2 a1_3 a1_4 a1_5 a1_6 a1_7 a1_8) = some r := h
 clear h
 have H' := Aside0.mk H
 clear H
 go_enter Tryz.func27, Tryz.ntmps27
 go_wp2_with (first | ((with_reducible refine gate_dst (N := 3) rfl ?_); refine box_event ?hg (N := 3) ?hd (cs := #[.int .i64 a1_0, .string a1_1, .string a1_2, .string a1_3, .string a1_4, .string a1_5, .string a1_6, .string a1_7, .string a1_8]) (t := 24) ?hr ?_; (case hd => rfl); (case hg => rfl); (case hr => first | (go_simp; done) | (go_simp; rfl)); intro gb162 hg w3 hbox hb; have n0_ := Aside0.mk (below_step (by repeat (first | (with_reducible first | exact HB.out | apply below_alloc | apply pw_below_drewN | apply below_drew1) | exact HB.out)) hb); have n1_ := Aside0.mk (hbox); have n2_ := Aside0.mk ((by rw [hg]; exact (below_size (by repeat (first | (with_reducible first | exact HB.out | apply below_alloc | apply pw_below_drewN | apply below_drew1) | exact HB.out))) : w.heap.size ≤ gb162)); have n3_ := Aside0.mk ((by rw [hg]; exact (below_size (by repeat (first | (with_reducible first | exact HB.out | apply below_alloc | apply pw_below_drewN | apply below_drew1) | exact HB.out))) : w.heap.size ≤ gb162)); clear HB; have HB := n0_; have BK162 := n1_; have GW162 := n2_; have GE162 := n3_; clear n0_ n1_ n2_ n3_; clear hb hbox hg))
 go_loopg [5, 11] k (fun kq v5 v11 w' => ∃ (x5_1 : ByteArray) (x11_1 : Int), v5 = .string x5_1 ∧ v11 = .int .i64 x11_1 ∧ Aside0 (spec_LtDrawn.l0 kq l0 x5_1 (l0.length : Int) x11_1 a1_0 a1_1 a1_2 a1_3 a1_4 a1_5 a1_6 a1_7 a1_8 = some r) ∧ Aside0 (kq ≤ k) ∧ Aside0 (w'.heap[gb162]? = some (.cells #[.int .i64 a1_0, .string a1_1, .string a1_2, .string a1_3, .string a1_4, .string a1_5, .string a1_6, .string a1_7, .string a1_8] 24 (0, 0))) ∧ Aside0 (Below w.heap.size w w'))
 case atStart => exact ⟨((⟨#[]⟩ : ByteArray)), (0), (by first | rfl | (simp; done) | (simp [*]; done)), (by first | rfl | (simp; done) | (simp [*]; done)), H', ⟨Nat.le_refl _⟩, ⟨by (with_reducible repeat (first | refine blk_drewN ?_ _ | refine blk_drew ?_ | refine blk_alloc ?_ _)); exact BK162.out⟩, ⟨by repeat (first | (with_reducible first | exact HB.out | apply below_alloc | apply pw_below_drewN | apply below_drew1 | refine below_set ?_ GE162.out) | exact HB.out)⟩⟩
 case round =>
  clear H'
  try clear c2
  try clear p2
  obtain ⟨x5_1, x11_1, rfl, rfl, HA, HK1, BK162, HB⟩ := hrel
  cases gk with
  | zero => exact absurd HA.out (by simp [spec_LtDrawn.l0])
  | succ k1 =>
   have H := HA.out
   clear HA
   simp only [spec_LtDrawn.l0] at H
   by_cases c4 : x11_1 < (l0.length : Int)
   ·rw [if_pos c4] at H
    have c4b0 : decide (x11_1 < (l0.length : Int)) = true := decide_eq_true c4
    clear c4
    replace H := Option.bind_eq_some_iff.mp H
    obtain ⟨t163, A50, H⟩ := H
    replace H : (spec_LtDrawn.l1 k1 l0 x5_1 x11_1 (l0.length : Int) x11_1 t163 (t163.length : Int) 0 a1_0 a1_1 a1_2 a1_3 a1_4 a1_5 a1_6 a1_7 a1_8) = some r := H
    have A5 := Aside0.mk A50
    clear A50
    have H' := Aside0.mk H
    clear H
    have hcz6_0 : wr.cell? ⟨gb162, 0, none⟩ = some (.int .i64 a1_0) := (blk_cell BK162.out 0).trans rfl
    have hcz6_1 : wr.cell? ⟨gb162, 1, none⟩ = some (.string a1_1) := (blk_cell BK162.out 1).trans rfl
    have hcz6_2 : wr.cell? ⟨gb162, 2, none⟩ = some (.string a1_2) := (blk_cell BK162.out 2).trans rfl
    have hcz6_3 : wr.cell? ⟨gb162, 3, none⟩ = some (.string a1_3) := (blk_cell BK162.out 3).trans rfl
    have hcz6_4 : wr.cell? ⟨gb162, 4, none⟩ = some (.string a1_4) := (blk_cell BK162.out 4).trans rfl
    have hcz6_5 : wr.cell? ⟨gb162, 5, none⟩ = some (.string a1_5) := (blk_cell BK162.out 5).trans rfl
    have hcz6_6 : wr.cell? ⟨gb162, 6, none⟩ = some (.string a1_6) := (blk_cell BK162.out 6).trans rfl
    have hcz6_7 : wr.cell? ⟨gb162, 7, none⟩ = some (.string a1_7) := (blk_cell BK162.out 7).trans rfl
    have hcz6_8 : wr.cell? ⟨gb162, 8, none⟩ = some (.string a1_8) := (blk_cell BK162.out 8).trans rfl
    have hfz6_0 := blk_frozen BK162.out 0
    have hfz6_1 := blk_frozen BK162.out 1
    have hfz6_2 := blk_frozen BK162.out 2
    have hfz6_3 := blk_frozen BK162.out 3
    have hfz6_4 := blk_frozen BK162.out 4
    have hfz6_5 := blk_frozen BK162.out 5
    have hfz6_6 := blk_frozen BK162.out 6
    have hfz6_7 := blk_frozen BK162.out 7
    have hfz6_8 := blk_frozen BK162.out 8
    go_wp2_with (first | ((with_reducible refine gate_callee (f := 56) rfl ?_); refine goesL_ (some 17) rfl rfl Tryz.func56 (by kernel_rfl) rfl #[.slice A0 l0.length c0, .int .i64 x11_1, .agg #[.int .i64 a1_0, .string a1_1, .string a1_2, .string a1_3, .string a1_4, .string a1_5, .string a1_6, .string a1_7, .string a1_8]] rfl (by (try simp only [List.map_toArray, List.map_cons, List.map_nil]); first | done | rfl | (simp only [List.length_drop, List.length_take]; rfl)) ?_; (with_reducible refine (spec_LtLines.calls k1 (fun k_ => k_ < w.heap.size) _ _ l0 x11_1 a1_0 a1_1 a1_2 a1_3 a1_4 a1_5 a1_6 a1_7 a1_8 t163 _ ?side1 A5.out).mono ?_); (case side1 => exact Kd.V_mk HC0.out (Kd.F_below (Kd.C_F k43_heap HR0.out) (by repeat (first | (with_reducible first | exact HB.out | apply below_alloc | apply pw_below_drewN | apply below_drew1 | refine below_set ?_ GE162.out) | exact HB.out)))); rintro e w7 ⟨v164, rfl, ho0, hb⟩; refine ⟨_, rfl, ?_⟩; have n0_ := Aside0.mk (Kd.R_lower (Kd.R_mono (ok' := fun k_ => True) ho0 (fun _ hk_ => trivial)) (below_size (by repeat (first | (with_reducible first | exact HB.out | apply below_alloc | apply pw_below_drewN | apply below_drew1 | refine below_set ?_ GE162.out) | exact HB.out)))); have n1_ := Aside0.mk (blk_below (g := gb162) (o := .cells #[.int .i64 a1_0, .string a1_1, .string a1_2, .string a1_3, .string a1_4, .string a1_5, .string a1_6, .string a1_7, .string a1_8] 24 (0, 0)) (by (with_reducible repeat (first | refine blk_drewN ?_ _ | refine blk_drew ?_ | refine blk_alloc ?_ _)); exact BK162.out) hb); have n2_ := Aside0.mk (below_step (by repeat (first | (with_reducible first | exact HB.out | apply below_alloc | apply pw_below_drewN | apply below_drew1 | refine below_set ?_ GE162.out) | exact HB.out)) hb); clear BK162; clear HB; have HO165 := n0_; have BK162 := n1_; have HB := n2_; clear n0_ n1_ n2_; (try clear hb); (try clear hb2); (try clear hk); (try clear hi); (try clear ho0); obtain ⟨Ao8, co8, eo8⟩ := Kd.R_slice HO165.out; subst eo8))
    go_loopg [5, 19] k1 (fun kq v5 v19 w' => ∃ (x5_2 : ByteArray) (x19_2 : Int), v5 = .string x5_2 ∧ v19 = .int .i64 x19_2 ∧ Aside0 (spec_LtDrawn.l1 kq l0 x5_2 x11_1 (l0.length : Int) x11_1 t163 (t163.length : Int) x19_2 a1_0 a1_1 a1_2 a1_3 a1_4 a1_5 a1_6 a1_7 a1_8 = some r) ∧ Aside0 (kq ≤ k1) ∧ Aside0 (Kd.R Kd.string 9 w' w.heap.size (fun _ => True) (.slice Ao8 t163.length co8) t163) ∧ Aside0 (w'.heap[gb162]? = some (.cells #[.int .i64 a1_0, .string a1_1, .string a1_2, .string a1_3, .string a1_4, .string a1_5, .string a1_6, .string a1_7, .string a1_8] 24 (0, 0))) ∧ Aside0 (Below w.heap.size w w'))
    case atStart => exact ⟨(x5_1), (0), (by first | rfl | (simp; done) | (simp [*]; done)), (by first | rfl | (simp; done) | (simp [*]; done)), H', ⟨Nat.le_refl _⟩, ⟨by (with_reducible repeat (first | apply Kd.R_alloc | apply Kd.R_drewN | apply Kd.R_drew)); exact HO165.out⟩, ⟨by (with_reducible repeat (first | refine blk_drewN ?_ _ | refine blk_drew ?_ | refine blk_alloc ?_ _)); exact BK162.out⟩, ⟨by repeat (first | (with_reducible first | exact HB.out | apply below_alloc | apply pw_below_drewN | apply below_drew1 | refine below_set ?_ GE162.out) | exact HB.out)⟩⟩
    case round =>
     clear H'
     try clear c2
     try clear p2
     try clear c4
     try clear c4b0
     try clear c5
     try clear hcz6_0
     try clear hcz6_1
     try clear hcz6_2
     try clear hcz6_3
     try clear hcz6_4
     try clear hcz6_5
     try clear hcz6_6
     try clear hcz6_7
     try clear hcz6_8
     try clear hfz6_0
     try clear hfz6_1
     try clear hfz6_2
     try clear hfz6_3
     try clear hfz6_4
     try clear hfz6_5
     try clear hfz6_6
     try clear hfz6_7
     try clear hfz6_8
     try clear p2
     obtain ⟨x5_2, x19_2, rfl, rfl, HA, HK2, HO_17, BK162, HB⟩ := hrel
     cases gk with
     | zero => exact absurd HA.out (by simp [spec_LtDrawn.l1])
     | succ k2 =>
      have H := HA.out
      clear HA
      simp only [spec_LtDrawn.l1] at H
      by_cases c9 : x19_2 < (t163.length : Int)
      ·rw [if_pos c9] at H
       have c9b0 : decide (x19_2 < (t163.length : Int)) = true := decide_eq_true c9
       clear c9
       by_cases c10 : 0 ≤ x19_2
       ·rw [if_pos c10] at H
        have c10b0 : decide (0 ≤ x19_2) = true := decide_eq_true c10
        clear c10
        by_cases c11 : x19_2 < (t163.length : Int)
        ·rw [if_pos c11] at H
         have c11b0 : decide (x19_2 < (t163.length : Int)) = true := decide_eq_true c11
         clear c11
         by_cases c12 : x11_1 > 0
         ·rw [if_pos c12] at H
          have c12b0 : decide (0 < x11_1) = true := decide_eq_true c12
          clear c12
          by_cases c13 : x5_2.size + 1 ≤ 9223372036854775807
          ·rw [if_pos c13] at H
           have c13b0 := eq_true c13
           have c13b1 : decide (x5_2.size + 1 ≤ 9223372036854775807) = true := decide_eq_true c13
           try have c13b2 : (9223372036854775807 < x5_2.size + 1) = False := eq_false (Nat.not_lt.2 c13)
           by_cases c14 : (x5_2 ++ (⟨#[10]⟩ : ByteArray)).size + (rdOf ByteArray.empty t163 x19_2).size ≤ 9223372036854775807
           ·rw [if_pos c14] at H
            have c14b0 := eq_true c14
            have c14b1 : decide ((x5_2 ++ (⟨#[10]⟩ : ByteArray)).size + (rdOf ByteArray.empty t163 x19_2).size ≤ 9223372036854775807) = true := decide_eq_true c14
            try have c14b2 : (9223372036854775807 < (x5_2 ++ (⟨#[10]⟩ : ByteArray)).size + (rdOf ByteArray.empty t163 x19_2).size) = False := eq_false (Nat.not_lt.2 c14)
            try have c14b3 : (9223372036854775807 < x5_2.size + 1 + (rdOf ByteArray.empty t163 x19_2).size) = False := eq_false (by have h_ := c14; simp only [ByteArray.size_append', ByteArray.size_mk', ByteArray.size_extract, List.size_toArray, List.length_cons, List.length_nil] at h_; omega)
            have H' := Aside0.mk H
            clear H
            have p166 : 0 ≤ (x19_2 : Int) := of_decide_eq_true (by first | (with_reducible assumption) | assumption)
            have q166 : x19_2 < (t163.length : Int) := of_decide_eq_true (by first | (with_reducible assumption) | assumption)
            obtain ⟨ad166, e166, hx166_0⟩ := Kd.at_string (Kd.R_reads' HO_17.out).2.2 x19_2 p166 q166
            cases e166
            replace p166 := eq_true p166
            replace q166 := eq_true q166
            go_wp2
            go_roundg k2
            case measure => have := HK1.out; have := HK2.out; omega
            case rel => exact ⟨((x5_2 ++ (⟨#[10]⟩ : ByteArray)) ++ (rdOf ByteArray.empty t163 x19_2)), (wrap64 (x19_2 + 1)), (by first | rfl | (simp; done) | (simp [*]; done)), (by first | rfl | (simp; done) | (simp [*]; done)), H', ⟨by have := HK1.out; have := HK2.out; omega⟩, ⟨by (with_reducible repeat (first | apply Kd.R_alloc | apply Kd.R_drewN | apply Kd.R_drew)); exact HO_17.out⟩, ⟨by (with_reducible repeat (first | refine blk_drewN ?_ _ | refine blk_drew ?_ | refine blk_alloc ?_ _)); exact BK162.out⟩, ⟨by repeat (first | (with_reducible first | exact HB.out | apply below_alloc | apply pw_below_drewN | apply below_drew1 | refine below_set ?_ GE162.out) | exact HB.out)⟩⟩
           ·rw [if_neg c14] at H
            exact absurd H (by simp)
          ·rw [if_neg c13] at H
           exact absurd H (by simp)
         ·rw [if_neg c12] at H
          have c12b0 : decide (0 < x11_1) = false := decide_eq_false c12
          clear c12
          by_cases c15 : x19_2 > 0
          ·rw [if_pos c15] at H
           have c15b0 : decide (0 < x19_2) = true := decide_eq_true c15
           clear c15
           by_cases c16 : x5_2.size + 1 ≤ 9223372036854775807
           ·rw [if_pos c16] at H
            have c16b0 := eq_true c16
            have c16b1 : decide (x5_2.size + 1 ≤ 9223372036854775807) = true := decide_eq_true c16
            try have c16b2 : (9223372036854775807 < x5_2.size + 1) = False := eq_false (Nat.not_lt.2 c16)
            by_cases c17 : (x5_2 ++ (⟨#[10]⟩ : ByteArray)).size + (rdOf ByteArray.empty t163 x19_2).size ≤ 9223372036854775807
            ·rw [if_pos c17] at H
             have c17b0 := eq_true c17
             have c17b1 : decide ((x5_2 ++ (⟨#[10]⟩ : ByteArray)).size + (rdOf ByteArray.empty t163 x19_2).size ≤ 9223372036854775807) = true := decide_eq_true c17
             try have c17b2 : (9223372036854775807 < (x5_2 ++ (⟨#[10]⟩ : ByteArray)).size + (rdOf ByteArray.empty t163 x19_2).size) = False := eq_false (Nat.not_lt.2 c17)
             try have c17b3 : (9223372036854775807 < x5_2.size + 1 + (rdOf ByteArray.empty t163 x19_2).size) = False := eq_false (by have h_ := c17; simp only [ByteArray.size_append', ByteArray.size_mk', ByteArray.size_extract, List.size_toArray, List.length_cons, List.length_nil] at h_; omega)
             have H' := Aside0.mk H
             clear H
             have p166 : 0 ≤ (x19_2 : Int) := of_decide_eq_true (by first | (with_reducible assumption) | assumption)
             have q166 : x19_2 < (t163.length : Int) := of_decide_eq_true (by first | (with_reducible assumption) | assumption)
             obtain ⟨ad166, e166, hx166_0⟩ := Kd.at_string (Kd.R_reads' HO_17.out).2.2 x19_2 p166 q166
             cases e166
             replace p166 := eq_true p166
             replace q166 := eq_true q166
             go_wp2
             go_roundg k2
             case measure => have := HK1.out; have := HK2.out; omega
             case rel => exact ⟨((x5_2 ++ (⟨#[10]⟩ : ByteArray)) ++ (rdOf ByteArray.empty t163 x19_2)), (wrap64 (x19_2 + 1)), (by first | rfl | (simp; done) | (simp [*]; done)), (by first | rfl | (simp; done) | (simp [*]; done)), H', ⟨by have := HK1.out; have := HK2.out; omega⟩, ⟨by (with_reducible repeat (first | apply Kd.R_alloc | apply Kd.R_drewN | apply Kd.R_drew)); exact HO_17.out⟩, ⟨by (with_reducible repeat (first | refine blk_drewN ?_ _ | refine blk_drew ?_ | refine blk_alloc ?_ _)); exact BK162.out⟩, ⟨by repeat (first | (with_reducible first | exact HB.out | apply below_alloc | apply pw_below_drewN | apply below_drew1 | refine below_set ?_ GE162.out) | exact HB.out)⟩⟩
            ·rw [if_neg c17] at H
             exact absurd H (by simp)
           ·rw [if_neg c16] at H
            exact absurd H (by simp)
          ·rw [if_neg c15] at H
           have c15b0 : decide (0 < x19_2) = false := decide_eq_false c15
           clear c15
           by_cases c18 : x5_2.size + (rdOf ByteArray.empty t163 x19_2).size ≤ 9223372036854775807
           ·rw [if_pos c18] at H
            have c18b0 := eq_true c18
            have c18b1 : decide (x5_2.size + (rdOf ByteArray.empty t163 x19_2).size ≤ 9223372036854775807) = true := decide_eq_true c18
            try have c18b2 : (9223372036854775807 < x5_2.size + (rdOf ByteArray.empty t163 x19_2).size) = False := eq_false (Nat.not_lt.2 c18)
            have H' := Aside0.mk H
            clear H
            have p166 : 0 ≤ (x19_2 : Int) := of_decide_eq_true (by first | (with_reducible assumption) | assumption)
            have q166 : x19_2 < (t163.length : Int) := of_decide_eq_true (by first | (with_reducible assumption) | assumption)
            obtain ⟨ad166, e166, hx166_0⟩ := Kd.at_string (Kd.R_reads' HO_17.out).2.2 x19_2 p166 q166
            cases e166
            replace p166 := eq_true p166
            replace q166 := eq_true q166
            go_wp2
            go_roundg k2
            case measure => have := HK1.out; have := HK2.out; omega
            case rel => exact ⟨(x5_2 ++ (rdOf ByteArray.empty t163 x19_2)), (wrap64 (x19_2 + 1)), (by first | rfl | (simp; done) | (simp [*]; done)), (by first | rfl | (simp; done) | (simp [*]; done)), H', ⟨by have := HK1.out; have := HK2.out; omega⟩, ⟨by (with_reducible repeat (first | apply Kd.R_alloc | apply Kd.R_drewN | apply Kd.R_drew)); exact HO_17.out⟩, ⟨by (with_reducible repeat (first | refine blk_drewN ?_ _ | refine blk_drew ?_ | refine blk_alloc ?_ _)); exact BK162.out⟩, ⟨by repeat (first | (with_reducible first | exact HB.out | apply below_alloc | apply pw_below_drewN | apply below_drew1 | refine below_set ?_ GE162.out) | exact HB.out)⟩⟩
           ·rw [if_neg c18] at H
            exact absurd H (by simp)
        ·rw [if_neg c11] at H
         exact absurd H (by simp)
       ·rw [if_neg c10] at H
        exact absurd H (by simp)
      ·rw [if_neg c9] at H
       have c9b0 : decide (x19_2 < (t163.length : Int)) = false := decide_eq_false c9
       clear c9
       have H' := Aside0.mk H
       clear H
       go_wp2
       go_roundg k2
       case measure => have := HK1.out; have := HK2.out; omega
       case rel => exact ⟨(x5_2), (wrap64 (x11_1 + 1)), (by first | rfl | (simp; done) | (simp [*]; done)), (by first | rfl | (simp; done) | (simp [*]; done)), H', ⟨by have := HK1.out; have := HK2.out; omega⟩, ⟨by (with_reducible repeat (first | refine blk_drewN ?_ _ | refine blk_drew ?_ | refine blk_alloc ?_ _)); exact BK162.out⟩, ⟨by repeat (first | (with_reducible first | exact HB.out | apply below_alloc | apply pw_below_drewN | apply below_drew1 | refine below_set ?_ GE162.out) | exact HB.out)⟩⟩
   ·rw [if_neg c4] at H
    have c4b0 : decide (x11_1 < (l0.length : Int)) = false := decide_eq_false c4
    clear c4
    obtain rfl := Option.some.inj H
    go_wp2
    go_ret
    exact ⟨by first | rfl | (simp [errW_none, errW_some] <;> rfl) | (have e_ : ∀ l_ : List UInt8, (l_ != []) = !l_.isEmpty := fun l_ => (by cases l_ <;> rfl); simp [errW_none, errW_some, e_]; done) | (simp [*, errW_none, errW_some] <;> rfl), by repeat (first | (with_reducible first | exact HB.out | apply below_alloc | apply pw_below_drewN | apply below_drew1 | refine below_set ?_ GE162.out) | exact HB.out)⟩

-- FOREIGN: function 28 (spec_LtNamed)

/-! ### laws_FnListsNamed: function 5 -/
mutual
def laws_FnListsNamed.j0 : Nat → List (S50) → Int → List (S43) → Bool → Option (Bool)
 | 0, _, _, _, _ => none
 | k + 1, x0, x1, x5, x30 => if x30 = true then (some true) else (laws_FnListsNamed.l0 k x0 x1 x5 x5 (x5.length : Int) 0)
def laws_FnListsNamed.l0 : Nat → List (S50) → Int → List (S43) → List (S43) → Int → Int → Option (Bool)
 | 0, _, _, _, _, _, _ => none
 | k + 1, x0, x1, x5, x31, x32, x33 => if x33 < x32 then (if 0 ≤ x33 then (if x33 < (x31.length : Int) then ((spec_TxSimple.f ((rd_T43 x31 x33).f0) false).bind fun t176 => (if t176 = true then (laws_FnListsNamed.l0 k x0 x1 x5 x31 x32 (wrap64 (x33 + 1))) else (some true))) else (none)) else (none)) else ((impl_ListNamed.f (wrap64 (Int.tmod x1 11))).bind fun bt177 => ((impl_ListRender.f x0 bt177.1 bt177.2.1 bt177.2.2.1 bt177.2.2.2.1 bt177.2.2.2.2.1 bt177.2.2.2.2.2.1 bt177.2.2.2.2.2.2.1 bt177.2.2.2.2.2.2.2.1 bt177.2.2.2.2.2.2.2.2).bind fun t186 => ((spec_LtNamed.f (wrap64 (Int.tmod x1 11))).bind fun bt187 => ((spec_LtDrawn.f k x5 bt187.1 bt187.2.1 bt187.2.2.1 bt187.2.2.2.1 bt187.2.2.2.2.1 bt187.2.2.2.2.2.1 bt187.2.2.2.2.2.2.1 bt187.2.2.2.2.2.2.2.1 bt187.2.2.2.2.2.2.2.2).bind fun t196 => (some (t186.toList == t196.toList))))))
end
def laws_FnListsNamed.f (k : Nat) (l0 : List (S50)) (a1 : Int) : Option (Bool) := (laws_zzFits11.f k l0).bind fun t167 => (if t167 = true then ((spec_LtPlayed.f k l0).bind fun t168 => ((spec_LtRight.f k l0).bind fun t171 => (if t171 = true then (if (t168.length : Int) = 0 then (laws_FnListsNamed.j0 k l0 a1 t168 true) else (if 0 < (t168.length : Int) then ((spec_LsMore.f k t168 0 ((rd_T43 t168 0).f1)).bind fun t173 => (laws_FnListsNamed.j0 k l0 a1 t168 (!t173))) else (none))) else (laws_FnListsNamed.j0 k l0 a1 t168 true)))) else (some true))
theorem laws_FnListsNamed.mono_l : ∀ k, (∀ y0 y1 y2 y3, LeO (laws_FnListsNamed.j0 k y0 y1 y2 y3) (laws_FnListsNamed.j0 (k + 1) y0 y1 y2 y3)) ∧ (∀ y0 y1 y2 y3 y4 y5, LeO (laws_FnListsNamed.l0 k y0 y1 y2 y3 y4 y5) (laws_FnListsNamed.l0 (k + 1) y0 y1 y2 y3 y4 y5))
 | 0 => ⟨fun _ _ _ _ r h => by simp [laws_FnListsNamed.j0] at h, fun _ _ _ _ _ _ r h => by simp [laws_FnListsNamed.l0] at h⟩
 | k + 1 => by
  obtain ⟨ih0, ih1⟩ := laws_FnListsNamed.mono_l k
  refine ⟨?_, ?_⟩
  ·intro y0 y1 y2 y3
   unfold laws_FnListsNamed.j0
   repeat' first
   | (with_reducible exact ih0 _ _ _ _)
   | (with_reducible exact ih1 _ _ _ _ _ _)
   | (with_reducible exact laws_zzFits11.mono _ _)
   | (with_reducible exact spec_LsMore.mono _ _ _ _)
   | (with_reducible exact spec_LtDrawn.mono _ _ _ _ _ _ _ _ _ _ _)
   | (with_reducible exact spec_LtPlayed.mono _ _)
   | (with_reducible exact spec_LtRight.mono _ _)
   | (with_reducible exact LeO.refl _)
   | (with_reducible exact LeO.none _)
   | (with_reducible refine LeO.ite ?_ ?_)
   | (with_reducible refine LeO.bind ?_ (fun _ => ?_))
   | exact ih0 _ _ _ _
   | exact ih1 _ _ _ _ _ _
   | exact laws_zzFits11.mono _ _
   | exact spec_LsMore.mono _ _ _ _
   | exact spec_LtDrawn.mono _ _ _ _ _ _ _ _ _ _ _
   | exact spec_LtPlayed.mono _ _
   | exact spec_LtRight.mono _ _
   | exact LeO.none _
   | refine LeO.ite ?_ ?_
   | refine LeO.bind ?_ (fun _ => ?_)
  ·intro y0 y1 y2 y3 y4 y5
   unfold laws_FnListsNamed.l0
   repeat' first
   | (with_reducible exact ih0 _ _ _ _)
   | (with_reducible exact ih1 _ _ _ _ _ _)
   | (with_reducible exact laws_zzFits11.mono _ _)
   | (with_reducible exact spec_LsMore.mono _ _ _ _)
   | (with_reducible exact spec_LtDrawn.mono _ _ _ _ _ _ _ _ _ _ _)
   | (with_reducible exact spec_LtPlayed.mono _ _)
   | (with_reducible exact spec_LtRight.mono _ _)
   | (with_reducible exact LeO.refl _)
   | (with_reducible exact LeO.none _)
   | (with_reducible refine LeO.ite ?_ ?_)
   | (with_reducible refine LeO.bind ?_ (fun _ => ?_))
   | exact ih0 _ _ _ _
   | exact ih1 _ _ _ _ _ _
   | exact laws_zzFits11.mono _ _
   | exact spec_LsMore.mono _ _ _ _
   | exact spec_LtDrawn.mono _ _ _ _ _ _ _ _ _ _ _
   | exact spec_LtPlayed.mono _ _
   | exact spec_LtRight.mono _ _
   | exact LeO.none _
   | refine LeO.ite ?_ ?_
   | refine LeO.bind ?_ (fun _ => ?_)
theorem laws_FnListsNamed.mono : ∀ a0 a1 k, LeO (laws_FnListsNamed.f k a0 a1) (laws_FnListsNamed.f (k + 1) a0 a1) := by
 intro a0 a1 k
 obtain ⟨ih0, ih1⟩ := laws_FnListsNamed.mono_l k
 unfold laws_FnListsNamed.f
 repeat' first
   | (with_reducible exact ih0 _ _ _ _)
   | (with_reducible exact ih1 _ _ _ _ _ _)
   | (with_reducible exact laws_zzFits11.mono _ _)
   | (with_reducible exact spec_LsMore.mono _ _ _ _)
   | (with_reducible exact spec_LtDrawn.mono _ _ _ _ _ _ _ _ _ _ _)
   | (with_reducible exact spec_LtPlayed.mono _ _)
   | (with_reducible exact spec_LtRight.mono _ _)
   | (with_reducible exact LeO.refl _)
   | (with_reducible exact LeO.none _)
   | (with_reducible refine LeO.ite ?_ ?_)
   | (with_reducible refine LeO.bind ?_ (fun _ => ?_))
   | exact ih0 _ _ _ _
   | exact ih1 _ _ _ _ _ _
   | exact laws_zzFits11.mono _ _
   | exact spec_LsMore.mono _ _ _ _
   | exact spec_LtDrawn.mono _ _ _ _ _ _ _ _ _ _ _
   | exact spec_LtPlayed.mono _ _
   | exact spec_LtRight.mono _ _
   | exact LeO.none _
   | refine LeO.ite ?_ ?_
   | refine LeO.bind ?_ (fun _ => ?_)
set_option maxHeartbeats 8000000 in
set_option maxRecDepth 100000 in
theorem laws_FnListsNamed.calls (k : Nat) (A0 : Option Addr) (c0 : Nat) (l0 : List (S50)) (a1 : Int) (r : Bool) (w : World) (hr0 : Kd.C k50 w A0 l0.length l0) (hc0 : l0.length ≤ c0) (h : laws_FnListsNamed.f k l0 a1 = some r) :
  Calls Tryz.prog 5 #[.slice A0 l0.length c0, .int .u8 a1] w fun e w' => e = .returned (.bool r) ∧ Below w.heap.size w w' := by
 have hu43 := Tryz.underlying43
 have HR0 := Aside0.mk hr0
 have HC0 := Aside0.mk hc0
 clear hr0 hc0
 have HB := Aside0.mk (Below.refl w.heap.size w)
 have H : ((laws_zzFits11.f k l0).bind fun t167 => (if t167 = true then ((spec_LtPlayed.f k l0).bind fun t168 => ((spec_LtRight.f k l0).bind fun t171 => (if t171 = true then (if (t168.length : Int) = 0 then (laws_FnListsNamed.j0 k l0 a1 t168 true) else (if 0 < (t168.length : Int) then ((spec_LsMore.f k t168 0 ((rd_T43 t168 0).f1)).bind fun t173 => (laws_FnListsNamed.j0 k l0 a1 t168 (!t173))) else (none))) else (laws_FnListsNamed.j0 k l0 a1 t168 true)))) else (some true))) = some r := h
 clear h
 replace H := Option.bind_eq_some_iff.mp H
 obtain ⟨t167, A30, H⟩ := H
 replace H : (if t167 = true then ((spec_LtPlayed.f k l0).bind fun t168 => ((spec_LtRight.f k l0).bind fun t171 => (if t171 = true then (if (t168.length : Int) = 0 then (laws_FnListsNamed.j0 k l0 a1 t168 true) else (if 0 < (t168.length : Int) then ((spec_LsMore.f k t168 0 ((rd_T43 t168 0).f1)).bind fun t173 => (laws_FnListsNamed.j0 k l0 a1 t168 (!t173))) else (none))) else (laws_FnListsNamed.j0 k l0 a1 t168 true)))) else (some true)) = some r := H
 have A3 := Aside0.mk A30
 clear A30
 by_cases c4 : t167 = true
 ·subst c4
  have H1 : ((spec_LtPlayed.f k l0).bind fun t168 => ((spec_LtRight.f k l0).bind fun t171 => (if t171 = true then (if (t168.length : Int) = 0 then (laws_FnListsNamed.j0 k l0 a1 t168 true) else (if 0 < (t168.length : Int) then ((spec_LsMore.f k t168 0 ((rd_T43 t168 0).f1)).bind fun t173 => (laws_FnListsNamed.j0 k l0 a1 t168 (!t173))) else (none))) else (laws_FnListsNamed.j0 k l0 a1 t168 true)))) = some r := by rw [if_pos rfl] at H; exact H
  clear H
  have H := H1
  clear H1
  replace H := Option.bind_eq_some_iff.mp H
  obtain ⟨t168, A50, H⟩ := H
  replace H : ((spec_LtRight.f k l0).bind fun t171 => (if t171 = true then (if (t168.length : Int) = 0 then (laws_FnListsNamed.j0 k l0 a1 t168 true) else (if 0 < (t168.length : Int) then ((spec_LsMore.f k t168 0 ((rd_T43 t168 0).f1)).bind fun t173 => (laws_FnListsNamed.j0 k l0 a1 t168 (!t173))) else (none))) else (laws_FnListsNamed.j0 k l0 a1 t168 true))) = some r := H
  have A5 := Aside0.mk A50
  clear A50
  have HC6 := Aside0.mk H
  clear H
  go_enter Tryz.func5, Tryz.ntmps5
  go_upto_region 4 with (first | ((with_reducible refine gate_callee (f := 6) rfl ?_); refine goesL_ (some 10) rfl rfl Tryz.func6 (by kernel_rfl) rfl #[.slice A0 l0.length c0] rfl (by (try simp only [List.map_toArray, List.map_cons, List.map_nil]); first | done | rfl | (simp only [List.length_drop, List.length_take]; rfl)) ?_; (with_reducible refine (laws_zzFits11.calls k _ _ l0 true _ ?side1 ?side2 A3.out).mono ?_); (case side1 => repeat (first | exact HR0.out | (with_reducible refine Kd.C_alloc ?_ _) | (with_reducible refine Kd.C_drewN ?_ _) | (with_reducible refine Kd.C_drew ?_))); (case side2 => exact HC0.out); rintro e w7 ⟨rfl, hb⟩; refine ⟨_, rfl, ?_⟩; have n0_ := Aside0.mk (below_step (by repeat (first | (with_reducible first | exact HB.out | apply below_alloc | apply pw_below_drewN | apply below_drew1) | exact HB.out)) hb); clear HB; have HB := n0_; clear n0_; (try clear hb); (try clear hb2); (try clear hk); (try clear hi)) | ((with_reducible refine gate_callee (f := 8) rfl ?_); refine goesL_ (some 13) rfl rfl Tryz.func8 (by kernel_rfl) rfl #[.slice A0 l0.length c0] rfl (by (try simp only [List.map_toArray, List.map_cons, List.map_nil]); first | done | rfl | (simp only [List.length_drop, List.length_take]; rfl)) ?_; (with_reducible refine (spec_LtPlayed.calls k _ _ l0 t168 _ ?side1 ?side2 A5.out).mono ?_); (case side1 => repeat (first | exact (Kd.C_below HR0.out HB.out) | (with_reducible refine Kd.C_alloc ?_ _) | (with_reducible refine Kd.C_drewN ?_ _) | (with_reducible refine Kd.C_drew ?_))); (case side2 => exact HC0.out); rintro e w8 ⟨v169, rfl, ho0, hb⟩; refine ⟨_, rfl, ?_⟩; have n0_ := Aside0.mk (Kd.R_lower ho0 (below_size (by repeat (first | (with_reducible first | exact HB.out | apply below_alloc | apply pw_below_drewN | apply below_drew1) | exact HB.out)))); have n1_ := Aside0.mk (below_step (by repeat (first | (with_reducible first | exact HB.out | apply below_alloc | apply pw_below_drewN | apply below_drew1) | exact HB.out)) hb); clear HB; have HO170 := n0_; have HB := n1_; clear n0_ n1_; (try clear hb); (try clear hb2); (try clear hk); (try clear hi); (try clear ho0)))
  (try simp only [Act.put, List.setIfInBounds_toArray, List.set_cons_zero, List.set_cons_succ])
  go_cut [30] (fun v30 wc => ∃ (kq : Nat) (x30_5 : Bool), v30 = .bool x30_5 ∧ Aside0 (laws_FnListsNamed.j0 kq l0 a1 t168 x30_5 = some r) ∧ Aside0 (kq ≤ k) ∧ Aside0 (Kd.R k43 43 wc w.heap.size (fun _ => True) v169 t168) ∧ Aside0 (Below w.heap.size w wc))
  case first =>
   have H := HC6.out
   clear HC6
   replace H := Option.bind_eq_some_iff.mp H
   obtain ⟨t171, A90, H⟩ := H
   replace H : (if t171 = true then (if (t168.length : Int) = 0 then (laws_FnListsNamed.j0 k l0 a1 t168 true) else (if 0 < (t168.length : Int) then ((spec_LsMore.f k t168 0 ((rd_T43 t168 0).f1)).bind fun t173 => (laws_FnListsNamed.j0 k l0 a1 t168 (!t173))) else (none))) else (laws_FnListsNamed.j0 k l0 a1 t168 true)) = some r := H
   have A9 := Aside0.mk A90
   clear A90
   by_cases c10 : t171 = true
   ·subst c10
    have H1 : (if (t168.length : Int) = 0 then (laws_FnListsNamed.j0 k l0 a1 t168 true) else (if 0 < (t168.length : Int) then ((spec_LsMore.f k t168 0 ((rd_T43 t168 0).f1)).bind fun t173 => (laws_FnListsNamed.j0 k l0 a1 t168 (!t173))) else (none))) = some r := by rw [if_pos rfl] at H; exact H
    clear H
    have H := H1
    clear H1
    by_cases c11 : (t168.length : Int) = 0
    ·rw [if_pos c11] at H
     have c11b0 : ((t168.length : Int) == 0) = true := beq_iff_eq.mpr c11
     have c11b1 : ((t168.length : Int) != 0) = false := bne_eq_false_iff_eq.mpr c11
     clear c11
     (first | rw [c11b0] | (simp only [i64_w, i32_w]; rw [c11b0]) | skip)
     have H' := Aside0.mk H
     clear H
     go_wp2_with (first | ((with_reducible refine gate_callee (f := 9) rfl ?_); refine goesL_ (some 15) rfl rfl Tryz.func9 (by kernel_rfl) rfl #[.slice A0 l0.length c0] rfl (by (try simp only [List.map_toArray, List.map_cons, List.map_nil]); first | done | rfl | (simp only [List.length_drop, List.length_take]; rfl)) ?_; (with_reducible refine (spec_LtRight.calls k _ _ l0 true _ ?side1 ?side2 A9.out).mono ?_); (case side1 => repeat (first | exact (Kd.C_below HR0.out HB.out) | (with_reducible refine Kd.C_alloc ?_ _) | (with_reducible refine Kd.C_drewN ?_ _) | (with_reducible refine Kd.C_drew ?_))); (case side2 => exact HC0.out); rintro e w12 ⟨rfl, hb⟩; refine ⟨_, rfl, ?_⟩; have n0_ := Aside0.mk (Kd.R_below (by (with_reducible repeat (first | apply Kd.R_alloc | apply Kd.R_drewN | apply Kd.R_drew)); exact HO170.out) hb); have n1_ := Aside0.mk (below_step (by repeat (first | (with_reducible first | exact HB.out | apply below_alloc | apply pw_below_drewN | apply below_drew1) | exact HB.out)) hb); clear HO170; clear HB; have HO170 := n0_; have HB := n1_; clear n0_ n1_; (try clear hb); (try clear hb2); (try clear hk); (try clear hi); obtain ⟨Ao13, co13, eo13⟩ := Kd.R_slice HO170.out; subst eo13))
     go_meet
     case rel => exact ⟨_, (true), (by first | rfl | (simp; done) | (simp [*]; done)), H', ⟨by first | omega | exact Nat.le_refl _⟩, ⟨by (with_reducible repeat (first | apply Kd.R_alloc | apply Kd.R_drewN | apply Kd.R_drew)); exact HO170.out⟩, ⟨by repeat (first | (with_reducible first | exact HB.out | apply below_alloc | apply pw_below_drewN | apply below_drew1) | exact HB.out)⟩⟩
    ·rw [if_neg c11] at H
     have c11b0 : ((t168.length : Int) == 0) = false := beq_eq_false_iff_ne.mpr c11
     have c11b1 : ((t168.length : Int) != 0) = true := bne_iff_ne.mpr c11
     have c11b2 : ¬ (t168 = []) := fun h_ => c11 (by rw [h_]; rfl)
     (first | rw [c11b0] | (simp only [i64_w, i32_w]; rw [c11b0]) | skip)
     by_cases c14 : 0 < (t168.length : Int)
     ·rw [if_pos c14] at H
      have c14b0 : decide (0 < (t168.length : Int)) = true := decide_eq_true c14
      have c14b1 : decide (0 < t168.length) = true := decide_eq_true (by omega)
      clear c14
      replace H := Option.bind_eq_some_iff.mp H
      obtain ⟨t173, A150, H⟩ := H
      replace H : (laws_FnListsNamed.j0 k l0 a1 t168 (!t173)) = some r := H
      have A15 := Aside0.mk A150
      clear A150
      have H' := Aside0.mk H
      clear H
      go_wp2_with (first | ((with_reducible refine gate_callee (f := 9) rfl ?_); refine goesL_ (some 15) rfl rfl Tryz.func9 (by kernel_rfl) rfl #[.slice A0 l0.length c0] rfl (by (try simp only [List.map_toArray, List.map_cons, List.map_nil]); first | done | rfl | (simp only [List.length_drop, List.length_take]; rfl)) ?_; (with_reducible refine (spec_LtRight.calls k _ _ l0 true _ ?side1 ?side2 A9.out).mono ?_); (case side1 => repeat (first | exact (Kd.C_below HR0.out HB.out) | (with_reducible refine Kd.C_alloc ?_ _) | (with_reducible refine Kd.C_drewN ?_ _) | (with_reducible refine Kd.C_drew ?_))); (case side2 => exact HC0.out); rintro e w16 ⟨rfl, hb⟩; refine ⟨_, rfl, ?_⟩; have n0_ := Aside0.mk (Kd.R_below (by (with_reducible repeat (first | apply Kd.R_alloc | apply Kd.R_drewN | apply Kd.R_drew)); exact HO170.out) hb); have n1_ := Aside0.mk (below_step (by repeat (first | (with_reducible first | exact HB.out | apply below_alloc | apply pw_below_drewN | apply below_drew1) | exact HB.out)) hb); clear HO170; clear HB; have HO170 := n0_; have HB := n1_; clear n0_ n1_; (try clear hb); (try clear hb2); (try clear hk); (try clear hi); obtain ⟨Ao17, co17, eo17⟩ := Kd.R_slice HO170.out; subst eo17; have p172 : 0 ≤ (0 : Int) := (by omega); have q172 : 0 < (t168.length : Int) := of_decide_eq_true (by first | (with_reducible assumption) | assumption); obtain ⟨ad172, e172, hx172_0, hx172_1⟩ := at_T43 (Kd.R_reads' HO170.out).2.2 0 p172 q172; cases e172; have qi172 : (0 < t168.length) = True := eq_true (by omega); (try rw [show ((0 : Int)).toNat = 0 from rfl] at hx172_0); (try rw [show 0 * 2 = 0 from rfl] at hx172_0); (try rw [Addr.add_zero'] at hx172_0); (try rw [show ((0 : Int)).toNat = 0 from rfl] at hx172_1); (try rw [show 0 * 2 = 0 from rfl] at hx172_1); (try rw [Addr.add_zero'] at hx172_1); replace p172 := eq_true p172; replace q172 := eq_true q172) | (go_at_call 24; (with_reducible refine (spec_LsMore.calls k _ _ t168 0 ((rd_T43 t168 0).f1) t173 _ ?side1 ?side2 A15.out).mono ?_); (case side1 => repeat (first | exact (Kd.R_reads' HO170.out).2.2 | (with_reducible refine Kd.C_alloc ?_ _) | (with_reducible refine Kd.C_drewN ?_ _) | (with_reducible refine Kd.C_drew ?_))); (case side2 => exact (Kd.R_reads' HO170.out).2.1); rintro e w18 ⟨rfl, hb⟩; have n0_ := Aside0.mk (Kd.R_below (by (with_reducible repeat (first | apply Kd.R_alloc | apply Kd.R_drewN | apply Kd.R_drew)); exact HO170.out) hb); have n1_ := Aside0.mk (below_step (by repeat (first | (with_reducible first | exact HB.out | apply below_alloc | apply pw_below_drewN | apply below_drew1) | exact HB.out)) hb); clear HO170; clear HB; have HO170 := n0_; have HB := n1_; clear n0_ n1_; (try clear hb); (try clear hb2); (try clear hk); (try clear hi)))
      go_meet
      case rel => exact ⟨_, (!t173), (by first | rfl | (simp; done) | (simp [*]; done)), H', ⟨by first | omega | exact Nat.le_refl _⟩, ⟨by (with_reducible repeat (first | apply Kd.R_alloc | apply Kd.R_drewN | apply Kd.R_drew)); exact HO170.out⟩, ⟨by repeat (first | (with_reducible first | exact HB.out | apply below_alloc | apply pw_below_drewN | apply below_drew1) | exact HB.out)⟩⟩
     ·rw [if_neg c14] at H
      exact absurd H (by simp)
   ·replace c10 := Bool.eq_false_iff.mpr c10
    subst c10
    have H1 : (laws_FnListsNamed.j0 k l0 a1 t168 true) = some r := by rw [if_neg (show ¬ (false = true) by decide)] at H; exact H
    clear H
    have H := H1
    clear H1
    have H' := Aside0.mk H
    clear H
    go_wp2_with (first | ((with_reducible refine gate_callee (f := 9) rfl ?_); refine goesL_ (some 15) rfl rfl Tryz.func9 (by kernel_rfl) rfl #[.slice A0 l0.length c0] rfl (by (try simp only [List.map_toArray, List.map_cons, List.map_nil]); first | done | rfl | (simp only [List.length_drop, List.length_take]; rfl)) ?_; (with_reducible refine (spec_LtRight.calls k _ _ l0 false _ ?side1 ?side2 A9.out).mono ?_); (case side1 => repeat (first | exact (Kd.C_below HR0.out HB.out) | (with_reducible refine Kd.C_alloc ?_ _) | (with_reducible refine Kd.C_drewN ?_ _) | (with_reducible refine Kd.C_drew ?_))); (case side2 => exact HC0.out); rintro e w19 ⟨rfl, hb⟩; refine ⟨_, rfl, ?_⟩; have n0_ := Aside0.mk (Kd.R_below (by (with_reducible repeat (first | apply Kd.R_alloc | apply Kd.R_drewN | apply Kd.R_drew)); exact HO170.out) hb); have n1_ := Aside0.mk (below_step (by repeat (first | (with_reducible first | exact HB.out | apply below_alloc | apply pw_below_drewN | apply below_drew1) | exact HB.out)) hb); clear HO170; clear HB; have HO170 := n0_; have HB := n1_; clear n0_ n1_; (try clear hb); (try clear hb2); (try clear hk); (try clear hi)))
    go_meet
    case rel => exact ⟨_, (true), (by first | rfl | (simp; done) | (simp [*]; done)), H', ⟨by first | omega | exact Nat.le_refl _⟩, ⟨by (with_reducible repeat (first | apply Kd.R_alloc | apply Kd.R_drewN | apply Kd.R_drew)); exact HO170.out⟩, ⟨by repeat (first | (with_reducible first | exact HB.out | apply below_alloc | apply pw_below_drewN | apply below_drew1) | exact HB.out)⟩⟩
  case rest =>
   clear HC6
   try clear c1
   try clear p1
   try clear q1
   try clear hx1
   try clear qi1
   try clear p2
   try clear c4
   try clear c5
   try clear c6
   try clear c8
   try clear c9
   try clear c10
   try clear c11
   try clear c11b0
   try clear c11b1
   try clear c11b2
   try clear c14
   try clear c14b0
   try clear c14b1
   try clear p17
   try clear q17
   try clear hx17
   try clear qi17
   try clear hx172_0
   try clear hx172_1
   try clear p172
   try clear q172
   obtain ⟨kq, x30_5, rfl, HA, HJ5, HO_5, HB⟩ := hcut
   cases kq with
   | zero => exact absurd HA.out (by simp [laws_FnListsNamed.j0])
   | succ kj5 =>
    have H := HA.out
    clear HA
    simp only [laws_FnListsNamed.j0] at H
    by_cases c20 : x30_5 = true
    ·subst c20
     have H1 : (some true) = some r := by rw [if_pos rfl] at H; exact H
     clear H
     have H := H1
     clear H1
     obtain rfl := Option.some.inj H
     go_wp2
     go_ret
     exact ⟨by first | rfl | (simp [errW_none, errW_some] <;> rfl) | (have e_ : ∀ l_ : List UInt8, (l_ != []) = !l_.isEmpty := fun l_ => (by cases l_ <;> rfl); simp [errW_none, errW_some, e_]; done) | (simp [*, errW_none, errW_some] <;> rfl), by repeat (first | (with_reducible first | exact HB.out | apply below_alloc | apply pw_below_drewN | apply below_drew1) | exact HB.out)⟩
    ·replace c20 := Bool.eq_false_iff.mpr c20
     subst c20
     have H1 : (laws_FnListsNamed.l0 kj5 l0 a1 t168 t168 (t168.length : Int) 0) = some r := by rw [if_neg (show ¬ (false = true) by decide)] at H; exact H
     clear H
     have H := H1
     clear H1
     have H' := Aside0.mk H
     clear H
     obtain ⟨Ao21, co21, eo21⟩ := Kd.R_slice HO_5.out
     subst eo21
     go_wp2
     go_loopg [33] kj5 (fun kq v33 w' => ∃ (x33_2 : Int), v33 = .int .i64 x33_2 ∧ Aside0 (laws_FnListsNamed.l0 kq l0 a1 t168 t168 (t168.length : Int) x33_2 = some r) ∧ Aside0 (kq ≤ kj5) ∧ Aside0 (Kd.R k43 43 w' w.heap.size (fun _ => True) (.slice Ao21 t168.length co21) t168) ∧ Aside0 (Kd.R k43 43 w' w.heap.size (fun _ => True) (.slice Ao21 t168.length co21) t168) ∧ Aside0 (Below w.heap.size w w'))
     case atStart => exact ⟨(0), (by first | rfl | (simp; done) | (simp [*]; done)), H', ⟨Nat.le_refl _⟩, ⟨by (with_reducible repeat (first | apply Kd.R_alloc | apply Kd.R_drewN | apply Kd.R_drew)); exact HO_5.out⟩, ⟨by (with_reducible repeat (first | apply Kd.R_alloc | apply Kd.R_drewN | apply Kd.R_drew)); exact HO_5.out⟩, ⟨by repeat (first | (with_reducible first | exact HB.out | apply below_alloc | apply pw_below_drewN | apply below_drew1) | exact HB.out)⟩⟩
     case round =>
      clear H'
      try clear c1
      try clear p1
      try clear q1
      try clear hx1
      try clear qi1
      try clear c2
      try clear p2
      try clear c4
      try clear c5
      try clear c6
      try clear c8
      try clear c9
      try clear c10
      try clear c11
      try clear c11b0
      try clear c11b1
      try clear c11b2
      try clear c14
      try clear c14b0
      try clear c14b1
      try clear p17
      try clear q17
      try clear hx17
      try clear qi17
      try clear c20
      try clear hx172_0
      try clear hx172_1
      try clear p1
      try clear p17
      try clear p172
      try clear p2
      try clear q1
      try clear q17
      try clear q172
      obtain ⟨x33_2, rfl, HA, HK2, HO_5, HO_31, HB⟩ := hrel
      cases gk with
      | zero => exact absurd HA.out (by simp [laws_FnListsNamed.l0])
      | succ k2 =>
       have H := HA.out
       clear HA
       simp only [laws_FnListsNamed.l0] at H
       by_cases c22 : x33_2 < (t168.length : Int)
       ·rw [if_pos c22] at H
        have c22b0 : decide (x33_2 < (t168.length : Int)) = true := decide_eq_true c22
        clear c22
        by_cases c23 : 0 ≤ x33_2
        ·rw [if_pos c23] at H
         have c23b0 : decide (0 ≤ x33_2) = true := decide_eq_true c23
         clear c23
         by_cases c24 : x33_2 < (t168.length : Int)
         ·rw [if_pos c24] at H
          have c24b0 : decide (x33_2 < (t168.length : Int)) = true := decide_eq_true c24
          clear c24
          replace H := Option.bind_eq_some_iff.mp H
          obtain ⟨t176, A250, H⟩ := H
          replace H : (if t176 = true then (laws_FnListsNamed.l0 k2 l0 a1 t168 t168 (t168.length : Int) (wrap64 (x33_2 + 1))) else (some true)) = some r := H
          have A25 := Aside0.mk A250
          clear A250
          by_cases c26 : t176 = true
          ·subst c26
           have H1 : (laws_FnListsNamed.l0 k2 l0 a1 t168 t168 (t168.length : Int) (wrap64 (x33_2 + 1))) = some r := by rw [if_pos rfl] at H; exact H
           clear H
           have H := H1
           clear H1
           have H' := Aside0.mk H
           clear H
           have p174 : 0 ≤ (x33_2 : Int) := of_decide_eq_true (by first | (with_reducible assumption) | assumption)
           have q174 : x33_2 < (t168.length : Int) := of_decide_eq_true (by first | (with_reducible assumption) | assumption)
           obtain ⟨ad174, e174, hx174_0, hx174_1⟩ := at_T43 (Kd.R_reads' HO_31.out).2.2 x33_2 p174 q174
           cases e174
           replace p174 := eq_true p174
           replace q174 := eq_true q174
           go_wp2_with (first | ((with_reducible refine gate_dst (N := 7) rfl ?_); (try (refine gate_guard (by rfl) ?_; dsimp only)); refine box_event ?hg (N := 7) ?hd (cs := #[.string (⟨#[]⟩ : ByteArray), .int .i64 0]) (t := 43) ?hr ?_; (case hd => rfl); (case hg => rfl); (case hr => first | (go_simp; done) | (go_simp; rfl)); intro gb175 hg w27 hbox hb; have n0_ := Aside0.mk (Kd.R_below (Kd.R_elderB (by (with_reducible repeat (first | apply Kd.R_alloc | apply Kd.R_drewN | apply Kd.R_drew)); exact HO_5.out) gb175 (Nat.le_of_eq hg.symm)) hb); have n1_ := Aside0.mk (Kd.R_below (Kd.R_elderB (by (with_reducible repeat (first | apply Kd.R_alloc | apply Kd.R_drewN | apply Kd.R_drew)); exact HO_31.out) gb175 (Nat.le_of_eq hg.symm)) hb); have n2_ := Aside0.mk (below_step (by repeat (first | (with_reducible first | exact HB.out | apply below_alloc | apply pw_below_drewN | apply below_drew1) | exact HB.out)) hb); have n3_ := Aside0.mk (hbox); have n4_ := Aside0.mk ((by rw [hg]; exact (below_size (by repeat (first | (with_reducible first | exact HB.out | apply below_alloc | apply pw_below_drewN | apply below_drew1) | exact HB.out))) : w.heap.size ≤ gb175)); have n5_ := Aside0.mk ((by rw [hg]; exact (below_size (by repeat (first | (with_reducible first | exact HB.out | apply below_alloc | apply pw_below_drewN | apply below_drew1) | exact HB.out))) : w.heap.size ≤ gb175)); clear HO_5; clear HO_31; clear HB; have HO_5 := n0_; have HO_31 := n1_; have HB := n2_; have BK175 := n3_; have GW175 := n4_; have GE175 := n5_; clear n0_ n1_ n2_ n3_ n4_ n5_; clear hb hbox hg; have hcz28_0 : w27.cell? ⟨gb175, 0, none⟩ = some (.string (⟨#[]⟩ : ByteArray)) := (blk_cell BK175.out 0).trans rfl; have hcz28_1 : w27.cell? ⟨gb175, 1, none⟩ = some (.int .i64 0) := (blk_cell BK175.out 1).trans rfl; have hfz28_0 := blk_frozen BK175.out 0; have hfz28_1 := blk_frozen BK175.out 1) | ((with_reducible refine gate_callee (f := 25) rfl ?_); refine goesL_ (some 39) rfl rfl Tryz.func25 (by kernel_rfl) rfl #[.string ((rd_T43 t168 x33_2).f0), .bool false] rfl (by (try simp only [List.map_toArray, List.map_cons, List.map_nil]); first | done | rfl | (simp only [List.length_drop, List.length_take]; rfl)) ?_; (with_reducible refine (spec_TxSimple.calls ((rd_T43 t168 x33_2).f0) false true _ A25.out).mono ?_); rintro e w29 ⟨rfl, hb⟩; refine ⟨_, rfl, ?_⟩; have n0_ := Aside0.mk (Kd.R_below (by (with_reducible repeat (first | apply Kd.R_alloc | apply Kd.R_drewN | apply Kd.R_drew)); exact (Kd.R_mono (Kd.R_far (p := ⟨gb175, 1, none⟩) (Kd.R_far (p := ⟨gb175, 0, none⟩) (Kd.R_mono HO_5.out (fun k_ hk => (⟨hk, hk.2⟩ : _ ∧ k_ ≠ gb175))) (fun _ hk => hk.2) (.string ((rd_T43 t168 x33_2).f0))) (fun _ hk => hk.2) (.int .i64 ((rd_T43 t168 x33_2).f1))) (fun _ h_ => h_.1))) hb); have n1_ := Aside0.mk (Kd.R_below (by (with_reducible repeat (first | apply Kd.R_alloc | apply Kd.R_drewN | apply Kd.R_drew)); exact (Kd.R_mono (Kd.R_far (p := ⟨gb175, 1, none⟩) (Kd.R_far (p := ⟨gb175, 0, none⟩) (Kd.R_mono HO_31.out (fun k_ hk => (⟨hk, hk.2⟩ : _ ∧ k_ ≠ gb175))) (fun _ hk => hk.2) (.string ((rd_T43 t168 x33_2).f0))) (fun _ hk => hk.2) (.int .i64 ((rd_T43 t168 x33_2).f1))) (fun _ h_ => h_.1))) hb); have n2_ := Aside0.mk (blk_below (g := gb175) (o := .cells #[.string ((rd_T43 t168 x33_2).f0), .int .i64 ((rd_T43 t168 x33_2).f1)] 43 (0, 0)) (by (with_reducible repeat (first | refine blk_drewN ?_ _ | refine blk_drew ?_ | refine blk_alloc ?_ _)); refine blk_put (cs := #[.string ((rd_T43 t168 x33_2).f0), .int .i64 0]) ?_ 1 _ rfl; (with_reducible repeat (first | refine blk_drewN ?_ _ | refine blk_drew ?_ | refine blk_alloc ?_ _)); refine blk_put (cs := #[.string (⟨#[]⟩ : ByteArray), .int .i64 0]) ?_ 0 _ rfl; (with_reducible repeat (first | refine blk_drewN ?_ _ | refine blk_drew ?_ | refine blk_alloc ?_ _)); exact BK175.out) hb); have n3_ := Aside0.mk (below_step (by repeat (first | (with_reducible first | exact HB.out | apply below_alloc | apply pw_below_drewN | apply below_drew1 | refine below_set ?_ GE175.out) | exact HB.out)) hb); clear HO_5; clear HO_31; clear BK175; clear HB; have HO_5 := n0_; have HO_31 := n1_; have BK175 := n2_; have HB := n3_; clear n0_ n1_ n2_ n3_; (try clear hb); (try clear hb2); (try clear hk); (try clear hi)))
           go_roundg k2
           case measure => have := HJ5.out; have := HK2.out; omega
           case rel => exact ⟨(wrap64 (x33_2 + 1)), (by first | rfl | (simp; done) | (simp [*]; done)), H', ⟨by have := HJ5.out; have := HK2.out; omega⟩, ⟨by (with_reducible repeat (first | apply Kd.R_alloc | apply Kd.R_drewN | apply Kd.R_drew)); exact Kd.R_mono HO_5.out (fun _ hk => trivial)⟩, ⟨by (with_reducible repeat (first | apply Kd.R_alloc | apply Kd.R_drewN | apply Kd.R_drew)); exact Kd.R_mono HO_31.out (fun _ hk => trivial)⟩, ⟨by repeat (first | (with_reducible first | exact HB.out | apply below_alloc | apply pw_below_drewN | apply below_drew1 | refine below_set ?_ GE175.out) | exact HB.out)⟩⟩
          ·replace c26 := Bool.eq_false_iff.mpr c26
           subst c26
           have H1 : (some true) = some r := by rw [if_neg (show ¬ (false = true) by decide)] at H; exact H
           clear H
           have H := H1
           clear H1
           obtain rfl := Option.some.inj H
           have p174 : 0 ≤ (x33_2 : Int) := of_decide_eq_true (by first | (with_reducible assumption) | assumption)
           have q174 : x33_2 < (t168.length : Int) := of_decide_eq_true (by first | (with_reducible assumption) | assumption)
           obtain ⟨ad174, e174, hx174_0, hx174_1⟩ := at_T43 (Kd.R_reads' HO_31.out).2.2 x33_2 p174 q174
           cases e174
           replace p174 := eq_true p174
           replace q174 := eq_true q174
           go_wp2_with (first | ((with_reducible refine gate_dst (N := 7) rfl ?_); (try (refine gate_guard (by rfl) ?_; dsimp only)); refine box_event ?hg (N := 7) ?hd (cs := #[.string (⟨#[]⟩ : ByteArray), .int .i64 0]) (t := 43) ?hr ?_; (case hd => rfl); (case hg => rfl); (case hr => first | (go_simp; done) | (go_simp; rfl)); intro gb175 hg w30 hbox hb; have n0_ := Aside0.mk (Kd.R_below (Kd.R_elderB (by (with_reducible repeat (first | apply Kd.R_alloc | apply Kd.R_drewN | apply Kd.R_drew)); exact HO_5.out) gb175 (Nat.le_of_eq hg.symm)) hb); have n1_ := Aside0.mk (Kd.R_below (Kd.R_elderB (by (with_reducible repeat (first | apply Kd.R_alloc | apply Kd.R_drewN | apply Kd.R_drew)); exact HO_31.out) gb175 (Nat.le_of_eq hg.symm)) hb); have n2_ := Aside0.mk (below_step (by repeat (first | (with_reducible first | exact HB.out | apply below_alloc | apply pw_below_drewN | apply below_drew1) | exact HB.out)) hb); have n3_ := Aside0.mk (hbox); have n4_ := Aside0.mk ((by rw [hg]; exact (below_size (by repeat (first | (with_reducible first | exact HB.out | apply below_alloc | apply pw_below_drewN | apply below_drew1) | exact HB.out))) : w.heap.size ≤ gb175)); have n5_ := Aside0.mk ((by rw [hg]; exact (below_size (by repeat (first | (with_reducible first | exact HB.out | apply below_alloc | apply pw_below_drewN | apply below_drew1) | exact HB.out))) : w.heap.size ≤ gb175)); clear HO_5; clear HO_31; clear HB; have HO_5 := n0_; have HO_31 := n1_; have HB := n2_; have BK175 := n3_; have GW175 := n4_; have GE175 := n5_; clear n0_ n1_ n2_ n3_ n4_ n5_; clear hb hbox hg; have hcz31_0 : w30.cell? ⟨gb175, 0, none⟩ = some (.string (⟨#[]⟩ : ByteArray)) := (blk_cell BK175.out 0).trans rfl; have hcz31_1 : w30.cell? ⟨gb175, 1, none⟩ = some (.int .i64 0) := (blk_cell BK175.out 1).trans rfl; have hfz31_0 := blk_frozen BK175.out 0; have hfz31_1 := blk_frozen BK175.out 1) | ((with_reducible refine gate_callee (f := 25) rfl ?_); refine goesL_ (some 39) rfl rfl Tryz.func25 (by kernel_rfl) rfl #[.string ((rd_T43 t168 x33_2).f0), .bool false] rfl (by (try simp only [List.map_toArray, List.map_cons, List.map_nil]); first | done | rfl | (simp only [List.length_drop, List.length_take]; rfl)) ?_; (with_reducible refine (spec_TxSimple.calls ((rd_T43 t168 x33_2).f0) false false _ A25.out).mono ?_); rintro e w32 ⟨rfl, hb⟩; refine ⟨_, rfl, ?_⟩; have n0_ := Aside0.mk (Kd.R_below (by (with_reducible repeat (first | apply Kd.R_alloc | apply Kd.R_drewN | apply Kd.R_drew)); exact (Kd.R_mono (Kd.R_far (p := ⟨gb175, 1, none⟩) (Kd.R_far (p := ⟨gb175, 0, none⟩) (Kd.R_mono HO_5.out (fun k_ hk => (⟨hk, hk.2⟩ : _ ∧ k_ ≠ gb175))) (fun _ hk => hk.2) (.string ((rd_T43 t168 x33_2).f0))) (fun _ hk => hk.2) (.int .i64 ((rd_T43 t168 x33_2).f1))) (fun _ h_ => h_.1))) hb); have n1_ := Aside0.mk (Kd.R_below (by (with_reducible repeat (first | apply Kd.R_alloc | apply Kd.R_drewN | apply Kd.R_drew)); exact (Kd.R_mono (Kd.R_far (p := ⟨gb175, 1, none⟩) (Kd.R_far (p := ⟨gb175, 0, none⟩) (Kd.R_mono HO_31.out (fun k_ hk => (⟨hk, hk.2⟩ : _ ∧ k_ ≠ gb175))) (fun _ hk => hk.2) (.string ((rd_T43 t168 x33_2).f0))) (fun _ hk => hk.2) (.int .i64 ((rd_T43 t168 x33_2).f1))) (fun _ h_ => h_.1))) hb); have n2_ := Aside0.mk (blk_below (g := gb175) (o := .cells #[.string ((rd_T43 t168 x33_2).f0), .int .i64 ((rd_T43 t168 x33_2).f1)] 43 (0, 0)) (by (with_reducible repeat (first | refine blk_drewN ?_ _ | refine blk_drew ?_ | refine blk_alloc ?_ _)); refine blk_put (cs := #[.string ((rd_T43 t168 x33_2).f0), .int .i64 0]) ?_ 1 _ rfl; (with_reducible repeat (first | refine blk_drewN ?_ _ | refine blk_drew ?_ | refine blk_alloc ?_ _)); refine blk_put (cs := #[.string (⟨#[]⟩ : ByteArray), .int .i64 0]) ?_ 0 _ rfl; (with_reducible repeat (first | refine blk_drewN ?_ _ | refine blk_drew ?_ | refine blk_alloc ?_ _)); exact BK175.out) hb); have n3_ := Aside0.mk (below_step (by repeat (first | (with_reducible first | exact HB.out | apply below_alloc | apply pw_below_drewN | apply below_drew1 | refine below_set ?_ GE175.out) | exact HB.out)) hb); clear HO_5; clear HO_31; clear BK175; clear HB; have HO_5 := n0_; have HO_31 := n1_; have BK175 := n2_; have HB := n3_; clear n0_ n1_ n2_ n3_; (try clear hb); (try clear hb2); (try clear hk); (try clear hi)))
           go_ret
           exact ⟨by first | rfl | (simp [errW_none, errW_some] <;> rfl) | (have e_ : ∀ l_ : List UInt8, (l_ != []) = !l_.isEmpty := fun l_ => (by cases l_ <;> rfl); simp [errW_none, errW_some, e_]; done) | (simp [*, errW_none, errW_some] <;> rfl), by repeat (first | (with_reducible first | exact HB.out | apply below_alloc | apply pw_below_drewN | apply below_drew1 | refine below_set ?_ GE175.out) | exact HB.out)⟩
         ·rw [if_neg c24] at H
          exact absurd H (by simp)
        ·rw [if_neg c23] at H
         exact absurd H (by simp)
       ·rw [if_neg c22] at H
        have c22b0 : decide (x33_2 < (t168.length : Int)) = false := decide_eq_false c22
        clear c22
        replace H := Option.bind_eq_some_iff.mp H
        obtain ⟨⟨t177, t178, t179, t180, t181, t182, t183, t184, t185⟩, A330, H⟩ := H
        replace H : ((impl_ListRender.f l0 t177 t178 t179 t180 t181 t182 t183 t184 t185).bind fun t186 => ((spec_LtNamed.f (wrap64 (Int.tmod a1 11))).bind fun bt187 => ((spec_LtDrawn.f k2 t168 bt187.1 bt187.2.1 bt187.2.2.1 bt187.2.2.2.1 bt187.2.2.2.2.1 bt187.2.2.2.2.2.1 bt187.2.2.2.2.2.2.1 bt187.2.2.2.2.2.2.2.1 bt187.2.2.2.2.2.2.2.2).bind fun t196 => (some (t186.toList == t196.toList))))) = some r := H
        have A33 := Aside0.mk A330
        clear A330
        replace H := Option.bind_eq_some_iff.mp H
        obtain ⟨t186, A340, H⟩ := H
        replace H : ((spec_LtNamed.f (wrap64 (Int.tmod a1 11))).bind fun bt187 => ((spec_LtDrawn.f k2 t168 bt187.1 bt187.2.1 bt187.2.2.1 bt187.2.2.2.1 bt187.2.2.2.2.1 bt187.2.2.2.2.2.1 bt187.2.2.2.2.2.2.1 bt187.2.2.2.2.2.2.2.1 bt187.2.2.2.2.2.2.2.2).bind fun t196 => (some (t186.toList == t196.toList)))) = some r := H
        have A34 := Aside0.mk A340
        clear A340
        replace H := Option.bind_eq_some_iff.mp H
        obtain ⟨⟨t187, t188, t189, t190, t191, t192, t193, t194, t195⟩, A350, H⟩ := H
        replace H : ((spec_LtDrawn.f k2 t168 t187 t188 t189 t190 t191 t192 t193 t194 t195).bind fun t196 => (some (t186.toList == t196.toList))) = some r := H
        have A35 := Aside0.mk A350
        clear A350
        replace H := Option.bind_eq_some_iff.mp H
        obtain ⟨t196, A360, H⟩ := H
        replace H : (some (t186.toList == t196.toList)) = some r := H
        have A36 := Aside0.mk A360
        clear A360
        obtain rfl := Option.some.inj H
        go_wp2_with (first | ((with_reducible refine gate_callee (f := 26) rfl ?_); refine goesL_ (some 47) rfl rfl Tryz.func26 (by kernel_rfl) rfl #[.int .i64 (wrap64 (Int.tmod a1 11))] rfl (by (try simp only [List.map_toArray, List.map_cons, List.map_nil]); first | done | rfl | (simp only [List.length_drop, List.length_take]; rfl)) ?_; (with_reducible refine (impl_ListNamed.calls (wrap64 (Int.tmod a1 11)) t177 t178 t179 t180 t181 t182 t183 t184 t185 _ A33.out).mono ?_); rintro e w37 ⟨rfl, hb⟩; refine ⟨_, rfl, ?_⟩; have n0_ := Aside0.mk (Kd.R_below (by (with_reducible repeat (first | apply Kd.R_alloc | apply Kd.R_drewN | apply Kd.R_drew)); exact HO_5.out) hb); have n1_ := Aside0.mk (Kd.R_below (by (with_reducible repeat (first | apply Kd.R_alloc | apply Kd.R_drewN | apply Kd.R_drew)); exact HO_31.out) hb); have n2_ := Aside0.mk (below_step (by repeat (first | (with_reducible first | exact HB.out | apply below_alloc | apply pw_below_drewN | apply below_drew1) | exact HB.out)) hb); clear HO_5; clear HO_31; clear HB; have HO_5 := n0_; have HO_31 := n1_; have HB := n2_; clear n0_ n1_ n2_; (try clear hb); (try clear hb2); (try clear hk); (try clear hi)) | ((with_reducible refine gate_callee (f := 14) rfl ?_); refine goesL_ (some 48) rfl rfl Tryz.func14 (by kernel_rfl) rfl #[.slice A0 l0.length c0, .agg #[.int .i64 t177, .string t178, .string t179, .string t180, .string t181, .string t182, .string t183, .string t184, .string t185]] rfl (by (try simp only [List.map_toArray, List.map_cons, List.map_nil]); first | done | rfl | (simp only [List.length_drop, List.length_take]; rfl)) ?_; (with_reducible refine (impl_ListRender.calls _ _ l0 t177 t178 t179 t180 t181 t182 t183 t184 t185 t186 _ ?side1 ?side2 A34.out).mono ?_); (case side1 => repeat (first | exact (Kd.C_below HR0.out HB.out) | (with_reducible refine Kd.C_alloc ?_ _) | (with_reducible refine Kd.C_drewN ?_ _) | (with_reducible refine Kd.C_drew ?_))); (case side2 => exact HC0.out); rintro e w38 ⟨rfl, hb⟩; refine ⟨_, rfl, ?_⟩; have n0_ := Aside0.mk (Kd.R_below (by (with_reducible repeat (first | apply Kd.R_alloc | apply Kd.R_drewN | apply Kd.R_drew)); exact HO_5.out) hb); have n1_ := Aside0.mk (Kd.R_below (by (with_reducible repeat (first | apply Kd.R_alloc | apply Kd.R_drewN | apply Kd.R_drew)); exact HO_31.out) hb); have n2_ := Aside0.mk (below_step (by repeat (first | (with_reducible first | exact HB.out | apply below_alloc | apply pw_below_drewN | apply below_drew1) | exact HB.out)) hb); clear HO_5; clear HO_31; clear HB; have HO_5 := n0_; have HO_31 := n1_; have HB := n2_; clear n0_ n1_ n2_; (try clear hb); (try clear hb2); (try clear hk); (try clear hi)) | ((with_reducible refine gate_callee (f := 28) rfl ?_); refine goesL_ (some 51) rfl rfl Tryz.func28 (by kernel_rfl) rfl #[.int .i64 (wrap64 (Int.tmod a1 11))] rfl (by (try simp only [List.map_toArray, List.map_cons, List.map_nil]); first | done | rfl | (simp only [List.length_drop, List.length_take]; rfl)) ?_; (with_reducible refine (spec_LtNamed.calls (wrap64 (Int.tmod a1 11)) t187 t188 t189 t190 t191 t192 t193 t194 t195 _ A35.out).mono ?_); rintro e w39 ⟨rfl, hb⟩; refine ⟨_, rfl, ?_⟩; have n0_ := Aside0.mk (Kd.R_below (by (with_reducible repeat (first | apply Kd.R_alloc | apply Kd.R_drewN | apply Kd.R_drew)); exact HO_5.out) hb); have n1_ := Aside0.mk (Kd.R_below (by (with_reducible repeat (first | apply Kd.R_alloc | apply Kd.R_drewN | apply Kd.R_drew)); exact HO_31.out) hb); have n2_ := Aside0.mk (below_step (by repeat (first | (with_reducible first | exact HB.out | apply below_alloc | apply pw_below_drewN | apply below_drew1) | exact HB.out)) hb); clear HO_5; clear HO_31; clear HB; have HO_5 := n0_; have HO_31 := n1_; have HB := n2_; clear n0_ n1_ n2_; (try clear hb); (try clear hb2); (try clear hk); (try clear hi)) | ((with_reducible refine gate_callee (f := 27) rfl ?_); refine goesL_ (some 52) rfl rfl Tryz.func27 (by kernel_rfl) rfl #[.slice Ao21 t168.length co21, .agg #[.int .i64 t187, .string t188, .string t189, .string t190, .string t191, .string t192, .string t193, .string t194, .string t195]] rfl (by (try simp only [List.map_toArray, List.map_cons, List.map_nil]); first | done | rfl | (simp only [List.length_drop, List.length_take]; rfl)) ?_; (with_reducible refine (spec_LtDrawn.calls k2 _ _ t168 t187 t188 t189 t190 t191 t192 t193 t194 t195 t196 _ ?side1 ?side2 A36.out).mono ?_); (case side1 => repeat (first | exact (Kd.R_reads' HO_5.out).2.2 | (with_reducible refine Kd.C_alloc ?_ _) | (with_reducible refine Kd.C_drewN ?_ _) | (with_reducible refine Kd.C_drew ?_))); (case side2 => exact (Kd.R_reads' HO_5.out).2.1); rintro e w40 ⟨rfl, hb⟩; refine ⟨_, rfl, ?_⟩; have n0_ := Aside0.mk (Kd.R_below (by (with_reducible repeat (first | apply Kd.R_alloc | apply Kd.R_drewN | apply Kd.R_drew)); exact HO_5.out) hb); have n1_ := Aside0.mk (Kd.R_below (by (with_reducible repeat (first | apply Kd.R_alloc | apply Kd.R_drewN | apply Kd.R_drew)); exact HO_31.out) hb); have n2_ := Aside0.mk (below_step (by repeat (first | (with_reducible first | exact HB.out | apply below_alloc | apply pw_below_drewN | apply below_drew1) | exact HB.out)) hb); clear HO_5; clear HO_31; clear HB; have HO_5 := n0_; have HO_31 := n1_; have HB := n2_; clear n0_ n1_ n2_; (try clear hb); (try clear hb2); (try clear hk); (try clear hi)))
        go_ret
        exact ⟨by first | rfl | (simp [errW_none, errW_some] <;> rfl) | (have e_ : ∀ l_ : List UInt8, (l_ != []) = !l_.isEmpty := fun l_ => (by cases l_ <;> rfl); simp [errW_none, errW_some, e_]; done) | (simp [*, errW_none, errW_some] <;> rfl), by repeat (first | (with_reducible first | exact HB.out | apply below_alloc | apply pw_below_drewN | apply below_drew1) | exact HB.out)⟩
 ·replace c4 := Bool.eq_false_iff.mpr c4
  subst c4
  have H1 : (some true) = some r := by rw [if_neg (show ¬ (false = true) by decide)] at H; exact H
  clear H
  have H := H1
  clear H1
  obtain rfl := Option.some.inj H
  go_enter Tryz.func5, Tryz.ntmps5
  go_wp2_with (first | ((with_reducible refine gate_callee (f := 6) rfl ?_); refine goesL_ (some 10) rfl rfl Tryz.func6 (by kernel_rfl) rfl #[.slice A0 l0.length c0] rfl (by (try simp only [List.map_toArray, List.map_cons, List.map_nil]); first | done | rfl | (simp only [List.length_drop, List.length_take]; rfl)) ?_; (with_reducible refine (laws_zzFits11.calls k _ _ l0 false _ ?side1 ?side2 A3.out).mono ?_); (case side1 => repeat (first | exact HR0.out | (with_reducible refine Kd.C_alloc ?_ _) | (with_reducible refine Kd.C_drewN ?_ _) | (with_reducible refine Kd.C_drew ?_))); (case side2 => exact HC0.out); rintro e w41 ⟨rfl, hb⟩; refine ⟨_, rfl, ?_⟩; have n0_ := Aside0.mk (below_step (by repeat (first | (with_reducible first | exact HB.out | apply below_alloc | apply pw_below_drewN | apply below_drew1) | exact HB.out)) hb); clear HB; have HB := n0_; clear n0_; (try clear hb); (try clear hb2); (try clear hk); (try clear hi)))
  go_ret
  exact ⟨by first | rfl | (simp [errW_none, errW_some] <;> rfl) | (have e_ : ∀ l_ : List UInt8, (l_ != []) = !l_.isEmpty := fun l_ => (by cases l_ <;> rfl); simp [errW_none, errW_some, e_]; done) | (simp [*, errW_none, errW_some] <;> rfl), by repeat (first | (with_reducible first | exact HB.out | apply below_alloc | apply pw_below_drewN | apply below_drew1) | exact HB.out)⟩

-- FOREIGN: function 7 (laws_zzFits14)

-- FOREIGN: function 16 (impl_ListMarkdown)

-- FOREIGN: function 18 (impl_ListHTML)

-- FOREIGN: function 20 (spec_LtStyled)

-- FOREIGN: function 21 (impl_ListPlain)

-- FOREIGN: function 22 (impl_ListLength)

-- FOREIGN: function 23 (laws_ltAlive)

end Go.Proofs.YtejjjenjnfaopaaGreatDoor.P
