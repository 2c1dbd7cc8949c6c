/- Printed by a program of this session (pf.sh): Go functions as Lean functions, with their contracts. -/
import Derived.Test.YthjpchabeemfmaaGreatDoorPx0
import Derived.Test.YthjpchabeemfmaaGreatDoorFf
import Derived.Test.YthjpchabeemfmaaGreatDoorFz
namespace Go.Proofs.YthjpchabeemfmaaGreatDoor.P
open Go.RowKit Go.Proofs.YthjpchabeemfmaaGreatDoorW.PrintWords Go.Proofs.YthjpchabeemfmaaGreatDoorW.PrintLast Go.Proofs.YthjpchabeemfmaaGreatDoorW.PrintMore
attribute [local go_sem] max2_int min2_int max_two min_two max_three min_three max_four min_four   -- for this text's walks alone
set_option linter.unusedVariables false
set_option linter.unusedSimpArgs false

/-! ### spec_LsClear: function 10 -/
mutual
def spec_LsClear.j0 : Nat → List ByteArray → Bool → Int → ByteArray → ByteArray → ByteArray → ByteArray → ByteArray → ByteArray → ByteArray → ByteArray → Option (Bool)
  | 0, _, _, _, _, _, _, _, _, _, _, _ => none
  | k + 1, x3, x38, x127000, x127001, x127002, x127003, x127004, x127005, x127006, x127007, x127008 => if x38 = true then (some false) else (spec_LsClear.l0 k x3 x3 (x3.length : Int) 0 x127000 x127001 x127002 x127003 x127004 x127005 x127006 x127007 x127008)
def spec_LsClear.l0 : Nat → List ByteArray → List ByteArray → Int → Int → Int → ByteArray → ByteArray → ByteArray → ByteArray → ByteArray → ByteArray → ByteArray → ByteArray → Option (Bool)
  | 0, _, _, _, _, _, _, _, _, _, _, _, _, _ => none
  | k + 1, x3, x39, x40, x41, x127000, x127001, x127002, x127003, x127004, x127005, x127006, x127007, x127008 => if x41 < x40 then (if 0 ≤ x41 then (if x41 < (x39.length : Int) then (if (rdOf ByteArray.empty x39 x41).toList = ([] : List UInt8) then (spec_LsClear.j2 k x3 (rdOf ByteArray.empty x39 x41) x39 x40 x41 true x127000 x127001 x127002 x127003 x127004 x127005 x127006 x127007 x127008) else (if 0 < ((rdOf ByteArray.empty x39 x41).size : Int) then (spec_LsClear.j2 k x3 (rdOf ByteArray.empty x39 x41) x39 x40 x41 ((bt (rdOf ByteArray.empty x39 x41) 0) == 32) x127000 x127001 x127002 x127003 x127004 x127005 x127006 x127007 x127008) else (none))) else (none)) else (none)) else (some true)
def spec_LsClear.j2 : Nat → List ByteArray → ByteArray → List ByteArray → Int → Int → Bool → Int → ByteArray → ByteArray → ByteArray → ByteArray → ByteArray → ByteArray → ByteArray → ByteArray → Option (Bool)
  | 0, _, _, _, _, _, _, _, _, _, _, _, _, _, _, _ => none
  | k + 1, x3, x5, x39, x40, x41, x51, x127000, x127001, x127002, x127003, x127004, x127005, x127006, x127007, x127008 => if x51 = true then (some false) else (if x5.size + 1 ≤ 9223372036854775807 then ((spec_LsBegins.f (x5 ++ (⟨#[32]⟩ : ByteArray)) x127005).bind fun bt131 => (if bt131.2 = true then (some false) else ((spec_LsBegins.f x127005 (x5 ++ (⟨#[32]⟩ : ByteArray))).bind fun bt133 => (if bt133.2 = true then (some false) else (spec_LsClear.l1 k x3 x5 x39 x40 x41 x3 (x3.length : Int) 0 x127000 x127001 x127002 x127003 x127004 x127005 x127006 x127007 x127008))))) else (none))
def spec_LsClear.l1 : Nat → List ByteArray → ByteArray → List ByteArray → Int → Int → List ByteArray → Int → Int → Int → ByteArray → ByteArray → ByteArray → ByteArray → ByteArray → ByteArray → ByteArray → ByteArray → Option (Bool)
  | 0, _, _, _, _, _, _, _, _, _, _, _, _, _, _, _, _, _ => none
  | k + 1, x3, x5, x39, x40, x41, x70, x71, x72, x127000, x127001, x127002, x127003, x127004, x127005, x127006, x127007, x127008 => if x72 < x71 then (if 0 ≤ x72 then (if x72 < (x70.length : Int) then (if x5.size + 1 ≤ 9223372036854775807 then (if (rdOf ByteArray.empty x70 x72).size + 1 ≤ 9223372036854775807 then ((spec_LsBegins.f (x5 ++ (⟨#[32]⟩ : ByteArray)) ((rdOf ByteArray.empty x70 x72) ++ (⟨#[32]⟩ : ByteArray))).bind fun bt136 => (if bt136.2 = true then (if x5.toList = (rdOf ByteArray.empty x70 x72).toList then (spec_LsClear.l1 k x3 x5 x39 x40 x41 x70 x71 (wrap64 (x72 + 1)) x127000 x127001 x127002 x127003 x127004 x127005 x127006 x127007 x127008) else (some false)) else (spec_LsClear.l1 k x3 x5 x39 x40 x41 x70 x71 (wrap64 (x72 + 1)) x127000 x127001 x127002 x127003 x127004 x127005 x127006 x127007 x127008))) else (none)) else (none)) else (none)) else (none)) else (spec_LsClear.l0 k x3 x39 x40 (wrap64 (x41 + 1)) x127000 x127001 x127002 x127003 x127004 x127005 x127006 x127007 x127008)
end
def spec_LsClear.f (k : Nat) (a0_0 : Int) (a0_1 : ByteArray) (a0_2 : ByteArray) (a0_3 : ByteArray) (a0_4 : ByteArray) (a0_5 : ByteArray) (a0_6 : ByteArray) (a0_7 : ByteArray) (a0_8 : ByteArray) : Option (Bool) := (some (([a0_1, a0_2, a0_3, a0_4, a0_6] : List ByteArray) : List ByteArray)).bind fun y127 => (if a0_5.toList = ([] : List UInt8) then (spec_LsClear.j0 k y127 true a0_0 a0_1 a0_2 a0_3 a0_4 a0_5 a0_6 a0_7 a0_8) else (if 0 < (a0_5.size : Int) then (if (bt a0_5 0) = 32 then (spec_LsClear.j0 k y127 true a0_0 a0_1 a0_2 a0_3 a0_4 a0_5 a0_6 a0_7 a0_8) else (spec_LsClear.j0 k y127 (a0_8.toList != ([] : List UInt8)) a0_0 a0_1 a0_2 a0_3 a0_4 a0_5 a0_6 a0_7 a0_8)) else (none)))
theorem spec_LsClear.mono_l : ∀ k, (∀ y0 y1 y2 y3 y4 y5 y6 y7 y8 y9 y10, LeO (spec_LsClear.j0 k y0 y1 y2 y3 y4 y5 y6 y7 y8 y9 y10) (spec_LsClear.j0 (k + 1) y0 y1 y2 y3 y4 y5 y6 y7 y8 y9 y10)) ∧ (∀ y0 y1 y2 y3 y4 y5 y6 y7 y8 y9 y10 y11 y12, LeO (spec_LsClear.l0 k y0 y1 y2 y3 y4 y5 y6 y7 y8 y9 y10 y11 y12) (spec_LsClear.l0 (k + 1) y0 y1 y2 y3 y4 y5 y6 y7 y8 y9 y10 y11 y12)) ∧ (∀ y0 y1 y2 y3 y4 y5 y6 y7 y8 y9 y10 y11 y12 y13 y14, LeO (spec_LsClear.j2 k y0 y1 y2 y3 y4 y5 y6 y7 y8 y9 y10 y11 y12 y13 y14) (spec_LsClear.j2 (k + 1) y0 y1 y2 y3 y4 y5 y6 y7 y8 y9 y10 y11 y12 y13 y14)) ∧ (∀ y0 y1 y2 y3 y4 y5 y6 y7 y8 y9 y10 y11 y12 y13 y14 y15 y16, LeO (spec_LsClear.l1 k y0 y1 y2 y3 y4 y5 y6 y7 y8 y9 y10 y11 y12 y13 y14 y15 y16) (spec_LsClear.l1 (k + 1) y0 y1 y2 y3 y4 y5 y6 y7 y8 y9 y10 y11 y12 y13 y14 y15 y16))
  | 0 => ⟨fun _ _ _ _ _ _ _ _ _ _ _ r h => by simp [spec_LsClear.j0] at h, fun _ _ _ _ _ _ _ _ _ _ _ _ _ r h => by simp [spec_LsClear.l0] at h, fun _ _ _ _ _ _ _ _ _ _ _ _ _ _ _ r h => by simp [spec_LsClear.j2] at h, fun _ _ _ _ _ _ _ _ _ _ _ _ _ _ _ _ _ r h => by simp [spec_LsClear.l1] at h⟩
  | k + 1 => by
    obtain ⟨ih0, ih1, ih2, ih3⟩ := spec_LsClear.mono_l k
    refine ⟨?_, ?_, ?_, ?_⟩
    · intro y0 y1 y2 y3 y4 y5 y6 y7 y8 y9 y10
      unfold spec_LsClear.j0
      repeat' first
      | (with_reducible exact ih0 _ _ _ _ _ _ _ _ _ _ _)
      | (with_reducible exact ih1 _ _ _ _ _ _ _ _ _ _ _ _ _)
      | (with_reducible exact ih2 _ _ _ _ _ _ _ _ _ _ _ _ _ _ _)
      | (with_reducible exact ih3 _ _ _ _ _ _ _ _ _ _ _ _ _ _ _ _ _)
      | (with_reducible exact LeO.refl _)
      | (with_reducible exact LeO.none _)
      | (with_reducible refine LeO.ite ?_ ?_)
      | (with_reducible refine LeO.bind ?_ (fun _ => ?_))
      | exact ih0 _ _ _ _ _ _ _ _ _ _ _
      | exact ih1 _ _ _ _ _ _ _ _ _ _ _ _ _
      | exact ih2 _ _ _ _ _ _ _ _ _ _ _ _ _ _ _
      | exact ih3 _ _ _ _ _ _ _ _ _ _ _ _ _ _ _ _ _
      | exact LeO.none _
      | refine LeO.ite ?_ ?_
      | refine LeO.bind ?_ (fun _ => ?_)
    · intro y0 y1 y2 y3 y4 y5 y6 y7 y8 y9 y10 y11 y12
      unfold spec_LsClear.l0
      repeat' first
      | (with_reducible exact ih0 _ _ _ _ _ _ _ _ _ _ _)
      | (with_reducible exact ih1 _ _ _ _ _ _ _ _ _ _ _ _ _)
      | (with_reducible exact ih2 _ _ _ _ _ _ _ _ _ _ _ _ _ _ _)
      | (with_reducible exact ih3 _ _ _ _ _ _ _ _ _ _ _ _ _ _ _ _ _)
      | (with_reducible exact LeO.refl _)
      | (with_reducible exact LeO.none _)
      | (with_reducible refine LeO.ite ?_ ?_)
      | (with_reducible refine LeO.bind ?_ (fun _ => ?_))
      | exact ih0 _ _ _ _ _ _ _ _ _ _ _
      | exact ih1 _ _ _ _ _ _ _ _ _ _ _ _ _
      | exact ih2 _ _ _ _ _ _ _ _ _ _ _ _ _ _ _
      | exact ih3 _ _ _ _ _ _ _ _ _ _ _ _ _ _ _ _ _
      | exact LeO.none _
      | refine LeO.ite ?_ ?_
      | refine LeO.bind ?_ (fun _ => ?_)
    · intro y0 y1 y2 y3 y4 y5 y6 y7 y8 y9 y10 y11 y12 y13 y14
      unfold spec_LsClear.j2
      repeat' first
      | (with_reducible exact ih0 _ _ _ _ _ _ _ _ _ _ _)
      | (with_reducible exact ih1 _ _ _ _ _ _ _ _ _ _ _ _ _)
      | (with_reducible exact ih2 _ _ _ _ _ _ _ _ _ _ _ _ _ _ _)
      | (with_reducible exact ih3 _ _ _ _ _ _ _ _ _ _ _ _ _ _ _ _ _)
      | (with_reducible exact LeO.refl _)
      | (with_reducible exact LeO.none _)
      | (with_reducible refine LeO.ite ?_ ?_)
      | (with_reducible refine LeO.bind ?_ (fun _ => ?_))
      | exact ih0 _ _ _ _ _ _ _ _ _ _ _
      | exact ih1 _ _ _ _ _ _ _ _ _ _ _ _ _
      | exact ih2 _ _ _ _ _ _ _ _ _ _ _ _ _ _ _
      | exact ih3 _ _ _ _ _ _ _ _ _ _ _ _ _ _ _ _ _
      | exact LeO.none _
      | refine LeO.ite ?_ ?_
      | refine LeO.bind ?_ (fun _ => ?_)
    · intro y0 y1 y2 y3 y4 y5 y6 y7 y8 y9 y10 y11 y12 y13 y14 y15 y16
      unfold spec_LsClear.l1
      repeat' first
      | (with_reducible exact ih0 _ _ _ _ _ _ _ _ _ _ _)
      | (with_reducible exact ih1 _ _ _ _ _ _ _ _ _ _ _ _ _)
      | (with_reducible exact ih2 _ _ _ _ _ _ _ _ _ _ _ _ _ _ _)
      | (with_reducible exact ih3 _ _ _ _ _ _ _ _ _ _ _ _ _ _ _ _ _)
      | (with_reducible exact LeO.refl _)
      | (with_reducible exact LeO.none _)
      | (with_reducible refine LeO.ite ?_ ?_)
      | (with_reducible refine LeO.bind ?_ (fun _ => ?_))
      | exact ih0 _ _ _ _ _ _ _ _ _ _ _
      | exact ih1 _ _ _ _ _ _ _ _ _ _ _ _ _
      | exact ih2 _ _ _ _ _ _ _ _ _ _ _ _ _ _ _
      | exact ih3 _ _ _ _ _ _ _ _ _ _ _ _ _ _ _ _ _
      | exact LeO.none _
      | refine LeO.ite ?_ ?_
      | refine LeO.bind ?_ (fun _ => ?_)
theorem spec_LsClear.mono : ∀ a0 a1 a2 a3 a4 a5 a6 a7 a8 k, LeO (spec_LsClear.f k a0 a1 a2 a3 a4 a5 a6 a7 a8) (spec_LsClear.f (k + 1) a0 a1 a2 a3 a4 a5 a6 a7 a8) := by
  intro a0 a1 a2 a3 a4 a5 a6 a7 a8 k
  obtain ⟨ih0, ih1, ih2, ih3⟩ := spec_LsClear.mono_l k
  unfold spec_LsClear.f
  repeat' first
      | (with_reducible exact ih0 _ _ _ _ _ _ _ _ _ _ _)
      | (with_reducible exact ih1 _ _ _ _ _ _ _ _ _ _ _ _ _)
      | (with_reducible exact ih2 _ _ _ _ _ _ _ _ _ _ _ _ _ _ _)
      | (with_reducible exact ih3 _ _ _ _ _ _ _ _ _ _ _ _ _ _ _ _ _)
      | (with_reducible exact LeO.refl _)
      | (with_reducible exact LeO.none _)
      | (with_reducible refine LeO.ite ?_ ?_)
      | (with_reducible refine LeO.bind ?_ (fun _ => ?_))
      | exact ih0 _ _ _ _ _ _ _ _ _ _ _
      | exact ih1 _ _ _ _ _ _ _ _ _ _ _ _ _
      | exact ih2 _ _ _ _ _ _ _ _ _ _ _ _ _ _ _
      | exact ih3 _ _ _ _ _ _ _ _ _ _ _ _ _ _ _ _ _
      | exact LeO.none _
      | refine LeO.ite ?_ ?_
      | refine LeO.bind ?_ (fun _ => ?_)
set_option maxHeartbeats 8000000 in
set_option maxRecDepth 100000 in
theorem spec_LsClear.calls (k : Nat) (a0_0 : Int) (a0_1 : ByteArray) (a0_2 : ByteArray) (a0_3 : ByteArray) (a0_4 : ByteArray) (a0_5 : ByteArray) (a0_6 : ByteArray) (a0_7 : ByteArray) (a0_8 : ByteArray) (r : Bool) (w : World) (h : spec_LsClear.f k a0_0 a0_1 a0_2 a0_3 a0_4 a0_5 a0_6 a0_7 a0_8 = some r) :
    Calls Tryz.prog 10 #[.agg #[.int .i64 a0_0, .string a0_1, .string a0_2, .string a0_3, .string a0_4, .string a0_5, .string a0_6, .string a0_7, .string a0_8]] w fun e w' => e = .returned (.bool r) ∧ Below w.heap.size w w' := by
  have hu24 := Tryz.underlying24
  have HB := Aside0.mk (Below.refl w.heap.size w)
  have H : ((some (([a0_1, a0_2, a0_3, a0_4, a0_6] : List ByteArray) : List ByteArray)).bind fun y127 => (if a0_5.toList = ([] : List UInt8) then (spec_LsClear.j0 k y127 true a0_0 a0_1 a0_2 a0_3 a0_4 a0_5 a0_6 a0_7 a0_8) else (if 0 < (a0_5.size : Int) then (if (bt a0_5 0) = 32 then (spec_LsClear.j0 k y127 true a0_0 a0_1 a0_2 a0_3 a0_4 a0_5 a0_6 a0_7 a0_8) else (spec_LsClear.j0 k y127 (a0_8.toList != ([] : List UInt8)) a0_0 a0_1 a0_2 a0_3 a0_4 a0_5 a0_6 a0_7 a0_8)) else (none)))) = some r := h
  clear h
  obtain ⟨y127, hy127⟩ : ∃ y_ : List ByteArray, y_ = (([a0_1, a0_2, a0_3, a0_4, a0_6] : List ByteArray)) := ⟨_, rfl⟩
  replace H : (if a0_5.toList = ([] : List UInt8) then (spec_LsClear.j0 k y127 true a0_0 a0_1 a0_2 a0_3 a0_4 a0_5 a0_6 a0_7 a0_8) else (if 0 < (a0_5.size : Int) then (if (bt a0_5 0) = 32 then (spec_LsClear.j0 k y127 true a0_0 a0_1 a0_2 a0_3 a0_4 a0_5 a0_6 a0_7 a0_8) else (spec_LsClear.j0 k y127 (a0_8.toList != ([] : List UInt8)) a0_0 a0_1 a0_2 a0_3 a0_4 a0_5 a0_6 a0_7 a0_8)) else (none))) = some r := by first | (rw [hy127]; with_reducible exact H) | (have H2_ := (Option.bind_some _ _).symm.trans H; rw [hy127]; with_reducible exact H2_) | (have H2_ := (Option.bind_some _ _).symm.trans H; with_reducible exact H2_) | with_reducible exact H | (rw [hy127]; exact H) | exact H
  have Ny127 := Aside0.mk hy127
  clear hy127
  have HC2 := Aside0.mk H
  clear H
  go_enter Tryz.func10, Tryz.ntmps10
  go_upto_region 2 with (first | ((with_reducible refine gate_dst (N := 1) rfl ?_); refine box_event ?hg (N := 1) ?hd (cs := #[.int .i64 a0_0, .string a0_1, .string a0_2, .string a0_3, .string a0_4, .string a0_5, .string a0_6, .string a0_7, .string a0_8]) (t := 24) ?hr ?_; (case hd => rfl); (case hg => rfl); (case hr => first | (go_simp; done) | (go_simp; rfl)); intro gb126 hg w3 hbox hb; have n0_ := Aside0.mk (below_step (by repeat (first | (with_reducible first | exact HB.out | apply below_alloc | apply pw_below_drewN | apply below_drew1) | exact HB.out)) hb); have n1_ := Aside0.mk (hbox); have n2_ := Aside0.mk ((by rw [hg]; exact (below_size (by repeat (first | (with_reducible first | exact HB.out | apply below_alloc | apply pw_below_drewN | apply below_drew1) | exact HB.out))) : w.heap.size ≤ gb126)); have n3_ := Aside0.mk ((by rw [hg]; exact (below_size (by repeat (first | (with_reducible first | exact HB.out | apply below_alloc | apply pw_below_drewN | apply below_drew1) | exact HB.out))) : w.heap.size ≤ gb126)); clear HB; have HB := n0_; have BK126 := n1_; have GW126 := n2_; have GE126 := n3_; clear n0_ n1_ n2_ n3_; clear hb hbox hg; have hcz4_0 : w3.cell? ⟨gb126, 0, none⟩ = some (.int .i64 a0_0) := (blk_cell BK126.out 0).trans rfl; have hcz4_1 : w3.cell? ⟨gb126, 1, none⟩ = some (.string a0_1) := (blk_cell BK126.out 1).trans rfl; have hcz4_2 : w3.cell? ⟨gb126, 2, none⟩ = some (.string a0_2) := (blk_cell BK126.out 2).trans rfl; have hcz4_3 : w3.cell? ⟨gb126, 3, none⟩ = some (.string a0_3) := (blk_cell BK126.out 3).trans rfl; have hcz4_4 : w3.cell? ⟨gb126, 4, none⟩ = some (.string a0_4) := (blk_cell BK126.out 4).trans rfl; have hcz4_5 : w3.cell? ⟨gb126, 5, none⟩ = some (.string a0_5) := (blk_cell BK126.out 5).trans rfl; have hcz4_6 : w3.cell? ⟨gb126, 6, none⟩ = some (.string a0_6) := (blk_cell BK126.out 6).trans rfl; have hcz4_7 : w3.cell? ⟨gb126, 7, none⟩ = some (.string a0_7) := (blk_cell BK126.out 7).trans rfl; have hcz4_8 : w3.cell? ⟨gb126, 8, none⟩ = some (.string a0_8) := (blk_cell BK126.out 8).trans rfl; have hfz4_0 := blk_frozen BK126.out 0; have hfz4_1 := blk_frozen BK126.out 1; have hfz4_2 := blk_frozen BK126.out 2; have hfz4_3 := blk_frozen BK126.out 3; have hfz4_4 := blk_frozen BK126.out 4; have hfz4_5 := blk_frozen BK126.out 5; have hfz4_6 := blk_frozen BK126.out 6; have hfz4_7 := blk_frozen BK126.out 7; have hfz4_8 := blk_frozen BK126.out 8) | ((with_reducible refine gate_dst (N := 24) rfl ?_); refine Kd.R_lit Kd.string _ 9 ?hg (N := 24) ?hd (xs := ([a0_1, a0_2, a0_3, a0_4, a0_6] : List ByteArray)) (inner := [.string a0_1, .string a0_2, .string a0_3, .string a0_4, .string a0_6]) (ok := fun _ => True) (okp := fun _ => True) ?hr ?hp (fun _ hk => hk) trivial (Below.refl _ _) (Nat.le_refl _) (by simp) ?_; (case hd => rfl); (case hg => rfl); (case hr => first | (go_simp; done) | (go_simp; rfl)); (case hp => exact (Reps.one (show Kd.M Kd.string _ _ _ a0_1 [.string a0_1] from rfl) (Reps.one (show Kd.M Kd.string _ _ _ a0_2 [.string a0_2] from rfl) (Reps.one (show Kd.M Kd.string _ _ _ a0_3 [.string a0_3] from rfl) (Reps.one (show Kd.M Kd.string _ _ _ a0_4 [.string a0_4] from rfl) (Reps.one (show Kd.M Kd.string _ _ _ a0_6 [.string a0_6] from rfl) (Reps.none _ _))))))); intro v128 w5 ho6 hb hg_ hnew_; clear hg_ hnew_; (first | rw [← Ny127.out] at ho6 | (simp only [Int.reduceToNat] at ho6; rw [← Ny127.out] at ho6)); have n0_ := Aside0.mk (Kd.R_lower ho6 (below_size (by repeat (first | (with_reducible first | exact HB.out | apply below_alloc | apply pw_below_drewN | apply below_drew1 | refine below_set ?_ GE126.out) | exact HB.out)))); have n1_ := Aside0.mk (blk_below (g := gb126) (o := .cells #[.int .i64 a0_0, .string a0_1, .string a0_2, .string a0_3, .string a0_4, .string a0_5, .string a0_6, .string a0_7, .string a0_8] 24 (0, 0)) (by (with_reducible repeat (first | refine blk_drewN ?_ _ | refine blk_drew ?_ | refine blk_alloc ?_ _)); exact BK126.out) hb); have n2_ := Aside0.mk (below_step (by repeat (first | (with_reducible first | exact HB.out | apply below_alloc | apply pw_below_drewN | apply below_drew1 | refine below_set ?_ GE126.out) | exact HB.out)) hb); clear BK126; clear HB; have HO129 := n0_; have BK126 := n1_; have HB := n2_; clear n0_ n1_ n2_; clear hb ho6))
  (try simp only [Act.put, List.setIfInBounds_toArray, List.set_cons_zero, List.set_cons_succ])
  go_cut [38] (fun v38 wc => ∃ (kq : Nat) (x38_1 : Bool), v38 = .bool x38_1 ∧ Aside0 (spec_LsClear.j0 kq y127 x38_1 a0_0 a0_1 a0_2 a0_3 a0_4 a0_5 a0_6 a0_7 a0_8 = some r) ∧ Aside0 (kq ≤ k) ∧ Aside0 (Kd.R Kd.string 9 wc w.heap.size (fun _ => True) v128 y127) ∧ Aside0 (wc.heap[gb126]? = some (.cells #[.int .i64 a0_0, .string a0_1, .string a0_2, .string a0_3, .string a0_4, .string a0_5, .string a0_6, .string a0_7, .string a0_8] 24 (0, 0))) ∧ Aside0 (Below w.heap.size w wc))
  case first =>
    have H := HC2.out
    clear HC2
    by_cases c7 : a0_5.toList = ([] : List UInt8)
    · rw [if_pos c7] at H
      have c7b0 : (a0_5.toList == ([] : List UInt8)) = true := beq_iff_eq.mpr c7
      have c7b7 : a0_5.toList.isEmpty = true := by simpa using c7
      have c7b1 : (a0_5.toList != ([] : List UInt8)) = false := bne_eq_false_iff_eq.mpr c7
      clear c7
      (first | rw [c7b0] | rw [c7b7] | (simp only [i64_w, i32_w]; rw [c7b0]) | skip)
      have H' := Aside0.mk H
      clear H
      have hcz8_0 : w5.cell? ⟨gb126, 0, none⟩ = some (.int .i64 a0_0) := (blk_cell BK126.out 0).trans rfl
      have hcz8_1 : w5.cell? ⟨gb126, 1, none⟩ = some (.string a0_1) := (blk_cell BK126.out 1).trans rfl
      have hcz8_2 : w5.cell? ⟨gb126, 2, none⟩ = some (.string a0_2) := (blk_cell BK126.out 2).trans rfl
      have hcz8_3 : w5.cell? ⟨gb126, 3, none⟩ = some (.string a0_3) := (blk_cell BK126.out 3).trans rfl
      have hcz8_4 : w5.cell? ⟨gb126, 4, none⟩ = some (.string a0_4) := (blk_cell BK126.out 4).trans rfl
      have hcz8_5 : w5.cell? ⟨gb126, 5, none⟩ = some (.string a0_5) := (blk_cell BK126.out 5).trans rfl
      have hcz8_6 : w5.cell? ⟨gb126, 6, none⟩ = some (.string a0_6) := (blk_cell BK126.out 6).trans rfl
      have hcz8_7 : w5.cell? ⟨gb126, 7, none⟩ = some (.string a0_7) := (blk_cell BK126.out 7).trans rfl
      have hcz8_8 : w5.cell? ⟨gb126, 8, none⟩ = some (.string a0_8) := (blk_cell BK126.out 8).trans rfl
      have hfz8_0 := blk_frozen BK126.out 0
      have hfz8_1 := blk_frozen BK126.out 1
      have hfz8_2 := blk_frozen BK126.out 2
      have hfz8_3 := blk_frozen BK126.out 3
      have hfz8_4 := blk_frozen BK126.out 4
      have hfz8_5 := blk_frozen BK126.out 5
      have hfz8_6 := blk_frozen BK126.out 6
      have hfz8_7 := blk_frozen BK126.out 7
      have hfz8_8 := blk_frozen BK126.out 8
      go_wp2
      go_meet
      case rel => exact ⟨_, (true), (by first | rfl | (simp; done) | (simp [*]; done)), H', ⟨by first | omega | exact Nat.le_refl _⟩, ⟨by (with_reducible repeat (first | apply Kd.R_alloc | apply Kd.R_drewN | apply Kd.R_drew)); exact HO129.out⟩, ⟨by (with_reducible repeat (first | refine blk_drewN ?_ _ | refine blk_drew ?_ | refine blk_alloc ?_ _)); exact BK126.out⟩, ⟨by repeat (first | (with_reducible first | exact HB.out | apply below_alloc | apply pw_below_drewN | apply below_drew1 | refine below_set ?_ GE126.out) | exact HB.out)⟩⟩
    · rw [if_neg c7] at H
      have c7b0 : (a0_5.toList == ([] : List UInt8)) = false := beq_eq_false_iff_ne.mpr c7
      have c7b7 : a0_5.toList.isEmpty = false := by simpa using c7
      have c7b1 : (a0_5.toList != ([] : List UInt8)) = true := bne_iff_ne.mpr c7
      (first | rw [c7b0] | rw [c7b7] | (simp only [i64_w, i32_w]; rw [c7b0]) | skip)
      by_cases c9 : 0 < (a0_5.size : Int)
      · rw [if_pos c9] at H
        have c9b0 : decide (0 < (a0_5.size : Int)) = true := decide_eq_true c9
        have c9b1 : decide (0 < a0_5.size) = true := decide_eq_true (by omega)
        clear c9
        by_cases c11 : (bt a0_5 0) = 32
        · rw [if_pos c11] at H
          have c11b0 : ((bt a0_5 0) == 32) = true := beq_iff_eq.mpr c11
          have c11b1 : ((bt a0_5 0) != 32) = false := bne_eq_false_iff_eq.mpr c11
          clear c11
          have H' := Aside0.mk H
          clear H
          have hcz12_0 : w5.cell? ⟨gb126, 0, none⟩ = some (.int .i64 a0_0) := (blk_cell BK126.out 0).trans rfl
          have hcz12_1 : w5.cell? ⟨gb126, 1, none⟩ = some (.string a0_1) := (blk_cell BK126.out 1).trans rfl
          have hcz12_2 : w5.cell? ⟨gb126, 2, none⟩ = some (.string a0_2) := (blk_cell BK126.out 2).trans rfl
          have hcz12_3 : w5.cell? ⟨gb126, 3, none⟩ = some (.string a0_3) := (blk_cell BK126.out 3).trans rfl
          have hcz12_4 : w5.cell? ⟨gb126, 4, none⟩ = some (.string a0_4) := (blk_cell BK126.out 4).trans rfl
          have hcz12_5 : w5.cell? ⟨gb126, 5, none⟩ = some (.string a0_5) := (blk_cell BK126.out 5).trans rfl
          have hcz12_6 : w5.cell? ⟨gb126, 6, none⟩ = some (.string a0_6) := (blk_cell BK126.out 6).trans rfl
          have hcz12_7 : w5.cell? ⟨gb126, 7, none⟩ = some (.string a0_7) := (blk_cell BK126.out 7).trans rfl
          have hcz12_8 : w5.cell? ⟨gb126, 8, none⟩ = some (.string a0_8) := (blk_cell BK126.out 8).trans rfl
          have hfz12_0 := blk_frozen BK126.out 0
          have hfz12_1 := blk_frozen BK126.out 1
          have hfz12_2 := blk_frozen BK126.out 2
          have hfz12_3 := blk_frozen BK126.out 3
          have hfz12_4 := blk_frozen BK126.out 4
          have hfz12_5 := blk_frozen BK126.out 5
          have hfz12_6 := blk_frozen BK126.out 6
          have hfz12_7 := blk_frozen BK126.out 7
          have hfz12_8 := blk_frozen BK126.out 8
          have p10 : 0 ≤ (0 : Int) := (by omega)
          have q10 : 0 < a0_5.size := (by have : (0 : Int) < (a0_5.size : Int) := of_decide_eq_true (by first | (with_reducible assumption) | assumption); omega)
          have hx10 : ∀ h : 0 < a0_5.size, ((a0_5[0]'h).toNat : Int) = bt a0_5 0 := bt_at a0_5 0
          clear p10
          have qi10 : (0 < (a0_5.size : Int)) = True := eq_true (of_decide_eq_true (by first | (with_reducible assumption) | assumption))
          replace q10 := eq_true q10
          go_wp2
          go_meet
          case rel => exact ⟨_, (true), (by first | rfl | (simp; done) | (simp [*]; done)), H', ⟨by first | omega | exact Nat.le_refl _⟩, ⟨by (with_reducible repeat (first | apply Kd.R_alloc | apply Kd.R_drewN | apply Kd.R_drew)); exact HO129.out⟩, ⟨by (with_reducible repeat (first | refine blk_drewN ?_ _ | refine blk_drew ?_ | refine blk_alloc ?_ _)); exact BK126.out⟩, ⟨by repeat (first | (with_reducible first | exact HB.out | apply below_alloc | apply pw_below_drewN | apply below_drew1 | refine below_set ?_ GE126.out) | exact HB.out)⟩⟩
        · rw [if_neg c11] at H
          have c11b0 : ((bt a0_5 0) == 32) = false := beq_eq_false_iff_ne.mpr c11
          have c11b1 : ((bt a0_5 0) != 32) = true := bne_iff_ne.mpr c11
          have H' := Aside0.mk H
          clear H
          have hcz13_0 : w5.cell? ⟨gb126, 0, none⟩ = some (.int .i64 a0_0) := (blk_cell BK126.out 0).trans rfl
          have hcz13_1 : w5.cell? ⟨gb126, 1, none⟩ = some (.string a0_1) := (blk_cell BK126.out 1).trans rfl
          have hcz13_2 : w5.cell? ⟨gb126, 2, none⟩ = some (.string a0_2) := (blk_cell BK126.out 2).trans rfl
          have hcz13_3 : w5.cell? ⟨gb126, 3, none⟩ = some (.string a0_3) := (blk_cell BK126.out 3).trans rfl
          have hcz13_4 : w5.cell? ⟨gb126, 4, none⟩ = some (.string a0_4) := (blk_cell BK126.out 4).trans rfl
          have hcz13_5 : w5.cell? ⟨gb126, 5, none⟩ = some (.string a0_5) := (blk_cell BK126.out 5).trans rfl
          have hcz13_6 : w5.cell? ⟨gb126, 6, none⟩ = some (.string a0_6) := (blk_cell BK126.out 6).trans rfl
          have hcz13_7 : w5.cell? ⟨gb126, 7, none⟩ = some (.string a0_7) := (blk_cell BK126.out 7).trans rfl
          have hcz13_8 : w5.cell? ⟨gb126, 8, none⟩ = some (.string a0_8) := (blk_cell BK126.out 8).trans rfl
          have hfz13_0 := blk_frozen BK126.out 0
          have hfz13_1 := blk_frozen BK126.out 1
          have hfz13_2 := blk_frozen BK126.out 2
          have hfz13_3 := blk_frozen BK126.out 3
          have hfz13_4 := blk_frozen BK126.out 4
          have hfz13_5 := blk_frozen BK126.out 5
          have hfz13_6 := blk_frozen BK126.out 6
          have hfz13_7 := blk_frozen BK126.out 7
          have hfz13_8 := blk_frozen BK126.out 8
          have p10 : 0 ≤ (0 : Int) := (by omega)
          have q10 : 0 < a0_5.size := (by have : (0 : Int) < (a0_5.size : Int) := of_decide_eq_true (by first | (with_reducible assumption) | assumption); omega)
          have hx10 : ∀ h : 0 < a0_5.size, ((a0_5[0]'h).toNat : Int) = bt a0_5 0 := bt_at a0_5 0
          clear p10
          have qi10 : (0 < (a0_5.size : Int)) = True := eq_true (of_decide_eq_true (by first | (with_reducible assumption) | assumption))
          replace q10 := eq_true q10
          go_wp2
          go_meet
          case rel => exact ⟨_, ((a0_8.toList != ([] : List UInt8))), (by first | rfl | (simp; done) | (have e_ : ∀ l_ : List UInt8, (l_ != []) = !l_.isEmpty := fun l_ => (by cases l_ <;> rfl); simp [e_]; done) | (simp [*]; done)), H', ⟨by first | omega | exact Nat.le_refl _⟩, ⟨by (with_reducible repeat (first | apply Kd.R_alloc | apply Kd.R_drewN | apply Kd.R_drew)); exact HO129.out⟩, ⟨by (with_reducible repeat (first | refine blk_drewN ?_ _ | refine blk_drew ?_ | refine blk_alloc ?_ _)); exact BK126.out⟩, ⟨by repeat (first | (with_reducible first | exact HB.out | apply below_alloc | apply pw_below_drewN | apply below_drew1 | refine below_set ?_ GE126.out) | exact HB.out)⟩⟩
      · rw [if_neg c9] at H
        exact absurd H (by simp)
  case rest =>
    clear HC2
    try clear c1
    try clear p1
    try clear q1
    try clear hx1
    try clear qi1
    try clear p2
    try clear c7
    try clear c7b0
    try clear c7b1
    try clear c9
    try clear c9b0
    try clear c9b1
    try clear c10
    try clear p10
    try clear q10
    try clear hx10
    try clear qi10
    try clear c11
    try clear c11b0
    try clear c11b1
    try clear hcz12_0
    try clear hcz12_1
    try clear hcz12_2
    try clear hcz12_3
    try clear hcz12_4
    try clear hcz12_5
    try clear hcz12_6
    try clear hcz12_7
    try clear hcz12_8
    try clear hcz13_0
    try clear hcz13_1
    try clear hcz13_2
    try clear hcz13_3
    try clear hcz13_4
    try clear hcz13_5
    try clear hcz13_6
    try clear hcz13_7
    try clear hcz13_8
    try clear hcz4_0
    try clear hcz4_1
    try clear hcz4_2
    try clear hcz4_3
    try clear hcz4_4
    try clear hcz4_5
    try clear hcz4_6
    try clear hcz4_7
    try clear hcz4_8
    try clear hcz8_0
    try clear hcz8_1
    try clear hcz8_2
    try clear hcz8_3
    try clear hcz8_4
    try clear hcz8_5
    try clear hcz8_6
    try clear hcz8_7
    try clear hcz8_8
    try clear hfz12_0
    try clear hfz12_1
    try clear hfz12_2
    try clear hfz12_3
    try clear hfz12_4
    try clear hfz12_5
    try clear hfz12_6
    try clear hfz12_7
    try clear hfz12_8
    try clear hfz13_0
    try clear hfz13_1
    try clear hfz13_2
    try clear hfz13_3
    try clear hfz13_4
    try clear hfz13_5
    try clear hfz13_6
    try clear hfz13_7
    try clear hfz13_8
    try clear hfz4_0
    try clear hfz4_1
    try clear hfz4_2
    try clear hfz4_3
    try clear hfz4_4
    try clear hfz4_5
    try clear hfz4_6
    try clear hfz4_7
    try clear hfz4_8
    try clear hfz8_0
    try clear hfz8_1
    try clear hfz8_2
    try clear hfz8_3
    try clear hfz8_4
    try clear hfz8_5
    try clear hfz8_6
    try clear hfz8_7
    try clear hfz8_8
    try clear p10
    try clear q10
    obtain ⟨kq, x38_1, rfl, HA, HJ1, HO_3, BK126, HB⟩ := hcut
    cases kq with
    | zero => exact absurd HA.out (by simp [spec_LsClear.j0])
    | succ kj1 =>
      have H := HA.out
      clear HA
      simp only [spec_LsClear.j0] at H
      by_cases c14 : x38_1 = true
      · subst c14
        have H1 : (some false) = some r := by rw [if_pos rfl] at H; exact H
        clear H
        have H := H1
        clear H1
        obtain rfl := Option.some.inj H
        go_wp2
        go_ret
        exact ⟨by first | rfl | (simp [errW_none, errW_some] <;> rfl) | (have e_ : ∀ l_ : List UInt8, (l_ != []) = !l_.isEmpty := fun l_ => (by cases l_ <;> rfl); simp [errW_none, errW_some, e_]; done) | (simp [*, errW_none, errW_some] <;> rfl), by repeat (first | (with_reducible first | exact HB.out | apply below_alloc | apply pw_below_drewN | apply below_drew1 | refine below_set ?_ GE126.out) | exact HB.out)⟩
      · replace c14 := Bool.eq_false_iff.mpr c14
        subst c14
        have H1 : (spec_LsClear.l0 kj1 y127 y127 (y127.length : Int) 0 a0_0 a0_1 a0_2 a0_3 a0_4 a0_5 a0_6 a0_7 a0_8) = some r := by rw [if_neg (show ¬ (false = true) by decide)] at H; exact H
        clear H
        have H := H1
        clear H1
        have H' := Aside0.mk H
        clear H
        obtain ⟨Ao15, co15, eo15⟩ := Kd.R_slice HO_3.out
        subst eo15
        go_wp2
        go_loopg [41] kj1 (fun kq v41 w' => ∃ (x41_2 : Int), v41 = .int .i64 x41_2 ∧ Aside0 (spec_LsClear.l0 kq y127 y127 (y127.length : Int) x41_2 a0_0 a0_1 a0_2 a0_3 a0_4 a0_5 a0_6 a0_7 a0_8 = some r) ∧ Aside0 (kq ≤ kj1) ∧ Aside0 (Kd.R Kd.string 9 w' w.heap.size (fun _ => True) (.slice Ao15 y127.length co15) y127) ∧ Aside0 (Kd.R Kd.string 9 w' w.heap.size (fun _ => True) (.slice Ao15 y127.length co15) y127) ∧ Aside0 (w'.heap[gb126]? = some (.cells #[.int .i64 a0_0, .string a0_1, .string a0_2, .string a0_3, .string a0_4, .string a0_5, .string a0_6, .string a0_7, .string a0_8] 24 (0, 0))) ∧ Aside0 (Below w.heap.size w w'))
        case atStart => exact ⟨(0), (by first | rfl | (simp; done) | (simp [*]; done)), H', ⟨Nat.le_refl _⟩, ⟨by (with_reducible repeat (first | apply Kd.R_alloc | apply Kd.R_drewN | apply Kd.R_drew)); exact HO_3.out⟩, ⟨by (with_reducible repeat (first | apply Kd.R_alloc | apply Kd.R_drewN | apply Kd.R_drew)); exact HO_3.out⟩, ⟨by (with_reducible repeat (first | refine blk_drewN ?_ _ | refine blk_drew ?_ | refine blk_alloc ?_ _)); exact BK126.out⟩, ⟨by repeat (first | (with_reducible first | exact HB.out | apply below_alloc | apply pw_below_drewN | apply below_drew1 | refine below_set ?_ GE126.out) | exact HB.out)⟩⟩
        case round =>
          clear H'
          try clear c1
          try clear p1
          try clear q1
          try clear hx1
          try clear qi1
          try clear p2
          try clear c7
          try clear c7b0
          try clear c7b1
          try clear c9
          try clear c9b0
          try clear c9b1
          try clear c10
          try clear p10
          try clear q10
          try clear hx10
          try clear qi10
          try clear c11
          try clear c11b0
          try clear c11b1
          try clear c14
          try clear hcz12_0
          try clear hcz12_1
          try clear hcz12_2
          try clear hcz12_3
          try clear hcz12_4
          try clear hcz12_5
          try clear hcz12_6
          try clear hcz12_7
          try clear hcz12_8
          try clear hcz13_0
          try clear hcz13_1
          try clear hcz13_2
          try clear hcz13_3
          try clear hcz13_4
          try clear hcz13_5
          try clear hcz13_6
          try clear hcz13_7
          try clear hcz13_8
          try clear hcz4_0
          try clear hcz4_1
          try clear hcz4_2
          try clear hcz4_3
          try clear hcz4_4
          try clear hcz4_5
          try clear hcz4_6
          try clear hcz4_7
          try clear hcz4_8
          try clear hcz8_0
          try clear hcz8_1
          try clear hcz8_2
          try clear hcz8_3
          try clear hcz8_4
          try clear hcz8_5
          try clear hcz8_6
          try clear hcz8_7
          try clear hcz8_8
          try clear hfz12_0
          try clear hfz12_1
          try clear hfz12_2
          try clear hfz12_3
          try clear hfz12_4
          try clear hfz12_5
          try clear hfz12_6
          try clear hfz12_7
          try clear hfz12_8
          try clear hfz13_0
          try clear hfz13_1
          try clear hfz13_2
          try clear hfz13_3
          try clear hfz13_4
          try clear hfz13_5
          try clear hfz13_6
          try clear hfz13_7
          try clear hfz13_8
          try clear hfz4_0
          try clear hfz4_1
          try clear hfz4_2
          try clear hfz4_3
          try clear hfz4_4
          try clear hfz4_5
          try clear hfz4_6
          try clear hfz4_7
          try clear hfz4_8
          try clear hfz8_0
          try clear hfz8_1
          try clear hfz8_2
          try clear hfz8_3
          try clear hfz8_4
          try clear hfz8_5
          try clear hfz8_6
          try clear hfz8_7
          try clear hfz8_8
          try clear p1
          try clear p10
          try clear p2
          try clear q1
          try clear q10
          obtain ⟨x41_2, rfl, HA, HK2, HO_3, HO_39, BK126, HB⟩ := hrel
          cases gk with
          | zero => exact absurd HA.out (by simp [spec_LsClear.l0])
          | succ k2 =>
            have H := HA.out
            clear HA
            simp only [spec_LsClear.l0] at H
            by_cases c16 : x41_2 < (y127.length : Int)
            · rw [if_pos c16] at H
              have c16b0 : decide (x41_2 < (y127.length : Int)) = true := decide_eq_true c16
              clear c16
              by_cases c17 : 0 ≤ x41_2
              · rw [if_pos c17] at H
                have c17b0 : decide (0 ≤ x41_2) = true := decide_eq_true c17
                clear c17
                by_cases c18 : x41_2 < (y127.length : Int)
                · rw [if_pos c18] at H
                  have c18b0 : decide (x41_2 < (y127.length : Int)) = true := decide_eq_true c18
                  clear c18
                  have HC19 := Aside0.mk H
                  clear H
                  have p130 : 0 ≤ (x41_2 : Int) := of_decide_eq_true (by first | (with_reducible assumption) | assumption)
                  have q130 : x41_2 < (y127.length : Int) := of_decide_eq_true (by first | (with_reducible assumption) | assumption)
                  obtain ⟨ad130, e130, hx130_0⟩ := Kd.at_string (Kd.R_reads' HO_39.out).2.2 x41_2 p130 q130
                  cases e130
                  replace p130 := eq_true p130
                  replace q130 := eq_true q130
                  go_upto_region 7 with (fail)
                  go_cut [51] (fun v51 wc => ∃ (kq : Nat) (x51_18 : Bool), v51 = .bool x51_18 ∧ Aside0 (spec_LsClear.j2 kq y127 (rdOf ByteArray.empty y127 x41_2) y127 (y127.length : Int) x41_2 x51_18 a0_0 a0_1 a0_2 a0_3 a0_4 a0_5 a0_6 a0_7 a0_8 = some r) ∧ Aside0 (kq ≤ k2) ∧ Aside0 (Kd.R Kd.string 9 wc w.heap.size (fun _ => True) (.slice (some ad130) y127.length co15) y127) ∧ Aside0 (Kd.R Kd.string 9 wc w.heap.size (fun _ => True) (.slice (some ad130) y127.length co15) y127) ∧ Aside0 (wc.heap[gb126]? = some (.cells #[.int .i64 a0_0, .string a0_1, .string a0_2, .string a0_3, .string a0_4, .string a0_5, .string a0_6, .string a0_7, .string a0_8] 24 (0, 0))) ∧ Aside0 (Below w.heap.size w wc))
                  case first =>
                    have H := HC19.out
                    clear HC19
                    by_cases c20 : (rdOf ByteArray.empty y127 x41_2).toList = ([] : List UInt8)
                    · rw [if_pos c20] at H
                      have c20b0 : ((rdOf ByteArray.empty y127 x41_2).toList == ([] : List UInt8)) = true := beq_iff_eq.mpr c20
                      have c20b7 : (rdOf ByteArray.empty y127 x41_2).toList.isEmpty = true := by simpa using c20
                      have c20b1 : ((rdOf ByteArray.empty y127 x41_2).toList != ([] : List UInt8)) = false := bne_eq_false_iff_eq.mpr c20
                      clear c20
                      (first | rw [c20b0] | rw [c20b7] | (simp only [i64_w, i32_w]; rw [c20b0]) | skip)
                      have H' := Aside0.mk H
                      clear H
                      go_wp2
                      go_meet
                      case rel => exact ⟨_, (true), (by first | rfl | (simp; done) | (simp [*]; done)), H', ⟨by have := HJ1.out; have := HK2.out; first | omega | exact Nat.le_refl _⟩, ⟨by (with_reducible repeat (first | apply Kd.R_alloc | apply Kd.R_drewN | apply Kd.R_drew)); exact HO_3.out⟩, ⟨by (with_reducible repeat (first | apply Kd.R_alloc | apply Kd.R_drewN | apply Kd.R_drew)); exact HO_39.out⟩, ⟨by (with_reducible repeat (first | refine blk_drewN ?_ _ | refine blk_drew ?_ | refine blk_alloc ?_ _)); exact BK126.out⟩, ⟨by repeat (first | (with_reducible first | exact HB.out | apply below_alloc | apply pw_below_drewN | apply below_drew1 | refine below_set ?_ GE126.out) | exact HB.out)⟩⟩
                    · rw [if_neg c20] at H
                      have c20b0 : ((rdOf ByteArray.empty y127 x41_2).toList == ([] : List UInt8)) = false := beq_eq_false_iff_ne.mpr c20
                      have c20b7 : (rdOf ByteArray.empty y127 x41_2).toList.isEmpty = false := by simpa using c20
                      have c20b1 : ((rdOf ByteArray.empty y127 x41_2).toList != ([] : List UInt8)) = true := bne_iff_ne.mpr c20
                      (first | rw [c20b0] | rw [c20b7] | (simp only [i64_w, i32_w]; rw [c20b0]) | skip)
                      by_cases c21 : 0 < ((rdOf ByteArray.empty y127 x41_2).size : Int)
                      · rw [if_pos c21] at H
                        have c21b0 : decide (0 < ((rdOf ByteArray.empty y127 x41_2).size : Int)) = true := decide_eq_true c21
                        have c21b1 : decide (0 < (rdOf ByteArray.empty y127 x41_2).size) = true := decide_eq_true (by omega)
                        clear c21
                        have H' := Aside0.mk H
                        clear H
                        have p22 : 0 ≤ (0 : Int) := (by omega)
                        have q22 : 0 < (rdOf ByteArray.empty y127 x41_2).size := (by have : (0 : Int) < ((rdOf ByteArray.empty y127 x41_2).size : Int) := of_decide_eq_true (by first | (with_reducible assumption) | assumption); omega)
                        have hx22 : ∀ h : 0 < (rdOf ByteArray.empty y127 x41_2).size, (((rdOf ByteArray.empty y127 x41_2)[0]'h).toNat : Int) = bt (rdOf ByteArray.empty y127 x41_2) 0 := bt_at (rdOf ByteArray.empty y127 x41_2) 0
                        clear p22
                        have qi22 : (0 < ((rdOf ByteArray.empty y127 x41_2).size : Int)) = True := eq_true (of_decide_eq_true (by first | (with_reducible assumption) | assumption))
                        replace q22 := eq_true q22
                        go_wp2
                        go_meet
                        case rel => exact ⟨_, (((bt (rdOf ByteArray.empty y127 x41_2) 0) == 32)), (by first | rfl | (simp; done) | (simp [*]; done)), H', ⟨by have := HJ1.out; have := HK2.out; first | omega | exact Nat.le_refl _⟩, ⟨by (with_reducible repeat (first | apply Kd.R_alloc | apply Kd.R_drewN | apply Kd.R_drew)); exact HO_3.out⟩, ⟨by (with_reducible repeat (first | apply Kd.R_alloc | apply Kd.R_drewN | apply Kd.R_drew)); exact HO_39.out⟩, ⟨by (with_reducible repeat (first | refine blk_drewN ?_ _ | refine blk_drew ?_ | refine blk_alloc ?_ _)); exact BK126.out⟩, ⟨by repeat (first | (with_reducible first | exact HB.out | apply below_alloc | apply pw_below_drewN | apply below_drew1 | refine below_set ?_ GE126.out) | exact HB.out)⟩⟩
                      · rw [if_neg c21] at H
                        exact absurd H (by simp)
                  case rest =>
                    clear HC19
                    try clear c1
                    try clear p1
                    try clear q1
                    try clear hx1
                    try clear qi1
                    try clear c2
                    try clear p2
                    try clear q2
                    try clear hx2
                    try clear qi2
                    try clear c7
                    try clear c7b0
                    try clear c7b1
                    try clear c9
                    try clear c9b0
                    try clear c9b1
                    try clear c10
                    try clear p10
                    try clear q10
                    try clear hx10
                    try clear qi10
                    try clear c11
                    try clear c11b0
                    try clear c11b1
                    try clear p13
                    try clear q13
                    try clear hx13
                    try clear c14
                    try clear c16
                    try clear c16b0
                    try clear c17
                    try clear c17b0
                    try clear c18
                    try clear c18b0
                    try clear c20
                    try clear c20b0
                    try clear c20b1
                    try clear c21
                    try clear c21b0
                    try clear c21b1
                    try clear p22
                    try clear q22
                    try clear hx22
                    try clear qi22
                    try clear hcz12_0
                    try clear hcz12_1
                    try clear hcz12_2
                    try clear hcz12_3
                    try clear hcz12_4
                    try clear hcz12_5
                    try clear hcz12_6
                    try clear hcz12_7
                    try clear hcz12_8
                    try clear hcz13_0
                    try clear hcz13_1
                    try clear hcz13_2
                    try clear hcz13_3
                    try clear hcz13_4
                    try clear hcz13_5
                    try clear hcz13_6
                    try clear hcz13_7
                    try clear hcz13_8
                    try clear hcz4_0
                    try clear hcz4_1
                    try clear hcz4_2
                    try clear hcz4_3
                    try clear hcz4_4
                    try clear hcz4_5
                    try clear hcz4_6
                    try clear hcz4_7
                    try clear hcz4_8
                    try clear hcz8_0
                    try clear hcz8_1
                    try clear hcz8_2
                    try clear hcz8_3
                    try clear hcz8_4
                    try clear hcz8_5
                    try clear hcz8_6
                    try clear hcz8_7
                    try clear hcz8_8
                    try clear hfz12_0
                    try clear hfz12_1
                    try clear hfz12_2
                    try clear hfz12_3
                    try clear hfz12_4
                    try clear hfz12_5
                    try clear hfz12_6
                    try clear hfz12_7
                    try clear hfz12_8
                    try clear hfz13_0
                    try clear hfz13_1
                    try clear hfz13_2
                    try clear hfz13_3
                    try clear hfz13_4
                    try clear hfz13_5
                    try clear hfz13_6
                    try clear hfz13_7
                    try clear hfz13_8
                    try clear hfz4_0
                    try clear hfz4_1
                    try clear hfz4_2
                    try clear hfz4_3
                    try clear hfz4_4
                    try clear hfz4_5
                    try clear hfz4_6
                    try clear hfz4_7
                    try clear hfz4_8
                    try clear hfz8_0
                    try clear hfz8_1
                    try clear hfz8_2
                    try clear hfz8_3
                    try clear hfz8_4
                    try clear hfz8_5
                    try clear hfz8_6
                    try clear hfz8_7
                    try clear hfz8_8
                    try clear hx130_0
                    try clear p1
                    try clear p10
                    try clear p130
                    try clear p2
                    try clear p22
                    try clear q1
                    try clear q10
                    try clear q130
                    try clear q22
                    obtain ⟨kq, x51_18, rfl, HA, HJ18, HO_3, HO_39, BK126, HB⟩ := hcut
                    cases kq with
                    | zero => exact absurd HA.out (by simp [spec_LsClear.j2])
                    | succ kj18 =>
                      have H := HA.out
                      clear HA
                      simp only [spec_LsClear.j2] at H
                      by_cases c23 : x51_18 = true
                      · subst c23
                        have H1 : (some false) = some r := by rw [if_pos rfl] at H; exact H
                        clear H
                        have H := H1
                        clear H1
                        obtain rfl := Option.some.inj H
                        go_wp2
                        go_ret
                        exact ⟨by first | rfl | (simp [errW_none, errW_some] <;> rfl) | (have e_ : ∀ l_ : List UInt8, (l_ != []) = !l_.isEmpty := fun l_ => (by cases l_ <;> rfl); simp [errW_none, errW_some, e_]; done) | (simp [*, errW_none, errW_some] <;> rfl), by repeat (first | (with_reducible first | exact HB.out | apply below_alloc | apply pw_below_drewN | apply below_drew1 | refine below_set ?_ GE126.out) | exact HB.out)⟩
                      · replace c23 := Bool.eq_false_iff.mpr c23
                        subst c23
                        have H1 : (if (rdOf ByteArray.empty y127 x41_2).size + 1 ≤ 9223372036854775807 then ((spec_LsBegins.f ((rdOf ByteArray.empty y127 x41_2) ++ (⟨#[32]⟩ : ByteArray)) a0_5).bind fun bt131 => (if bt131.2 = true then (some false) else ((spec_LsBegins.f a0_5 ((rdOf ByteArray.empty y127 x41_2) ++ (⟨#[32]⟩ : ByteArray))).bind fun bt133 => (if bt133.2 = true then (some false) else (spec_LsClear.l1 kj18 y127 (rdOf ByteArray.empty y127 x41_2) y127 (y127.length : Int) x41_2 y127 (y127.length : Int) 0 a0_0 a0_1 a0_2 a0_3 a0_4 a0_5 a0_6 a0_7 a0_8))))) else (none)) = some r := by rw [if_neg (show ¬ (false = true) by decide)] at H; exact H
                        clear H
                        have H := H1
                        clear H1
                        by_cases c24 : (rdOf ByteArray.empty y127 x41_2).size + 1 ≤ 9223372036854775807
                        · rw [if_pos c24] at H
                          have c24b0 := eq_true c24
                          have c24b1 : decide ((rdOf ByteArray.empty y127 x41_2).size + 1 ≤ 9223372036854775807) = true := decide_eq_true c24
                          try have c24b2 : (9223372036854775807 < (rdOf ByteArray.empty y127 x41_2).size + 1) = False := eq_false (Nat.not_lt.2 c24)
                          replace H := Option.bind_eq_some_iff.mp H
                          obtain ⟨⟨t131, t132⟩, A250, H⟩ := H
                          replace H : (if t132 = true then (some false) else ((spec_LsBegins.f a0_5 ((rdOf ByteArray.empty y127 x41_2) ++ (⟨#[32]⟩ : ByteArray))).bind fun bt133 => (if bt133.2 = true then (some false) else (spec_LsClear.l1 kj18 y127 (rdOf ByteArray.empty y127 x41_2) y127 (y127.length : Int) x41_2 y127 (y127.length : Int) 0 a0_0 a0_1 a0_2 a0_3 a0_4 a0_5 a0_6 a0_7 a0_8)))) = some r := H
                          have A25 := Aside0.mk A250
                          clear A250
                          by_cases c26 : t132 = true
                          · subst c26
                            have H1 : (some false) = some r := by rw [if_pos rfl] at H; exact H
                            clear H
                            have H := H1
                            clear H1
                            obtain rfl := Option.some.inj H
                            have hcz27_0 : wc.cell? ⟨gb126, 0, none⟩ = some (.int .i64 a0_0) := (blk_cell BK126.out 0).trans rfl
                            have hcz27_1 : wc.cell? ⟨gb126, 1, none⟩ = some (.string a0_1) := (blk_cell BK126.out 1).trans rfl
                            have hcz27_2 : wc.cell? ⟨gb126, 2, none⟩ = some (.string a0_2) := (blk_cell BK126.out 2).trans rfl
                            have hcz27_3 : wc.cell? ⟨gb126, 3, none⟩ = some (.string a0_3) := (blk_cell BK126.out 3).trans rfl
                            have hcz27_4 : wc.cell? ⟨gb126, 4, none⟩ = some (.string a0_4) := (blk_cell BK126.out 4).trans rfl
                            have hcz27_5 : wc.cell? ⟨gb126, 5, none⟩ = some (.string a0_5) := (blk_cell BK126.out 5).trans rfl
                            have hcz27_6 : wc.cell? ⟨gb126, 6, none⟩ = some (.string a0_6) := (blk_cell BK126.out 6).trans rfl
                            have hcz27_7 : wc.cell? ⟨gb126, 7, none⟩ = some (.string a0_7) := (blk_cell BK126.out 7).trans rfl
                            have hcz27_8 : wc.cell? ⟨gb126, 8, none⟩ = some (.string a0_8) := (blk_cell BK126.out 8).trans rfl
                            have hfz27_0 := blk_frozen BK126.out 0
                            have hfz27_1 := blk_frozen BK126.out 1
                            have hfz27_2 := blk_frozen BK126.out 2
                            have hfz27_3 := blk_frozen BK126.out 3
                            have hfz27_4 := blk_frozen BK126.out 4
                            have hfz27_5 := blk_frozen BK126.out 5
                            have hfz27_6 := blk_frozen BK126.out 6
                            have hfz27_7 := blk_frozen BK126.out 7
                            have hfz27_8 := blk_frozen BK126.out 8
                            go_wp2_with (first | ((with_reducible refine gate_callee (f := 22) rfl ?_); refine goesL_ (some 57) rfl rfl Tryz.func22 (by kernel_rfl) rfl #[.string ((rdOf ByteArray.empty y127 x41_2) ++ (⟨#[32]⟩ : ByteArray)), .string a0_5] rfl (by (try simp only [List.map_toArray, List.map_cons, List.map_nil]); first | done | rfl | (simp only [List.length_drop, List.length_take]; rfl)) ?_; (with_reducible refine (spec_LsBegins.calls ((rdOf ByteArray.empty y127 x41_2) ++ (⟨#[32]⟩ : ByteArray)) a0_5 t131 true _ A25.out).mono ?_); rintro e w' ⟨rfl, ⟨nd, rfl⟩⟩; refine ⟨_, rfl, ?_⟩))
                            go_ret
                            exact ⟨by first | rfl | (simp [errW_none, errW_some] <;> rfl) | (have e_ : ∀ l_ : List UInt8, (l_ != []) = !l_.isEmpty := fun l_ => (by cases l_ <;> rfl); simp [errW_none, errW_some, e_]; done) | (simp [*, errW_none, errW_some] <;> rfl), by repeat (first | (with_reducible first | exact HB.out | apply below_alloc | apply pw_below_drewN | apply below_drew1 | refine below_set ?_ GE126.out) | exact HB.out)⟩
                          · replace c26 := Bool.eq_false_iff.mpr c26
                            subst c26
                            have H1 : ((spec_LsBegins.f a0_5 ((rdOf ByteArray.empty y127 x41_2) ++ (⟨#[32]⟩ : ByteArray))).bind fun bt133 => (if bt133.2 = true then (some false) else (spec_LsClear.l1 kj18 y127 (rdOf ByteArray.empty y127 x41_2) y127 (y127.length : Int) x41_2 y127 (y127.length : Int) 0 a0_0 a0_1 a0_2 a0_3 a0_4 a0_5 a0_6 a0_7 a0_8))) = some r := by rw [if_neg (show ¬ (false = true) by decide)] at H; exact H
                            clear H
                            have H := H1
                            clear H1
                            replace H := Option.bind_eq_some_iff.mp H
                            obtain ⟨⟨t133, t134⟩, A280, H⟩ := H
                            replace H : (if t134 = true then (some false) else (spec_LsClear.l1 kj18 y127 (rdOf ByteArray.empty y127 x41_2) y127 (y127.length : Int) x41_2 y127 (y127.length : Int) 0 a0_0 a0_1 a0_2 a0_3 a0_4 a0_5 a0_6 a0_7 a0_8)) = some r := H
                            have A28 := Aside0.mk A280
                            clear A280
                            by_cases c29 : t134 = true
                            · subst c29
                              have H1 : (some false) = some r := by rw [if_pos rfl] at H; exact H
                              clear H
                              have H := H1
                              clear H1
                              obtain rfl := Option.some.inj H
                              have hcz30_0 : wc.cell? ⟨gb126, 0, none⟩ = some (.int .i64 a0_0) := (blk_cell BK126.out 0).trans rfl
                              have hcz30_1 : wc.cell? ⟨gb126, 1, none⟩ = some (.string a0_1) := (blk_cell BK126.out 1).trans rfl
                              have hcz30_2 : wc.cell? ⟨gb126, 2, none⟩ = some (.string a0_2) := (blk_cell BK126.out 2).trans rfl
                              have hcz30_3 : wc.cell? ⟨gb126, 3, none⟩ = some (.string a0_3) := (blk_cell BK126.out 3).trans rfl
                              have hcz30_4 : wc.cell? ⟨gb126, 4, none⟩ = some (.string a0_4) := (blk_cell BK126.out 4).trans rfl
                              have hcz30_5 : wc.cell? ⟨gb126, 5, none⟩ = some (.string a0_5) := (blk_cell BK126.out 5).trans rfl
                              have hcz30_6 : wc.cell? ⟨gb126, 6, none⟩ = some (.string a0_6) := (blk_cell BK126.out 6).trans rfl
                              have hcz30_7 : wc.cell? ⟨gb126, 7, none⟩ = some (.string a0_7) := (blk_cell BK126.out 7).trans rfl
                              have hcz30_8 : wc.cell? ⟨gb126, 8, none⟩ = some (.string a0_8) := (blk_cell BK126.out 8).trans rfl
                              have hfz30_0 := blk_frozen BK126.out 0
                              have hfz30_1 := blk_frozen BK126.out 1
                              have hfz30_2 := blk_frozen BK126.out 2
                              have hfz30_3 := blk_frozen BK126.out 3
                              have hfz30_4 := blk_frozen BK126.out 4
                              have hfz30_5 := blk_frozen BK126.out 5
                              have hfz30_6 := blk_frozen BK126.out 6
                              have hfz30_7 := blk_frozen BK126.out 7
                              have hfz30_8 := blk_frozen BK126.out 8
                              go_wp2_with (first | ((with_reducible refine gate_callee (f := 22) rfl ?_); refine goesL_ (some 57) rfl rfl Tryz.func22 (by kernel_rfl) rfl #[.string ((rdOf ByteArray.empty y127 x41_2) ++ (⟨#[32]⟩ : ByteArray)), .string a0_5] rfl (by (try simp only [List.map_toArray, List.map_cons, List.map_nil]); first | done | rfl | (simp only [List.length_drop, List.length_take]; rfl)) ?_; (with_reducible refine (spec_LsBegins.calls ((rdOf ByteArray.empty y127 x41_2) ++ (⟨#[32]⟩ : ByteArray)) a0_5 t131 false _ A25.out).mono ?_); rintro e w' ⟨rfl, ⟨nd, rfl⟩⟩; refine ⟨_, rfl, ?_⟩) | ((with_reducible refine gate_callee (f := 22) rfl ?_); refine goesL_ (some 66) rfl rfl Tryz.func22 (by kernel_rfl) rfl #[.string a0_5, .string ((rdOf ByteArray.empty y127 x41_2) ++ (⟨#[32]⟩ : ByteArray))] rfl (by (try simp only [List.map_toArray, List.map_cons, List.map_nil]); first | done | rfl | (simp only [List.length_drop, List.length_take]; rfl)) ?_; (with_reducible refine (spec_LsBegins.calls a0_5 ((rdOf ByteArray.empty y127 x41_2) ++ (⟨#[32]⟩ : ByteArray)) t133 true _ A28.out).mono ?_); rintro e w' ⟨rfl, ⟨nd, rfl⟩⟩; refine ⟨_, rfl, ?_⟩))
                              go_ret
                              exact ⟨by first | rfl | (simp [errW_none, errW_some] <;> rfl) | (have e_ : ∀ l_ : List UInt8, (l_ != []) = !l_.isEmpty := fun l_ => (by cases l_ <;> rfl); simp [errW_none, errW_some, e_]; done) | (simp [*, errW_none, errW_some] <;> rfl), by repeat (first | (with_reducible first | exact HB.out | apply below_alloc | apply pw_below_drewN | apply below_drew1 | refine below_set ?_ GE126.out) | exact HB.out)⟩
                            · replace c29 := Bool.eq_false_iff.mpr c29
                              subst c29
                              have H1 : (spec_LsClear.l1 kj18 y127 (rdOf ByteArray.empty y127 x41_2) y127 (y127.length : Int) x41_2 y127 (y127.length : Int) 0 a0_0 a0_1 a0_2 a0_3 a0_4 a0_5 a0_6 a0_7 a0_8) = some r := by rw [if_neg (show ¬ (false = true) by decide)] at H; exact H
                              clear H
                              have H := H1
                              clear H1
                              have H' := Aside0.mk H
                              clear H
                              have hcz31_0 : wc.cell? ⟨gb126, 0, none⟩ = some (.int .i64 a0_0) := (blk_cell BK126.out 0).trans rfl
                              have hcz31_1 : wc.cell? ⟨gb126, 1, none⟩ = some (.string a0_1) := (blk_cell BK126.out 1).trans rfl
                              have hcz31_2 : wc.cell? ⟨gb126, 2, none⟩ = some (.string a0_2) := (blk_cell BK126.out 2).trans rfl
                              have hcz31_3 : wc.cell? ⟨gb126, 3, none⟩ = some (.string a0_3) := (blk_cell BK126.out 3).trans rfl
                              have hcz31_4 : wc.cell? ⟨gb126, 4, none⟩ = some (.string a0_4) := (blk_cell BK126.out 4).trans rfl
                              have hcz31_5 : wc.cell? ⟨gb126, 5, none⟩ = some (.string a0_5) := (blk_cell BK126.out 5).trans rfl
                              have hcz31_6 : wc.cell? ⟨gb126, 6, none⟩ = some (.string a0_6) := (blk_cell BK126.out 6).trans rfl
                              have hcz31_7 : wc.cell? ⟨gb126, 7, none⟩ = some (.string a0_7) := (blk_cell BK126.out 7).trans rfl
                              have hcz31_8 : wc.cell? ⟨gb126, 8, none⟩ = some (.string a0_8) := (blk_cell BK126.out 8).trans rfl
                              have hfz31_0 := blk_frozen BK126.out 0
                              have hfz31_1 := blk_frozen BK126.out 1
                              have hfz31_2 := blk_frozen BK126.out 2
                              have hfz31_3 := blk_frozen BK126.out 3
                              have hfz31_4 := blk_frozen BK126.out 4
                              have hfz31_5 := blk_frozen BK126.out 5
                              have hfz31_6 := blk_frozen BK126.out 6
                              have hfz31_7 := blk_frozen BK126.out 7
                              have hfz31_8 := blk_frozen BK126.out 8
                              go_wp2_with (first | ((with_reducible refine gate_callee (f := 22) rfl ?_); refine goesL_ (some 57) rfl rfl Tryz.func22 (by kernel_rfl) rfl #[.string ((rdOf ByteArray.empty y127 x41_2) ++ (⟨#[32]⟩ : ByteArray)), .string a0_5] rfl (by (try simp only [List.map_toArray, List.map_cons, List.map_nil]); first | done | rfl | (simp only [List.length_drop, List.length_take]; rfl)) ?_; (with_reducible refine (spec_LsBegins.calls ((rdOf ByteArray.empty y127 x41_2) ++ (⟨#[32]⟩ : ByteArray)) a0_5 t131 false _ A25.out).mono ?_); rintro e w' ⟨rfl, ⟨nd, rfl⟩⟩; refine ⟨_, rfl, ?_⟩) | ((with_reducible refine gate_callee (f := 22) rfl ?_); refine goesL_ (some 66) rfl rfl Tryz.func22 (by kernel_rfl) rfl #[.string a0_5, .string ((rdOf ByteArray.empty y127 x41_2) ++ (⟨#[32]⟩ : ByteArray))] rfl (by (try simp only [List.map_toArray, List.map_cons, List.map_nil]); first | done | rfl | (simp only [List.length_drop, List.length_take]; rfl)) ?_; (with_reducible refine (spec_LsBegins.calls a0_5 ((rdOf ByteArray.empty y127 x41_2) ++ (⟨#[32]⟩ : ByteArray)) t133 false _ A28.out).mono ?_); rintro e w' ⟨rfl, ⟨nd, rfl⟩⟩; refine ⟨_, rfl, ?_⟩))
                              go_loopg [72] kj18 (fun kq v72 w' => ∃ (x72_4 : Int), v72 = .int .i64 x72_4 ∧ Aside0 (spec_LsClear.l1 kq y127 (rdOf ByteArray.empty y127 x41_2) y127 (y127.length : Int) x41_2 y127 (y127.length : Int) x72_4 a0_0 a0_1 a0_2 a0_3 a0_4 a0_5 a0_6 a0_7 a0_8 = some r) ∧ Aside0 (kq ≤ kj18) ∧ Aside0 (Kd.R Kd.string 9 w' w.heap.size (fun _ => True) (.slice (some ad130) y127.length co15) y127) ∧ Aside0 (Kd.R Kd.string 9 w' w.heap.size (fun _ => True) (.slice (some ad130) y127.length co15) y127) ∧ Aside0 (Kd.R Kd.string 9 w' w.heap.size (fun _ => True) (.slice (some ad130) y127.length co15) y127) ∧ Aside0 (w'.heap[gb126]? = some (.cells #[.int .i64 a0_0, .string a0_1, .string a0_2, .string a0_3, .string a0_4, .string a0_5, .string a0_6, .string a0_7, .string a0_8] 24 (0, 0))) ∧ Aside0 (Below w.heap.size w w'))
                              case atStart => exact ⟨(0), (by first | rfl | (simp; done) | (simp [*]; done)), H', ⟨Nat.le_refl _⟩, ⟨by (with_reducible repeat (first | apply Kd.R_alloc | apply Kd.R_drewN | apply Kd.R_drew)); exact HO_3.out⟩, ⟨by (with_reducible repeat (first | apply Kd.R_alloc | apply Kd.R_drewN | apply Kd.R_drew)); exact HO_39.out⟩, ⟨by (with_reducible repeat (first | apply Kd.R_alloc | apply Kd.R_drewN | apply Kd.R_drew)); exact HO_3.out⟩, ⟨by (with_reducible repeat (first | refine blk_drewN ?_ _ | refine blk_drew ?_ | refine blk_alloc ?_ _)); exact BK126.out⟩, ⟨by repeat (first | (with_reducible first | exact HB.out | apply below_alloc | apply pw_below_drewN | apply below_drew1 | refine below_set ?_ GE126.out) | exact HB.out)⟩⟩
                              case round =>
                                clear H'
                                try clear c1
                                try clear p1
                                try clear q1
                                try clear hx1
                                try clear qi1
                                try clear c2
                                try clear p2
                                try clear q2
                                try clear hx2
                                try clear qi2
                                try clear c7
                                try clear c7b0
                                try clear c7b1
                                try clear c9
                                try clear c9b0
                                try clear c9b1
                                try clear c10
                                try clear p10
                                try clear q10
                                try clear hx10
                                try clear qi10
                                try clear c11
                                try clear c11b0
                                try clear c11b1
                                try clear p13
                                try clear q13
                                try clear hx13
                                try clear c14
                                try clear c16
                                try clear c16b0
                                try clear c17
                                try clear c17b0
                                try clear c18
                                try clear c18b0
                                try clear c20
                                try clear c20b0
                                try clear c20b1
                                try clear c21
                                try clear c21b0
                                try clear c21b1
                                try clear c22
                                try clear p22
                                try clear q22
                                try clear hx22
                                try clear qi22
                                try clear c23
                                try clear c24
                                try clear c24b0
                                try clear c24b1
                                try clear c24b2
                                try clear c26
                                try clear c29
                                try clear hcz12_0
                                try clear hcz12_1
                                try clear hcz12_2
                                try clear hcz12_3
                                try clear hcz12_4
                                try clear hcz12_5
                                try clear hcz12_6
                                try clear hcz12_7
                                try clear hcz12_8
                                try clear hcz13_0
                                try clear hcz13_1
                                try clear hcz13_2
                                try clear hcz13_3
                                try clear hcz13_4
                                try clear hcz13_5
                                try clear hcz13_6
                                try clear hcz13_7
                                try clear hcz13_8
                                try clear hcz27_0
                                try clear hcz27_1
                                try clear hcz27_2
                                try clear hcz27_3
                                try clear hcz27_4
                                try clear hcz27_5
                                try clear hcz27_6
                                try clear hcz27_7
                                try clear hcz27_8
                                try clear hcz30_0
                                try clear hcz30_1
                                try clear hcz30_2
                                try clear hcz30_3
                                try clear hcz30_4
                                try clear hcz30_5
                                try clear hcz30_6
                                try clear hcz30_7
                                try clear hcz30_8
                                try clear hcz31_0
                                try clear hcz31_1
                                try clear hcz31_2
                                try clear hcz31_3
                                try clear hcz31_4
                                try clear hcz31_5
                                try clear hcz31_6
                                try clear hcz31_7
                                try clear hcz31_8
                                try clear hcz4_0
                                try clear hcz4_1
                                try clear hcz4_2
                                try clear hcz4_3
                                try clear hcz4_4
                                try clear hcz4_5
                                try clear hcz4_6
                                try clear hcz4_7
                                try clear hcz4_8
                                try clear hcz8_0
                                try clear hcz8_1
                                try clear hcz8_2
                                try clear hcz8_3
                                try clear hcz8_4
                                try clear hcz8_5
                                try clear hcz8_6
                                try clear hcz8_7
                                try clear hcz8_8
                                try clear hfz12_0
                                try clear hfz12_1
                                try clear hfz12_2
                                try clear hfz12_3
                                try clear hfz12_4
                                try clear hfz12_5
                                try clear hfz12_6
                                try clear hfz12_7
                                try clear hfz12_8
                                try clear hfz13_0
                                try clear hfz13_1
                                try clear hfz13_2
                                try clear hfz13_3
                                try clear hfz13_4
                                try clear hfz13_5
                                try clear hfz13_6
                                try clear hfz13_7
                                try clear hfz13_8
                                try clear hfz27_0
                                try clear hfz27_1
                                try clear hfz27_2
                                try clear hfz27_3
                                try clear hfz27_4
                                try clear hfz27_5
                                try clear hfz27_6
                                try clear hfz27_7
                                try clear hfz27_8
                                try clear hfz30_0
                                try clear hfz30_1
                                try clear hfz30_2
                                try clear hfz30_3
                                try clear hfz30_4
                                try clear hfz30_5
                                try clear hfz30_6
                                try clear hfz30_7
                                try clear hfz30_8
                                try clear hfz31_0
                                try clear hfz31_1
                                try clear hfz31_2
                                try clear hfz31_3
                                try clear hfz31_4
                                try clear hfz31_5
                                try clear hfz31_6
                                try clear hfz31_7
                                try clear hfz31_8
                                try clear hfz4_0
                                try clear hfz4_1
                                try clear hfz4_2
                                try clear hfz4_3
                                try clear hfz4_4
                                try clear hfz4_5
                                try clear hfz4_6
                                try clear hfz4_7
                                try clear hfz4_8
                                try clear hfz8_0
                                try clear hfz8_1
                                try clear hfz8_2
                                try clear hfz8_3
                                try clear hfz8_4
                                try clear hfz8_5
                                try clear hfz8_6
                                try clear hfz8_7
                                try clear hfz8_8
                                try clear hx130_0
                                try clear p1
                                try clear p10
                                try clear p13
                                try clear p130
                                try clear p2
                                try clear p22
                                try clear q1
                                try clear q10
                                try clear q13
                                try clear q130
                                try clear q2
                                try clear q22
                                obtain ⟨x72_4, rfl, HA, HK4, HO_3, HO_39, HO_70, BK126, HB⟩ := hrel
                                cases gk with
                                | zero => exact absurd HA.out (by simp [spec_LsClear.l1])
                                | succ k4 =>
                                  have H := HA.out
                                  clear HA
                                  simp only [spec_LsClear.l1] at H
                                  by_cases c32 : x72_4 < (y127.length : Int)
                                  · rw [if_pos c32] at H
                                    have c32b0 : decide (x72_4 < (y127.length : Int)) = true := decide_eq_true c32
                                    clear c32
                                    by_cases c33 : 0 ≤ x72_4
                                    · rw [if_pos c33] at H
                                      have c33b0 : decide (0 ≤ x72_4) = true := decide_eq_true c33
                                      clear c33
                                      by_cases c34 : x72_4 < (y127.length : Int)
                                      · rw [if_pos c34] at H
                                        have c34b0 : decide (x72_4 < (y127.length : Int)) = true := decide_eq_true c34
                                        clear c34
                                        by_cases c35 : (rdOf ByteArray.empty y127 x41_2).size + 1 ≤ 9223372036854775807
                                        · rw [if_pos c35] at H
                                          have c35b0 := eq_true c35
                                          have c35b1 : decide ((rdOf ByteArray.empty y127 x41_2).size + 1 ≤ 9223372036854775807) = true := decide_eq_true c35
                                          try have c35b2 : (9223372036854775807 < (rdOf ByteArray.empty y127 x41_2).size + 1) = False := eq_false (Nat.not_lt.2 c35)
                                          by_cases c36 : (rdOf ByteArray.empty y127 x72_4).size + 1 ≤ 9223372036854775807
                                          · rw [if_pos c36] at H
                                            have c36b0 := eq_true c36
                                            have c36b1 : decide ((rdOf ByteArray.empty y127 x72_4).size + 1 ≤ 9223372036854775807) = true := decide_eq_true c36
                                            try have c36b2 : (9223372036854775807 < (rdOf ByteArray.empty y127 x72_4).size + 1) = False := eq_false (Nat.not_lt.2 c36)
                                            replace H := Option.bind_eq_some_iff.mp H
                                            obtain ⟨⟨t136, t137⟩, A370, H⟩ := H
                                            replace H : (if t137 = true then (if (rdOf ByteArray.empty y127 x41_2).toList = (rdOf ByteArray.empty y127 x72_4).toList then (spec_LsClear.l1 k4 y127 (rdOf ByteArray.empty y127 x41_2) y127 (y127.length : Int) x41_2 y127 (y127.length : Int) (wrap64 (x72_4 + 1)) a0_0 a0_1 a0_2 a0_3 a0_4 a0_5 a0_6 a0_7 a0_8) else (some false)) else (spec_LsClear.l1 k4 y127 (rdOf ByteArray.empty y127 x41_2) y127 (y127.length : Int) x41_2 y127 (y127.length : Int) (wrap64 (x72_4 + 1)) a0_0 a0_1 a0_2 a0_3 a0_4 a0_5 a0_6 a0_7 a0_8)) = some r := H
                                            have A37 := Aside0.mk A370
                                            clear A370
                                            by_cases c38 : t137 = true
                                            · subst c38
                                              have H1 : (if (rdOf ByteArray.empty y127 x41_2).toList = (rdOf ByteArray.empty y127 x72_4).toList then (spec_LsClear.l1 k4 y127 (rdOf ByteArray.empty y127 x41_2) y127 (y127.length : Int) x41_2 y127 (y127.length : Int) (wrap64 (x72_4 + 1)) a0_0 a0_1 a0_2 a0_3 a0_4 a0_5 a0_6 a0_7 a0_8) else (some false)) = some r := by rw [if_pos rfl] at H; exact H
                                              clear H
                                              have H := H1
                                              clear H1
                                              by_cases c39 : (rdOf ByteArray.empty y127 x41_2).toList = (rdOf ByteArray.empty y127 x72_4).toList
                                              · rw [if_pos c39] at H
                                                have c39b0 : ((rdOf ByteArray.empty y127 x41_2).toList == (rdOf ByteArray.empty y127 x72_4).toList) = true := beq_iff_eq.mpr c39
                                                have c39b1 : ((rdOf ByteArray.empty y127 x41_2).toList != (rdOf ByteArray.empty y127 x72_4).toList) = false := bne_eq_false_iff_eq.mpr c39
                                                clear c39
                                                have H' := Aside0.mk H
                                                clear H
                                                have p135 : 0 ≤ (x72_4 : Int) := of_decide_eq_true (by first | (with_reducible assumption) | assumption)
                                                have q135 : x72_4 < (y127.length : Int) := of_decide_eq_true (by first | (with_reducible assumption) | assumption)
                                                obtain ⟨ad135, e135, hx135_0⟩ := Kd.at_string (Kd.R_reads' HO_70.out).2.2 x72_4 p135 q135
                                                obtain rfl : ad130 = ad135 := (by injection e135)
                                                replace p135 := eq_true p135
                                                replace q135 := eq_true q135
                                                go_wp2_with (first | ((with_reducible refine gate_callee (f := 22) rfl ?_); refine goesL_ (some 81) rfl rfl Tryz.func22 (by kernel_rfl) rfl #[.string ((rdOf ByteArray.empty y127 x41_2) ++ (⟨#[32]⟩ : ByteArray)), .string ((rdOf ByteArray.empty y127 x72_4) ++ (⟨#[32]⟩ : ByteArray))] rfl (by (try simp only [List.map_toArray, List.map_cons, List.map_nil]); first | done | rfl | (simp only [List.length_drop, List.length_take]; rfl)) ?_; (with_reducible refine (spec_LsBegins.calls ((rdOf ByteArray.empty y127 x41_2) ++ (⟨#[32]⟩ : ByteArray)) ((rdOf ByteArray.empty y127 x72_4) ++ (⟨#[32]⟩ : ByteArray)) t136 true _ A37.out).mono ?_); rintro e w' ⟨rfl, ⟨nd, rfl⟩⟩; refine ⟨_, rfl, ?_⟩))
                                                go_roundg k4
                                                case measure => have := HJ1.out; have := HK2.out; have := HJ18.out; have := HK4.out; omega
                                                case rel => exact ⟨(wrap64 (x72_4 + 1)), (by first | rfl | (simp; done) | (simp [*]; done)), H', ⟨by have := HJ1.out; have := HK2.out; have := HJ18.out; have := HK4.out; omega⟩, ⟨by (with_reducible repeat (first | apply Kd.R_alloc | apply Kd.R_drewN | apply Kd.R_drew)); exact HO_3.out⟩, ⟨by (with_reducible repeat (first | apply Kd.R_alloc | apply Kd.R_drewN | apply Kd.R_drew)); exact HO_39.out⟩, ⟨by (with_reducible repeat (first | apply Kd.R_alloc | apply Kd.R_drewN | apply Kd.R_drew)); exact HO_70.out⟩, ⟨by (with_reducible repeat (first | refine blk_drewN ?_ _ | refine blk_drew ?_ | refine blk_alloc ?_ _)); exact BK126.out⟩, ⟨by repeat (first | (with_reducible first | exact HB.out | apply below_alloc | apply pw_below_drewN | apply below_drew1 | refine below_set ?_ GE126.out) | exact HB.out)⟩⟩
                                              · rw [if_neg c39] at H
                                                have c39b0 : ((rdOf ByteArray.empty y127 x41_2).toList == (rdOf ByteArray.empty y127 x72_4).toList) = false := beq_eq_false_iff_ne.mpr c39
                                                have c39b1 : ((rdOf ByteArray.empty y127 x41_2).toList != (rdOf ByteArray.empty y127 x72_4).toList) = true := bne_iff_ne.mpr c39
                                                obtain rfl := Option.some.inj H
                                                have p135 : 0 ≤ (x72_4 : Int) := of_decide_eq_true (by first | (with_reducible assumption) | assumption)
                                                have q135 : x72_4 < (y127.length : Int) := of_decide_eq_true (by first | (with_reducible assumption) | assumption)
                                                obtain ⟨ad135, e135, hx135_0⟩ := Kd.at_string (Kd.R_reads' HO_70.out).2.2 x72_4 p135 q135
                                                obtain rfl : ad130 = ad135 := (by injection e135)
                                                replace p135 := eq_true p135
                                                replace q135 := eq_true q135
                                                go_wp2_with (first | ((with_reducible refine gate_callee (f := 22) rfl ?_); refine goesL_ (some 81) rfl rfl Tryz.func22 (by kernel_rfl) rfl #[.string ((rdOf ByteArray.empty y127 x41_2) ++ (⟨#[32]⟩ : ByteArray)), .string ((rdOf ByteArray.empty y127 x72_4) ++ (⟨#[32]⟩ : ByteArray))] rfl (by (try simp only [List.map_toArray, List.map_cons, List.map_nil]); first | done | rfl | (simp only [List.length_drop, List.length_take]; rfl)) ?_; (with_reducible refine (spec_LsBegins.calls ((rdOf ByteArray.empty y127 x41_2) ++ (⟨#[32]⟩ : ByteArray)) ((rdOf ByteArray.empty y127 x72_4) ++ (⟨#[32]⟩ : ByteArray)) t136 true _ A37.out).mono ?_); rintro e w' ⟨rfl, ⟨nd, rfl⟩⟩; refine ⟨_, rfl, ?_⟩))
                                                go_ret
                                                exact ⟨by first | rfl | (simp [errW_none, errW_some] <;> rfl) | (have e_ : ∀ l_ : List UInt8, (l_ != []) = !l_.isEmpty := fun l_ => (by cases l_ <;> rfl); simp [errW_none, errW_some, e_]; done) | (simp [*, errW_none, errW_some] <;> rfl), by repeat (first | (with_reducible first | exact HB.out | apply below_alloc | apply pw_below_drewN | apply below_drew1 | refine below_set ?_ GE126.out) | exact HB.out)⟩
                                            · replace c38 := Bool.eq_false_iff.mpr c38
                                              subst c38
                                              have H1 : (spec_LsClear.l1 k4 y127 (rdOf ByteArray.empty y127 x41_2) y127 (y127.length : Int) x41_2 y127 (y127.length : Int) (wrap64 (x72_4 + 1)) a0_0 a0_1 a0_2 a0_3 a0_4 a0_5 a0_6 a0_7 a0_8) = some r := by rw [if_neg (show ¬ (false = true) by decide)] at H; exact H
                                              clear H
                                              have H := H1
                                              clear H1
                                              have H' := Aside0.mk H
                                              clear H
                                              have p135 : 0 ≤ (x72_4 : Int) := of_decide_eq_true (by first | (with_reducible assumption) | assumption)
                                              have q135 : x72_4 < (y127.length : Int) := of_decide_eq_true (by first | (with_reducible assumption) | assumption)
                                              obtain ⟨ad135, e135, hx135_0⟩ := Kd.at_string (Kd.R_reads' HO_70.out).2.2 x72_4 p135 q135
                                              obtain rfl : ad130 = ad135 := (by injection e135)
                                              replace p135 := eq_true p135
                                              replace q135 := eq_true q135
                                              go_wp2_with (first | ((with_reducible refine gate_callee (f := 22) rfl ?_); refine goesL_ (some 81) rfl rfl Tryz.func22 (by kernel_rfl) rfl #[.string ((rdOf ByteArray.empty y127 x41_2) ++ (⟨#[32]⟩ : ByteArray)), .string ((rdOf ByteArray.empty y127 x72_4) ++ (⟨#[32]⟩ : ByteArray))] rfl (by (try simp only [List.map_toArray, List.map_cons, List.map_nil]); first | done | rfl | (simp only [List.length_drop, List.length_take]; rfl)) ?_; (with_reducible refine (spec_LsBegins.calls ((rdOf ByteArray.empty y127 x41_2) ++ (⟨#[32]⟩ : ByteArray)) ((rdOf ByteArray.empty y127 x72_4) ++ (⟨#[32]⟩ : ByteArray)) t136 false _ A37.out).mono ?_); rintro e w' ⟨rfl, ⟨nd, rfl⟩⟩; refine ⟨_, rfl, ?_⟩))
                                              go_roundg k4
                                              case measure => have := HJ1.out; have := HK2.out; have := HJ18.out; have := HK4.out; omega
                                              case rel => exact ⟨(wrap64 (x72_4 + 1)), (by first | rfl | (simp; done) | (simp [*]; done)), H', ⟨by have := HJ1.out; have := HK2.out; have := HJ18.out; have := HK4.out; omega⟩, ⟨by (with_reducible repeat (first | apply Kd.R_alloc | apply Kd.R_drewN | apply Kd.R_drew)); exact HO_3.out⟩, ⟨by (with_reducible repeat (first | apply Kd.R_alloc | apply Kd.R_drewN | apply Kd.R_drew)); exact HO_39.out⟩, ⟨by (with_reducible repeat (first | apply Kd.R_alloc | apply Kd.R_drewN | apply Kd.R_drew)); exact HO_70.out⟩, ⟨by (with_reducible repeat (first | refine blk_drewN ?_ _ | refine blk_drew ?_ | refine blk_alloc ?_ _)); exact BK126.out⟩, ⟨by repeat (first | (with_reducible first | exact HB.out | apply below_alloc | apply pw_below_drewN | apply below_drew1 | refine below_set ?_ GE126.out) | exact HB.out)⟩⟩
                                          · rw [if_neg c36] at H
                                            exact absurd H (by simp)
                                        · rw [if_neg c35] at H
                                          exact absurd H (by simp)
                                      · rw [if_neg c34] at H
                                        exact absurd H (by simp)
                                    · rw [if_neg c33] at H
                                      exact absurd H (by simp)
                                  · rw [if_neg c32] at H
                                    have c32b0 : decide (x72_4 < (y127.length : Int)) = false := decide_eq_false c32
                                    clear c32
                                    have H' := Aside0.mk H
                                    clear H
                                    go_wp2
                                    go_roundg k4
                                    case measure => have := HJ1.out; have := HK2.out; have := HJ18.out; have := HK4.out; omega
                                    case rel => exact ⟨(wrap64 (x41_2 + 1)), (by first | rfl | (simp; done) | (simp [*]; done)), H', ⟨by have := HJ1.out; have := HK2.out; have := HJ18.out; have := HK4.out; omega⟩, ⟨by (with_reducible repeat (first | apply Kd.R_alloc | apply Kd.R_drewN | apply Kd.R_drew)); exact HO_3.out⟩, ⟨by (with_reducible repeat (first | apply Kd.R_alloc | apply Kd.R_drewN | apply Kd.R_drew)); exact HO_39.out⟩, ⟨by (with_reducible repeat (first | refine blk_drewN ?_ _ | refine blk_drew ?_ | refine blk_alloc ?_ _)); exact BK126.out⟩, ⟨by repeat (first | (with_reducible first | exact HB.out | apply below_alloc | apply pw_below_drewN | apply below_drew1 | refine below_set ?_ GE126.out) | exact HB.out)⟩⟩
                        · rw [if_neg c24] at H
                          exact absurd H (by simp)
                · rw [if_neg c18] at H
                  exact absurd H (by simp)
              · rw [if_neg c17] at H
                exact absurd H (by simp)
            · rw [if_neg c16] at H
              have c16b0 : decide (x41_2 < (y127.length : Int)) = false := decide_eq_false c16
              clear c16
              obtain rfl := Option.some.inj H
              go_wp2
              go_ret
              exact ⟨by first | rfl | (simp [errW_none, errW_some] <;> rfl) | (have e_ : ∀ l_ : List UInt8, (l_ != []) = !l_.isEmpty := fun l_ => (by cases l_ <;> rfl); simp [errW_none, errW_some, e_]; done) | (simp [*, errW_none, errW_some] <;> rfl), by repeat (first | (with_reducible first | exact HB.out | apply below_alloc | apply pw_below_drewN | apply below_drew1 | refine below_set ?_ GE126.out) | exact HB.out)⟩

end Go.Proofs.YthjpchabeemfmaaGreatDoor.P
