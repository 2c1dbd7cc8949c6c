/- Printed by a program of this session (pf.sh): Go functions as Lean functions, with their contracts. -/
import Derived.Test.YthjpchabeemfmaaGreatDoorPx0
import Derived.Test.YthjpchabeemfmaaGreatDoorFf
import Derived.Test.YthjpchabeemfmaaGreatDoorFz
namespace Go.Proofs.YthjpchabeemfmaaGreatDoor.P
open Go.RowKit Go.Proofs.YthjpchabeemfmaaGreatDoorW.PrintWords Go.Proofs.YthjpchabeemfmaaGreatDoorW.PrintLast Go.Proofs.YthjpchabeemfmaaGreatDoorW.PrintMore
attribute [local go_sem] max2_int min2_int max_two min_two max_three min_three max_four min_four   -- for this text's walks alone
set_option linter.unusedVariables false
set_option linter.unusedSimpArgs false

-- FOREIGN: function 23 (spec_TxTimes)

-- FOREIGN: function 24 (spec_TxWidth)

-- FOREIGN: function 25 (spec_TxLines)

/-! ### spec_LsBack: function 11 -/
mutual
def spec_LsBack.l0 : Nat → List (S42) → ByteArray → List ByteArray → Int → Int → Int → ByteArray → ByteArray → ByteArray → ByteArray → ByteArray → ByteArray → ByteArray → ByteArray → Option ((List (S42)) × Bool)
  | 0, _, _, _, _, _, _, _, _, _, _, _, _, _, _ => none
  | k + 1, x6, x7, x28, x29, x30, x139000, x139001, x139002, x139003, x139004, x139005, x139006, x139007, x139008 => if x30 < x29 then (if 0 ≤ x30 then (if x30 < (x28.length : Int) then (spec_LsBack.l1 k x6 x7 0 (rdOf ByteArray.empty x28 x30) true x28 x29 x30 x139000 x139001 x139002 x139003 x139004 x139005 x139006 x139007 x139008) else (none)) else (none)) else (some (x6, true))
def spec_LsBack.l1 : Nat → List (S42) → ByteArray → Int → ByteArray → Bool → List ByteArray → Int → Int → Int → ByteArray → ByteArray → ByteArray → ByteArray → ByteArray → ByteArray → ByteArray → ByteArray → Option ((List (S42)) × Bool)
  | 0, _, _, _, _, _, _, _, _, _, _, _, _, _, _, _, _, _ => none
  | k + 1, x6, x7, x10, x11, x12, x28, x29, x30, x139000, x139001, x139002, x139003, x139004, x139005, x139006, x139007, x139008 => if x12 = true then ((spec_LsBegins.f x11 x139005).bind fun bt145 => (if bt145.2 = true then (spec_LsBack.l1 k x6 x7 (wrap64 (x10 + 1)) bt145.1 bt145.2 x28 x29 x30 x139000 x139001 x139002 x139003 x139004 x139005 x139006 x139007 x139008) else ((spec_LsBegins.f x11 x7).bind fun bt147 => (if bt147.2 = true then (spec_LsBack.l1 k x6 x7 (wrap64 (x10 + 1)) bt147.1 bt147.2 x28 x29 x30 x139000 x139001 x139002 x139003 x139004 x139005 x139006 x139007 x139008) else (spec_LsBack.l1 k x6 x7 x10 x11 bt147.2 x28 x29 x30 x139000 x139001 x139002 x139003 x139004 x139005 x139006 x139007 x139008))))) else ((some (([x139001, x139002, x139003, x139004, x139006] : List ByteArray) : List ByteArray)).bind fun y149 => (spec_LsBack.l2 k x6 x7 x10 x11 false x28 x29 x30 y149 (y149.length : Int) 0 x139000 x139001 x139002 x139003 x139004 x139005 x139006 x139007 x139008))
def spec_LsBack.l2 : Nat → List (S42) → ByteArray → Int → ByteArray → Bool → List ByteArray → Int → Int → List ByteArray → Int → Int → Int → ByteArray → ByteArray → ByteArray → ByteArray → ByteArray → ByteArray → ByteArray → ByteArray → Option ((List (S42)) × Bool)
  | 0, _, _, _, _, _, _, _, _, _, _, _, _, _, _, _, _, _, _, _, _ => none
  | k + 1, x6, x7, x10, x11, x15, x28, x29, x30, x66, x67, x68, x139000, x139001, x139002, x139003, x139004, x139005, x139006, x139007, x139008 => if x68 < x67 then (if 0 ≤ x68 then (if x68 < (x66.length : Int) then (if (rdOf ByteArray.empty x66 x68).size + 1 ≤ 9223372036854775807 then ((spec_LsBegins.f x11 ((rdOf ByteArray.empty x66 x68) ++ (⟨#[32]⟩ : ByteArray))).bind fun bt153 => (if bt153.2 = true then (if x15 = true then (spec_LsBack.l2 k x6 x7 x10 x11 x15 x28 x29 x30 x66 x67 (wrap64 (x68 + 1)) x139000 x139001 x139002 x139003 x139004 x139005 x139006 x139007 x139008) else (if x6.length < 5864062014805 then (spec_LsBack.l2 k (x6 ++ [(⟨bt153.1, x10⟩ : S42)]) x7 x10 x11 true x28 x29 x30 x66 x67 (wrap64 (x68 + 1)) x139000 x139001 x139002 x139003 x139004 x139005 x139006 x139007 x139008) else (none))) else (spec_LsBack.l2 k x6 x7 x10 x11 x15 x28 x29 x30 x66 x67 (wrap64 (x68 + 1)) x139000 x139001 x139002 x139003 x139004 x139005 x139006 x139007 x139008))) else (none)) else (none)) else (none)) else (if x15 = true then (spec_LsBack.l0 k x6 x7 x28 x29 (wrap64 (x30 + 1)) x139000 x139001 x139002 x139003 x139004 x139005 x139006 x139007 x139008) else (some (([] : List (S42)), false)))
end
def spec_LsBack.f (k : Nat) (a0 : ByteArray) (a1_0 : Int) (a1_1 : ByteArray) (a1_2 : ByteArray) (a1_3 : ByteArray) (a1_4 : ByteArray) (a1_5 : ByteArray) (a1_6 : ByteArray) (a1_7 : ByteArray) (a1_8 : ByteArray) : Option ((List (S42)) × Bool) := if a1_5.toList = ([] : List UInt8) then (some (([] : List (S42)), false)) else ((spec_TxWidth.f a1_5).bind fun t139 => ((spec_TxTimes.f (⟨#[32]⟩ : ByteArray) t139).bind fun t140 => ((spec_TxLines.f a0).bind fun t141 => (spec_LsBack.l0 k ([] : List (S42)) t140 t141 (t141.length : Int) 0 a1_0 a1_1 a1_2 a1_3 a1_4 a1_5 a1_6 a1_7 a1_8))))
theorem spec_LsBack.mono_l : ∀ k, (∀ y0 y1 y2 y3 y4 y5 y6 y7 y8 y9 y10 y11 y12 y13, LeO (spec_LsBack.l0 k y0 y1 y2 y3 y4 y5 y6 y7 y8 y9 y10 y11 y12 y13) (spec_LsBack.l0 (k + 1) y0 y1 y2 y3 y4 y5 y6 y7 y8 y9 y10 y11 y12 y13)) ∧ (∀ y0 y1 y2 y3 y4 y5 y6 y7 y8 y9 y10 y11 y12 y13 y14 y15 y16, LeO (spec_LsBack.l1 k y0 y1 y2 y3 y4 y5 y6 y7 y8 y9 y10 y11 y12 y13 y14 y15 y16) (spec_LsBack.l1 (k + 1) y0 y1 y2 y3 y4 y5 y6 y7 y8 y9 y10 y11 y12 y13 y14 y15 y16)) ∧ (∀ y0 y1 y2 y3 y4 y5 y6 y7 y8 y9 y10 y11 y12 y13 y14 y15 y16 y17 y18 y19, LeO (spec_LsBack.l2 k y0 y1 y2 y3 y4 y5 y6 y7 y8 y9 y10 y11 y12 y13 y14 y15 y16 y17 y18 y19) (spec_LsBack.l2 (k + 1) y0 y1 y2 y3 y4 y5 y6 y7 y8 y9 y10 y11 y12 y13 y14 y15 y16 y17 y18 y19))
  | 0 => ⟨fun _ _ _ _ _ _ _ _ _ _ _ _ _ _ r h => by simp [spec_LsBack.l0] at h, fun _ _ _ _ _ _ _ _ _ _ _ _ _ _ _ _ _ r h => by simp [spec_LsBack.l1] at h, fun _ _ _ _ _ _ _ _ _ _ _ _ _ _ _ _ _ _ _ _ r h => by simp [spec_LsBack.l2] at h⟩
  | k + 1 => by
    obtain ⟨ih0, ih1, ih2⟩ := spec_LsBack.mono_l k
    refine ⟨?_, ?_, ?_⟩
    · intro y0 y1 y2 y3 y4 y5 y6 y7 y8 y9 y10 y11 y12 y13
      unfold spec_LsBack.l0
      repeat' first
      | (with_reducible exact ih0 _ _ _ _ _ _ _ _ _ _ _ _ _ _)
      | (with_reducible exact ih1 _ _ _ _ _ _ _ _ _ _ _ _ _ _ _ _ _)
      | (with_reducible exact ih2 _ _ _ _ _ _ _ _ _ _ _ _ _ _ _ _ _ _ _ _)
      | (with_reducible exact LeO.refl _)
      | (with_reducible exact LeO.none _)
      | (with_reducible refine LeO.ite ?_ ?_)
      | (with_reducible refine LeO.bind ?_ (fun _ => ?_))
      | exact ih0 _ _ _ _ _ _ _ _ _ _ _ _ _ _
      | exact ih1 _ _ _ _ _ _ _ _ _ _ _ _ _ _ _ _ _
      | exact ih2 _ _ _ _ _ _ _ _ _ _ _ _ _ _ _ _ _ _ _ _
      | exact LeO.none _
      | refine LeO.ite ?_ ?_
      | refine LeO.bind ?_ (fun _ => ?_)
    · intro y0 y1 y2 y3 y4 y5 y6 y7 y8 y9 y10 y11 y12 y13 y14 y15 y16
      unfold spec_LsBack.l1
      repeat' first
      | (with_reducible exact ih0 _ _ _ _ _ _ _ _ _ _ _ _ _ _)
      | (with_reducible exact ih1 _ _ _ _ _ _ _ _ _ _ _ _ _ _ _ _ _)
      | (with_reducible exact ih2 _ _ _ _ _ _ _ _ _ _ _ _ _ _ _ _ _ _ _ _)
      | (with_reducible exact LeO.refl _)
      | (with_reducible exact LeO.none _)
      | (with_reducible refine LeO.ite ?_ ?_)
      | (with_reducible refine LeO.bind ?_ (fun _ => ?_))
      | exact ih0 _ _ _ _ _ _ _ _ _ _ _ _ _ _
      | exact ih1 _ _ _ _ _ _ _ _ _ _ _ _ _ _ _ _ _
      | exact ih2 _ _ _ _ _ _ _ _ _ _ _ _ _ _ _ _ _ _ _ _
      | exact LeO.none _
      | refine LeO.ite ?_ ?_
      | refine LeO.bind ?_ (fun _ => ?_)
    · intro y0 y1 y2 y3 y4 y5 y6 y7 y8 y9 y10 y11 y12 y13 y14 y15 y16 y17 y18 y19
      unfold spec_LsBack.l2
      repeat' first
      | (with_reducible exact ih0 _ _ _ _ _ _ _ _ _ _ _ _ _ _)
      | (with_reducible exact ih1 _ _ _ _ _ _ _ _ _ _ _ _ _ _ _ _ _)
      | (with_reducible exact ih2 _ _ _ _ _ _ _ _ _ _ _ _ _ _ _ _ _ _ _ _)
      | (with_reducible exact LeO.refl _)
      | (with_reducible exact LeO.none _)
      | (with_reducible refine LeO.ite ?_ ?_)
      | (with_reducible refine LeO.bind ?_ (fun _ => ?_))
      | exact ih0 _ _ _ _ _ _ _ _ _ _ _ _ _ _
      | exact ih1 _ _ _ _ _ _ _ _ _ _ _ _ _ _ _ _ _
      | exact ih2 _ _ _ _ _ _ _ _ _ _ _ _ _ _ _ _ _ _ _ _
      | exact LeO.none _
      | refine LeO.ite ?_ ?_
      | refine LeO.bind ?_ (fun _ => ?_)
theorem spec_LsBack.mono : ∀ a0 a1 a2 a3 a4 a5 a6 a7 a8 a9 k, LeO (spec_LsBack.f k a0 a1 a2 a3 a4 a5 a6 a7 a8 a9) (spec_LsBack.f (k + 1) a0 a1 a2 a3 a4 a5 a6 a7 a8 a9) := by
  intro a0 a1 a2 a3 a4 a5 a6 a7 a8 a9 k
  obtain ⟨ih0, ih1, ih2⟩ := spec_LsBack.mono_l k
  unfold spec_LsBack.f
  repeat' first
      | (with_reducible exact ih0 _ _ _ _ _ _ _ _ _ _ _ _ _ _)
      | (with_reducible exact ih1 _ _ _ _ _ _ _ _ _ _ _ _ _ _ _ _ _)
      | (with_reducible exact ih2 _ _ _ _ _ _ _ _ _ _ _ _ _ _ _ _ _ _ _ _)
      | (with_reducible exact LeO.refl _)
      | (with_reducible exact LeO.none _)
      | (with_reducible refine LeO.ite ?_ ?_)
      | (with_reducible refine LeO.bind ?_ (fun _ => ?_))
      | exact ih0 _ _ _ _ _ _ _ _ _ _ _ _ _ _
      | exact ih1 _ _ _ _ _ _ _ _ _ _ _ _ _ _ _ _ _
      | exact ih2 _ _ _ _ _ _ _ _ _ _ _ _ _ _ _ _ _ _ _ _
      | exact LeO.none _
      | refine LeO.ite ?_ ?_
      | refine LeO.bind ?_ (fun _ => ?_)
set_option maxHeartbeats 8000000 in
set_option maxRecDepth 100000 in
theorem spec_LsBack.calls (k : Nat) (a0 : ByteArray) (a1_0 : Int) (a1_1 : ByteArray) (a1_2 : ByteArray) (a1_3 : ByteArray) (a1_4 : ByteArray) (a1_5 : ByteArray) (a1_6 : ByteArray) (a1_7 : ByteArray) (a1_8 : ByteArray) (r1 : List (S42)) (r2 : Bool) (w : World) (h : spec_LsBack.f k a0 a1_0 a1_1 a1_2 a1_3 a1_4 a1_5 a1_6 a1_7 a1_8 = some (r1, r2)) :
    Calls Tryz.prog 11 #[.string a0, .agg #[.int .i64 a1_0, .string a1_1, .string a1_2, .string a1_3, .string a1_4, .string a1_5, .string a1_6, .string a1_7, .string a1_8]] w fun e w' => ∃ v0_ : Value, e = .returned (.tuple #[v0_, .bool r2]) ∧ Kd.R k42 42 w' w.heap.size (fun _ => True) v0_ r1 ∧ Below w.heap.size w w' := by
  have hu24 := Tryz.underlying24
  have hu42 := Tryz.underlying42
  have HB := Aside0.mk (Below.refl w.heap.size w)
  have H : (if a1_5.toList = ([] : List UInt8) then (some (([] : List (S42)), false)) else ((spec_TxWidth.f a1_5).bind fun t139 => ((spec_TxTimes.f (⟨#[32]⟩ : ByteArray) t139).bind fun t140 => ((spec_TxLines.f a0).bind fun t141 => (spec_LsBack.l0 k ([] : List (S42)) t140 t141 (t141.length : Int) 0 a1_0 a1_1 a1_2 a1_3 a1_4 a1_5 a1_6 a1_7 a1_8))))) = some (r1, r2) := h
  clear h
  by_cases c3 : a1_5.toList = ([] : List UInt8)
  · rw [if_pos c3] at H
    have c3b0 : (a1_5.toList == ([] : List UInt8)) = true := beq_iff_eq.mpr c3
    have c3b7 : a1_5.toList.isEmpty = true := by simpa using c3
    have c3b1 : (a1_5.toList != ([] : List UInt8)) = false := bne_eq_false_iff_eq.mpr c3
    clear c3
    simp only [Option.some.injEq, Prod.mk.injEq] at H
    obtain ⟨rfl, rfl⟩ := H
    go_enter Tryz.func11, Tryz.ntmps11
    go_wp2_with (first | ((with_reducible refine gate_dst (N := 3) rfl ?_); refine box_event ?hg (N := 3) ?hd (cs := #[.int .i64 a1_0, .string a1_1, .string a1_2, .string a1_3, .string a1_4, .string a1_5, .string a1_6, .string a1_7, .string a1_8]) (t := 24) ?hr ?_; (case hd => rfl); (case hg => rfl); (case hr => first | (go_simp; done) | (go_simp; rfl)); intro gb138 hg w4 hbox hb; have n0_ := Aside0.mk (below_step (by repeat (first | (with_reducible first | exact HB.out | apply below_alloc | apply pw_below_drewN | apply below_drew1) | exact HB.out)) hb); have n1_ := Aside0.mk (hbox); have n2_ := Aside0.mk ((by rw [hg]; exact (below_size (by repeat (first | (with_reducible first | exact HB.out | apply below_alloc | apply pw_below_drewN | apply below_drew1) | exact HB.out))) : w.heap.size ≤ gb138)); have n3_ := Aside0.mk ((by rw [hg]; exact (below_size (by repeat (first | (with_reducible first | exact HB.out | apply below_alloc | apply pw_below_drewN | apply below_drew1) | exact HB.out))) : w.heap.size ≤ gb138)); clear HB; have HB := n0_; have BK138 := n1_; have GW138 := n2_; have GE138 := n3_; clear n0_ n1_ n2_ n3_; clear hb hbox hg; have hcz5_0 : w4.cell? ⟨gb138, 0, none⟩ = some (.int .i64 a1_0) := (blk_cell BK138.out 0).trans rfl; have hcz5_1 : w4.cell? ⟨gb138, 1, none⟩ = some (.string a1_1) := (blk_cell BK138.out 1).trans rfl; have hcz5_2 : w4.cell? ⟨gb138, 2, none⟩ = some (.string a1_2) := (blk_cell BK138.out 2).trans rfl; have hcz5_3 : w4.cell? ⟨gb138, 3, none⟩ = some (.string a1_3) := (blk_cell BK138.out 3).trans rfl; have hcz5_4 : w4.cell? ⟨gb138, 4, none⟩ = some (.string a1_4) := (blk_cell BK138.out 4).trans rfl; have hcz5_5 : w4.cell? ⟨gb138, 5, none⟩ = some (.string a1_5) := (blk_cell BK138.out 5).trans rfl; have hcz5_6 : w4.cell? ⟨gb138, 6, none⟩ = some (.string a1_6) := (blk_cell BK138.out 6).trans rfl; have hcz5_7 : w4.cell? ⟨gb138, 7, none⟩ = some (.string a1_7) := (blk_cell BK138.out 7).trans rfl; have hcz5_8 : w4.cell? ⟨gb138, 8, none⟩ = some (.string a1_8) := (blk_cell BK138.out 8).trans rfl; have hfz5_0 := blk_frozen BK138.out 0; have hfz5_1 := blk_frozen BK138.out 1; have hfz5_2 := blk_frozen BK138.out 2; have hfz5_3 := blk_frozen BK138.out 3; have hfz5_4 := blk_frozen BK138.out 4; have hfz5_5 := blk_frozen BK138.out 5; have hfz5_6 := blk_frozen BK138.out 6; have hfz5_7 := blk_frozen BK138.out 7; have hfz5_8 := blk_frozen BK138.out 8))
    go_ret2
    exact ⟨_, by first | rfl | (simp [errW_none, errW_some] <;> rfl) | (simp [*, errW_none, errW_some] <;> rfl), by first | exact Kd.R_nil _ _ _ _ _ | exact Kd.N_nil _ _ _ _ _ | exact Kd.V_nil _ _ _ _ _ | exact Kd.Q_nil _ _ _ _ _ | exact Kd.S_nil _ _ _ _ _, by repeat (first | (with_reducible first | exact HB.out | apply below_alloc | apply pw_below_drewN | apply below_drew1 | refine below_set ?_ GE138.out) | exact HB.out)⟩
  · rw [if_neg c3] at H
    have c3b0 : (a1_5.toList == ([] : List UInt8)) = false := beq_eq_false_iff_ne.mpr c3
    have c3b7 : a1_5.toList.isEmpty = false := by simpa using c3
    have c3b1 : (a1_5.toList != ([] : List UInt8)) = true := bne_iff_ne.mpr c3
    replace H := Option.bind_eq_some_iff.mp H
    obtain ⟨t139, A60, H⟩ := H
    replace H : ((spec_TxTimes.f (⟨#[32]⟩ : ByteArray) t139).bind fun t140 => ((spec_TxLines.f a0).bind fun t141 => (spec_LsBack.l0 k ([] : List (S42)) t140 t141 (t141.length : Int) 0 a1_0 a1_1 a1_2 a1_3 a1_4 a1_5 a1_6 a1_7 a1_8))) = some (r1, r2) := H
    have A6 := Aside0.mk A60
    clear A60
    replace H := Option.bind_eq_some_iff.mp H
    obtain ⟨t140, A70, H⟩ := H
    replace H : ((spec_TxLines.f a0).bind fun t141 => (spec_LsBack.l0 k ([] : List (S42)) t140 t141 (t141.length : Int) 0 a1_0 a1_1 a1_2 a1_3 a1_4 a1_5 a1_6 a1_7 a1_8)) = some (r1, r2) := H
    have A7 := Aside0.mk A70
    clear A70
    replace H := Option.bind_eq_some_iff.mp H
    obtain ⟨t141, A80, H⟩ := H
    replace H : (spec_LsBack.l0 k ([] : List (S42)) t140 t141 (t141.length : Int) 0 a1_0 a1_1 a1_2 a1_3 a1_4 a1_5 a1_6 a1_7 a1_8) = some (r1, r2) := H
    have A8 := Aside0.mk A80
    clear A80
    have H' := Aside0.mk H
    clear H
    go_enter Tryz.func11, Tryz.ntmps11
    go_wp2_with (first | ((with_reducible refine gate_dst (N := 3) rfl ?_); refine box_event ?hg (N := 3) ?hd (cs := #[.int .i64 a1_0, .string a1_1, .string a1_2, .string a1_3, .string a1_4, .string a1_5, .string a1_6, .string a1_7, .string a1_8]) (t := 24) ?hr ?_; (case hd => rfl); (case hg => rfl); (case hr => first | (go_simp; done) | (go_simp; rfl)); intro gb138 hg w9 hbox hb; have n0_ := Aside0.mk (below_step (by repeat (first | (with_reducible first | exact HB.out | apply below_alloc | apply pw_below_drewN | apply below_drew1) | exact HB.out)) hb); have n1_ := Aside0.mk (hbox); have n2_ := Aside0.mk ((by rw [hg]; exact (below_size (by repeat (first | (with_reducible first | exact HB.out | apply below_alloc | apply pw_below_drewN | apply below_drew1) | exact HB.out))) : w.heap.size ≤ gb138)); have n3_ := Aside0.mk ((by rw [hg]; exact (below_size (by repeat (first | (with_reducible first | exact HB.out | apply below_alloc | apply pw_below_drewN | apply below_drew1) | exact HB.out))) : w.heap.size ≤ gb138)); clear HB; have HB := n0_; have BK138 := n1_; have GW138 := n2_; have GE138 := n3_; clear n0_ n1_ n2_ n3_; clear hb hbox hg; have hcz10_0 : w9.cell? ⟨gb138, 0, none⟩ = some (.int .i64 a1_0) := (blk_cell BK138.out 0).trans rfl; have hcz10_1 : w9.cell? ⟨gb138, 1, none⟩ = some (.string a1_1) := (blk_cell BK138.out 1).trans rfl; have hcz10_2 : w9.cell? ⟨gb138, 2, none⟩ = some (.string a1_2) := (blk_cell BK138.out 2).trans rfl; have hcz10_3 : w9.cell? ⟨gb138, 3, none⟩ = some (.string a1_3) := (blk_cell BK138.out 3).trans rfl; have hcz10_4 : w9.cell? ⟨gb138, 4, none⟩ = some (.string a1_4) := (blk_cell BK138.out 4).trans rfl; have hcz10_5 : w9.cell? ⟨gb138, 5, none⟩ = some (.string a1_5) := (blk_cell BK138.out 5).trans rfl; have hcz10_6 : w9.cell? ⟨gb138, 6, none⟩ = some (.string a1_6) := (blk_cell BK138.out 6).trans rfl; have hcz10_7 : w9.cell? ⟨gb138, 7, none⟩ = some (.string a1_7) := (blk_cell BK138.out 7).trans rfl; have hcz10_8 : w9.cell? ⟨gb138, 8, none⟩ = some (.string a1_8) := (blk_cell BK138.out 8).trans rfl; have hfz10_0 := blk_frozen BK138.out 0; have hfz10_1 := blk_frozen BK138.out 1; have hfz10_2 := blk_frozen BK138.out 2; have hfz10_3 := blk_frozen BK138.out 3; have hfz10_4 := blk_frozen BK138.out 4; have hfz10_5 := blk_frozen BK138.out 5; have hfz10_6 := blk_frozen BK138.out 6; have hfz10_7 := blk_frozen BK138.out 7; have hfz10_8 := blk_frozen BK138.out 8) | ((with_reducible refine gate_callee (f := 24) rfl ?_); refine goesL_ (some 25) rfl rfl Tryz.func24 (by kernel_rfl) rfl #[.string a1_5] rfl (by (try simp only [List.map_toArray, List.map_cons, List.map_nil]); first | done | rfl | (simp only [List.length_drop, List.length_take]; rfl)) ?_; (with_reducible refine (spec_TxWidth.calls a1_5 t139 _ A6.out).mono ?_); rintro e w11 ⟨rfl, hb⟩; refine ⟨_, rfl, ?_⟩; have n0_ := Aside0.mk (blk_below (g := gb138) (o := .cells #[.int .i64 a1_0, .string a1_1, .string a1_2, .string a1_3, .string a1_4, .string a1_5, .string a1_6, .string a1_7, .string a1_8] 24 (0, 0)) (by (with_reducible repeat (first | refine blk_drewN ?_ _ | refine blk_drew ?_ | refine blk_alloc ?_ _)); exact BK138.out) hb); have n1_ := Aside0.mk (below_step (by repeat (first | (with_reducible first | exact HB.out | apply below_alloc | apply pw_below_drewN | apply below_drew1 | refine below_set ?_ GE138.out) | exact HB.out)) hb); clear BK138; clear HB; have BK138 := n0_; have HB := n1_; clear n0_ n1_; (try clear hb); (try clear hb2); (try clear hk); (try clear hi)) | ((with_reducible refine gate_callee (f := 23) rfl ?_); refine goesL_ (some 26) rfl rfl Tryz.func23 (by kernel_rfl) rfl #[.string (⟨#[32]⟩ : ByteArray), .int .i64 t139] rfl (by (try simp only [List.map_toArray, List.map_cons, List.map_nil]); first | done | rfl | (simp only [List.length_drop, List.length_take]; rfl)) ?_; (with_reducible refine (spec_TxTimes.calls (⟨#[32]⟩ : ByteArray) t139 t140 _ A7.out).mono ?_); rintro e w12 ⟨rfl, hb⟩; refine ⟨_, rfl, ?_⟩; have n0_ := Aside0.mk (blk_below (g := gb138) (o := .cells #[.int .i64 a1_0, .string a1_1, .string a1_2, .string a1_3, .string a1_4, .string a1_5, .string a1_6, .string a1_7, .string a1_8] 24 (0, 0)) (by (with_reducible repeat (first | refine blk_drewN ?_ _ | refine blk_drew ?_ | refine blk_alloc ?_ _)); exact BK138.out) hb); have n1_ := Aside0.mk (below_step (by repeat (first | (with_reducible first | exact HB.out | apply below_alloc | apply pw_below_drewN | apply below_drew1 | refine below_set ?_ GE138.out) | exact HB.out)) hb); clear BK138; clear HB; have BK138 := n0_; have HB := n1_; clear n0_ n1_; (try clear hb); (try clear hb2); (try clear hk); (try clear hi)) | ((with_reducible refine gate_callee (f := 25) rfl ?_); refine goesL_ (some 28) rfl rfl Tryz.func25 (by kernel_rfl) rfl #[.string a0] rfl (by (try simp only [List.map_toArray, List.map_cons, List.map_nil]); first | done | rfl | (simp only [List.length_drop, List.length_take]; rfl)) ?_; (with_reducible refine (spec_TxLines.calls a0 t141 _ A8.out).mono ?_); rintro e w13 ⟨v142, rfl, ho0, hb⟩; refine ⟨_, rfl, ?_⟩; have n0_ := Aside0.mk (Kd.R_lower ho0 (below_size (by repeat (first | (with_reducible first | exact HB.out | apply below_alloc | apply pw_below_drewN | apply below_drew1 | refine below_set ?_ GE138.out) | exact HB.out)))); have n1_ := Aside0.mk (blk_below (g := gb138) (o := .cells #[.int .i64 a1_0, .string a1_1, .string a1_2, .string a1_3, .string a1_4, .string a1_5, .string a1_6, .string a1_7, .string a1_8] 24 (0, 0)) (by (with_reducible repeat (first | refine blk_drewN ?_ _ | refine blk_drew ?_ | refine blk_alloc ?_ _)); exact BK138.out) hb); have n2_ := Aside0.mk (below_step (by repeat (first | (with_reducible first | exact HB.out | apply below_alloc | apply pw_below_drewN | apply below_drew1 | refine below_set ?_ GE138.out) | exact HB.out)) hb); clear BK138; clear HB; have HO143 := n0_; have BK138 := n1_; have HB := n2_; clear n0_ n1_ n2_; (try clear hb); (try clear hb2); (try clear hk); (try clear hi); (try clear ho0); obtain ⟨Ao14, co14, eo14⟩ := Kd.R_slice HO143.out; subst eo14))
    go_loopg [6, 30] k (fun kq v6 v30 w' => ∃ (x6_1 : List (S42)) (x30_1 : Int), v30 = .int .i64 x30_1 ∧ Aside0 (spec_LsBack.l0 kq x6_1 t140 t141 (t141.length : Int) x30_1 a1_0 a1_1 a1_2 a1_3 a1_4 a1_5 a1_6 a1_7 a1_8 = some (r1, r2)) ∧ Aside0 (kq ≤ k) ∧ Aside0 (Kd.R k42 42 w' w.heap.size (fun _ => True) v6 x6_1) ∧ Aside0 (Kd.R Kd.string 9 w' w.heap.size (fun _ => True) (.slice Ao14 t141.length co14) t141) ∧ Aside0 (w'.heap[gb138]? = some (.cells #[.int .i64 a1_0, .string a1_1, .string a1_2, .string a1_3, .string a1_4, .string a1_5, .string a1_6, .string a1_7, .string a1_8] 24 (0, 0))) ∧ Aside0 (Below w.heap.size w w'))
    case atStart => exact ⟨(([] : List (S42))), (0), (by first | rfl | (simp; done) | (simp [*]; done)), H', ⟨Nat.le_refl _⟩, ⟨by first | exact Kd.R_nil _ _ _ _ _ | exact Kd.N_nil _ _ _ _ _ | exact Kd.V_nil _ _ _ _ _ | exact Kd.Q_nil _ _ _ _ _ | exact Kd.S_nil _ _ _ _ _⟩, ⟨by (with_reducible repeat (first | apply Kd.R_alloc | apply Kd.R_drewN | apply Kd.R_drew)); exact HO143.out⟩, ⟨by (with_reducible repeat (first | refine blk_drewN ?_ _ | refine blk_drew ?_ | refine blk_alloc ?_ _)); exact BK138.out⟩, ⟨by repeat (first | (with_reducible first | exact HB.out | apply below_alloc | apply pw_below_drewN | apply below_drew1 | refine below_set ?_ GE138.out) | exact HB.out)⟩⟩
    case round =>
      clear H'
      try clear c1
      try clear c2
      try clear p2
      try clear c3
      try clear c3b0
      try clear c3b1
      try clear c11
      try clear hcz10_0
      try clear hcz10_1
      try clear hcz10_2
      try clear hcz10_3
      try clear hcz10_4
      try clear hcz10_5
      try clear hcz10_6
      try clear hcz10_7
      try clear hcz10_8
      try clear hcz5_0
      try clear hcz5_1
      try clear hcz5_2
      try clear hcz5_3
      try clear hcz5_4
      try clear hcz5_5
      try clear hcz5_6
      try clear hcz5_7
      try clear hcz5_8
      try clear hfz10_0
      try clear hfz10_1
      try clear hfz10_2
      try clear hfz10_3
      try clear hfz10_4
      try clear hfz10_5
      try clear hfz10_6
      try clear hfz10_7
      try clear hfz10_8
      try clear hfz5_0
      try clear hfz5_1
      try clear hfz5_2
      try clear hfz5_3
      try clear hfz5_4
      try clear hfz5_5
      try clear hfz5_6
      try clear hfz5_7
      try clear hfz5_8
      obtain ⟨x6_1, x30_1, rfl, HA, HK1, HO_6, HO_28, BK138, HB⟩ := hrel
      cases gk with
      | zero => exact absurd HA.out (by simp [spec_LsBack.l0])
      | succ k1 =>
        have H := HA.out
        clear HA
        simp only [spec_LsBack.l0] at H
        by_cases c15 : x30_1 < (t141.length : Int)
        · rw [if_pos c15] at H
          have c15b0 : decide (x30_1 < (t141.length : Int)) = true := decide_eq_true c15
          clear c15
          by_cases c16 : 0 ≤ x30_1
          · rw [if_pos c16] at H
            have c16b0 : decide (0 ≤ x30_1) = true := decide_eq_true c16
            clear c16
            by_cases c17 : x30_1 < (t141.length : Int)
            · rw [if_pos c17] at H
              have c17b0 : decide (x30_1 < (t141.length : Int)) = true := decide_eq_true c17
              clear c17
              have H' := Aside0.mk H
              clear H
              have p144 : 0 ≤ (x30_1 : Int) := of_decide_eq_true (by first | (with_reducible assumption) | assumption)
              have q144 : x30_1 < (t141.length : Int) := of_decide_eq_true (by first | (with_reducible assumption) | assumption)
              obtain ⟨ad144, e144, hx144_0⟩ := Kd.at_string (Kd.R_reads' HO_28.out).2.2 x30_1 p144 q144
              cases e144
              replace p144 := eq_true p144
              replace q144 := eq_true q144
              go_wp2
              go_loopg [10, 11, 12] k1 (fun kq v10 v11 v12 w' => ∃ (x10_2 : Int) (x11_2 : ByteArray) (x12_2 : Bool), v10 = .int .i64 x10_2 ∧ v11 = .string x11_2 ∧ v12 = .bool x12_2 ∧ Aside0 (spec_LsBack.l1 kq x6_1 t140 x10_2 x11_2 x12_2 t141 (t141.length : Int) x30_1 a1_0 a1_1 a1_2 a1_3 a1_4 a1_5 a1_6 a1_7 a1_8 = some (r1, r2)) ∧ Aside0 (kq ≤ k1) ∧ Aside0 (Kd.R k42 42 w' w.heap.size (fun _ => True) u6 x6_1) ∧ Aside0 (Kd.R Kd.string 9 w' w.heap.size (fun _ => True) (.slice (some ad144) t141.length co14) t141) ∧ Aside0 (w'.heap[gb138]? = some (.cells #[.int .i64 a1_0, .string a1_1, .string a1_2, .string a1_3, .string a1_4, .string a1_5, .string a1_6, .string a1_7, .string a1_8] 24 (0, 0))) ∧ Aside0 (Below w.heap.size w w'))
              case atStart => exact ⟨(0), (rdOf ByteArray.empty t141 x30_1), (true), (by first | rfl | (simp; done) | (simp [*]; done)), (by first | rfl | (simp; done) | (simp [*]; done)), (by first | rfl | (simp; done) | (simp [*]; done)), H', ⟨Nat.le_refl _⟩, ⟨by (with_reducible repeat (first | apply Kd.R_alloc | apply Kd.R_drewN | apply Kd.R_drew)); exact HO_6.out⟩, ⟨by (with_reducible repeat (first | apply Kd.R_alloc | apply Kd.R_drewN | apply Kd.R_drew)); exact HO_28.out⟩, ⟨by (with_reducible repeat (first | refine blk_drewN ?_ _ | refine blk_drew ?_ | refine blk_alloc ?_ _)); exact BK138.out⟩, ⟨by repeat (first | (with_reducible first | exact HB.out | apply below_alloc | apply pw_below_drewN | apply below_drew1 | refine below_set ?_ GE138.out) | exact HB.out)⟩⟩
              case round =>
                clear H'
                try clear c1
                try clear p1
                try clear q1
                try clear hx1
                try clear c2
                try clear p2
                try clear c3
                try clear c3b0
                try clear c3b1
                try clear c11
                try clear p14
                try clear q14
                try clear hx14
                try clear c15
                try clear c15b0
                try clear c16
                try clear c16b0
                try clear c17
                try clear c17b0
                try clear hcz10_0
                try clear hcz10_1
                try clear hcz10_2
                try clear hcz10_3
                try clear hcz10_4
                try clear hcz10_5
                try clear hcz10_6
                try clear hcz10_7
                try clear hcz10_8
                try clear hcz5_0
                try clear hcz5_1
                try clear hcz5_2
                try clear hcz5_3
                try clear hcz5_4
                try clear hcz5_5
                try clear hcz5_6
                try clear hcz5_7
                try clear hcz5_8
                try clear hfz10_0
                try clear hfz10_1
                try clear hfz10_2
                try clear hfz10_3
                try clear hfz10_4
                try clear hfz10_5
                try clear hfz10_6
                try clear hfz10_7
                try clear hfz10_8
                try clear hfz5_0
                try clear hfz5_1
                try clear hfz5_2
                try clear hfz5_3
                try clear hfz5_4
                try clear hfz5_5
                try clear hfz5_6
                try clear hfz5_7
                try clear hfz5_8
                try clear hx144_0
                try clear p144
                try clear p2
                try clear q144
                obtain ⟨x10_2, x11_2, x12_2, rfl, rfl, rfl, HA, HK2, HO_6, HO_28, BK138, HB⟩ := hrel
                cases gk with
                | zero => exact absurd HA.out (by simp [spec_LsBack.l1])
                | succ k2 =>
                  have H := HA.out
                  clear HA
                  simp only [spec_LsBack.l1] at H
                  by_cases c18 : x12_2 = true
                  · subst c18
                    have H1 : ((spec_LsBegins.f x11_2 a1_5).bind fun bt145 => (if bt145.2 = true then (spec_LsBack.l1 k2 x6_1 t140 (wrap64 (x10_2 + 1)) bt145.1 bt145.2 t141 (t141.length : Int) x30_1 a1_0 a1_1 a1_2 a1_3 a1_4 a1_5 a1_6 a1_7 a1_8) else ((spec_LsBegins.f x11_2 t140).bind fun bt147 => (if bt147.2 = true then (spec_LsBack.l1 k2 x6_1 t140 (wrap64 (x10_2 + 1)) bt147.1 bt147.2 t141 (t141.length : Int) x30_1 a1_0 a1_1 a1_2 a1_3 a1_4 a1_5 a1_6 a1_7 a1_8) else (spec_LsBack.l1 k2 x6_1 t140 x10_2 x11_2 bt147.2 t141 (t141.length : Int) x30_1 a1_0 a1_1 a1_2 a1_3 a1_4 a1_5 a1_6 a1_7 a1_8))))) = some (r1, r2) := by rw [if_pos rfl] at H; exact H
                    clear H
                    have H := H1
                    clear H1
                    replace H := Option.bind_eq_some_iff.mp H
                    obtain ⟨⟨t145, t146⟩, A190, H⟩ := H
                    replace H : (if t146 = true then (spec_LsBack.l1 k2 x6_1 t140 (wrap64 (x10_2 + 1)) t145 t146 t141 (t141.length : Int) x30_1 a1_0 a1_1 a1_2 a1_3 a1_4 a1_5 a1_6 a1_7 a1_8) else ((spec_LsBegins.f x11_2 t140).bind fun bt147 => (if bt147.2 = true then (spec_LsBack.l1 k2 x6_1 t140 (wrap64 (x10_2 + 1)) bt147.1 bt147.2 t141 (t141.length : Int) x30_1 a1_0 a1_1 a1_2 a1_3 a1_4 a1_5 a1_6 a1_7 a1_8) else (spec_LsBack.l1 k2 x6_1 t140 x10_2 x11_2 bt147.2 t141 (t141.length : Int) x30_1 a1_0 a1_1 a1_2 a1_3 a1_4 a1_5 a1_6 a1_7 a1_8)))) = some (r1, r2) := H
                    have A19 := Aside0.mk A190
                    clear A190
                    by_cases c20 : t146 = true
                    · subst c20
                      have H1 : (spec_LsBack.l1 k2 x6_1 t140 (wrap64 (x10_2 + 1)) t145 true t141 (t141.length : Int) x30_1 a1_0 a1_1 a1_2 a1_3 a1_4 a1_5 a1_6 a1_7 a1_8) = some (r1, r2) := by rw [if_pos rfl] at H; exact H
                      clear H
                      have H := H1
                      clear H1
                      have H' := Aside0.mk H
                      clear H
                      have hcz21_0 : wr.cell? ⟨gb138, 0, none⟩ = some (.int .i64 a1_0) := (blk_cell BK138.out 0).trans rfl
                      have hcz21_1 : wr.cell? ⟨gb138, 1, none⟩ = some (.string a1_1) := (blk_cell BK138.out 1).trans rfl
                      have hcz21_2 : wr.cell? ⟨gb138, 2, none⟩ = some (.string a1_2) := (blk_cell BK138.out 2).trans rfl
                      have hcz21_3 : wr.cell? ⟨gb138, 3, none⟩ = some (.string a1_3) := (blk_cell BK138.out 3).trans rfl
                      have hcz21_4 : wr.cell? ⟨gb138, 4, none⟩ = some (.string a1_4) := (blk_cell BK138.out 4).trans rfl
                      have hcz21_5 : wr.cell? ⟨gb138, 5, none⟩ = some (.string a1_5) := (blk_cell BK138.out 5).trans rfl
                      have hcz21_6 : wr.cell? ⟨gb138, 6, none⟩ = some (.string a1_6) := (blk_cell BK138.out 6).trans rfl
                      have hcz21_7 : wr.cell? ⟨gb138, 7, none⟩ = some (.string a1_7) := (blk_cell BK138.out 7).trans rfl
                      have hcz21_8 : wr.cell? ⟨gb138, 8, none⟩ = some (.string a1_8) := (blk_cell BK138.out 8).trans rfl
                      have hfz21_0 := blk_frozen BK138.out 0
                      have hfz21_1 := blk_frozen BK138.out 1
                      have hfz21_2 := blk_frozen BK138.out 2
                      have hfz21_3 := blk_frozen BK138.out 3
                      have hfz21_4 := blk_frozen BK138.out 4
                      have hfz21_5 := blk_frozen BK138.out 5
                      have hfz21_6 := blk_frozen BK138.out 6
                      have hfz21_7 := blk_frozen BK138.out 7
                      have hfz21_8 := blk_frozen BK138.out 8
                      go_wp2_with (first | ((with_reducible refine gate_callee (f := 22) rfl ?_); refine goesL_ (some 40) rfl rfl Tryz.func22 (by kernel_rfl) rfl #[.string x11_2, .string a1_5] rfl (by (try simp only [List.map_toArray, List.map_cons, List.map_nil]); first | done | rfl | (simp only [List.length_drop, List.length_take]; rfl)) ?_; (with_reducible refine (spec_LsBegins.calls x11_2 a1_5 t145 true _ A19.out).mono ?_); rintro e w' ⟨rfl, ⟨nd, rfl⟩⟩; refine ⟨_, rfl, ?_⟩))
                      go_roundg k2
                      case measure => have := HK1.out; have := HK2.out; omega
                      case rel => exact ⟨(wrap64 (x10_2 + 1)), (t145), (true), (by first | rfl | (simp; done) | (simp [*]; done)), (by first | rfl | (simp; done) | (simp [*]; done)), (by first | rfl | (simp; done) | (simp [*]; done)), H', ⟨by have := HK1.out; have := HK2.out; omega⟩, ⟨by (with_reducible repeat (first | apply Kd.R_alloc | apply Kd.R_drewN | apply Kd.R_drew)); exact HO_6.out⟩, ⟨by (with_reducible repeat (first | apply Kd.R_alloc | apply Kd.R_drewN | apply Kd.R_drew)); exact HO_28.out⟩, ⟨by (with_reducible repeat (first | refine blk_drewN ?_ _ | refine blk_drew ?_ | refine blk_alloc ?_ _)); exact BK138.out⟩, ⟨by repeat (first | (with_reducible first | exact HB.out | apply below_alloc | apply pw_below_drewN | apply below_drew1 | refine below_set ?_ GE138.out) | exact HB.out)⟩⟩
                    · replace c20 := Bool.eq_false_iff.mpr c20
                      subst c20
                      have H1 : ((spec_LsBegins.f x11_2 t140).bind fun bt147 => (if bt147.2 = true then (spec_LsBack.l1 k2 x6_1 t140 (wrap64 (x10_2 + 1)) bt147.1 bt147.2 t141 (t141.length : Int) x30_1 a1_0 a1_1 a1_2 a1_3 a1_4 a1_5 a1_6 a1_7 a1_8) else (spec_LsBack.l1 k2 x6_1 t140 x10_2 x11_2 bt147.2 t141 (t141.length : Int) x30_1 a1_0 a1_1 a1_2 a1_3 a1_4 a1_5 a1_6 a1_7 a1_8))) = some (r1, r2) := by rw [if_neg (show ¬ (false = true) by decide)] at H; exact H
                      clear H
                      have H := H1
                      clear H1
                      replace H := Option.bind_eq_some_iff.mp H
                      obtain ⟨⟨t147, t148⟩, A220, H⟩ := H
                      replace H : (if t148 = true then (spec_LsBack.l1 k2 x6_1 t140 (wrap64 (x10_2 + 1)) t147 t148 t141 (t141.length : Int) x30_1 a1_0 a1_1 a1_2 a1_3 a1_4 a1_5 a1_6 a1_7 a1_8) else (spec_LsBack.l1 k2 x6_1 t140 x10_2 x11_2 t148 t141 (t141.length : Int) x30_1 a1_0 a1_1 a1_2 a1_3 a1_4 a1_5 a1_6 a1_7 a1_8)) = some (r1, r2) := H
                      have A22 := Aside0.mk A220
                      clear A220
                      by_cases c23 : t148 = true
                      · subst c23
                        have H1 : (spec_LsBack.l1 k2 x6_1 t140 (wrap64 (x10_2 + 1)) t147 true t141 (t141.length : Int) x30_1 a1_0 a1_1 a1_2 a1_3 a1_4 a1_5 a1_6 a1_7 a1_8) = some (r1, r2) := by rw [if_pos rfl] at H; exact H
                        clear H
                        have H := H1
                        clear H1
                        have H' := Aside0.mk H
                        clear H
                        have hcz24_0 : wr.cell? ⟨gb138, 0, none⟩ = some (.int .i64 a1_0) := (blk_cell BK138.out 0).trans rfl
                        have hcz24_1 : wr.cell? ⟨gb138, 1, none⟩ = some (.string a1_1) := (blk_cell BK138.out 1).trans rfl
                        have hcz24_2 : wr.cell? ⟨gb138, 2, none⟩ = some (.string a1_2) := (blk_cell BK138.out 2).trans rfl
                        have hcz24_3 : wr.cell? ⟨gb138, 3, none⟩ = some (.string a1_3) := (blk_cell BK138.out 3).trans rfl
                        have hcz24_4 : wr.cell? ⟨gb138, 4, none⟩ = some (.string a1_4) := (blk_cell BK138.out 4).trans rfl
                        have hcz24_5 : wr.cell? ⟨gb138, 5, none⟩ = some (.string a1_5) := (blk_cell BK138.out 5).trans rfl
                        have hcz24_6 : wr.cell? ⟨gb138, 6, none⟩ = some (.string a1_6) := (blk_cell BK138.out 6).trans rfl
                        have hcz24_7 : wr.cell? ⟨gb138, 7, none⟩ = some (.string a1_7) := (blk_cell BK138.out 7).trans rfl
                        have hcz24_8 : wr.cell? ⟨gb138, 8, none⟩ = some (.string a1_8) := (blk_cell BK138.out 8).trans rfl
                        have hfz24_0 := blk_frozen BK138.out 0
                        have hfz24_1 := blk_frozen BK138.out 1
                        have hfz24_2 := blk_frozen BK138.out 2
                        have hfz24_3 := blk_frozen BK138.out 3
                        have hfz24_4 := blk_frozen BK138.out 4
                        have hfz24_5 := blk_frozen BK138.out 5
                        have hfz24_6 := blk_frozen BK138.out 6
                        have hfz24_7 := blk_frozen BK138.out 7
                        have hfz24_8 := blk_frozen BK138.out 8
                        go_wp2_with (first | ((with_reducible refine gate_callee (f := 22) rfl ?_); refine goesL_ (some 40) rfl rfl Tryz.func22 (by kernel_rfl) rfl #[.string x11_2, .string a1_5] rfl (by (try simp only [List.map_toArray, List.map_cons, List.map_nil]); first | done | rfl | (simp only [List.length_drop, List.length_take]; rfl)) ?_; (with_reducible refine (spec_LsBegins.calls x11_2 a1_5 t145 false _ A19.out).mono ?_); rintro e w' ⟨rfl, ⟨nd, rfl⟩⟩; refine ⟨_, rfl, ?_⟩) | ((with_reducible refine gate_callee (f := 22) rfl ?_); refine goesL_ (some 48) rfl rfl Tryz.func22 (by kernel_rfl) rfl #[.string x11_2, .string t140] rfl (by (try simp only [List.map_toArray, List.map_cons, List.map_nil]); first | done | rfl | (simp only [List.length_drop, List.length_take]; rfl)) ?_; (with_reducible refine (spec_LsBegins.calls x11_2 t140 t147 true _ A22.out).mono ?_); rintro e w' ⟨rfl, ⟨nd, rfl⟩⟩; refine ⟨_, rfl, ?_⟩))
                        go_roundg k2
                        case measure => have := HK1.out; have := HK2.out; omega
                        case rel => exact ⟨(wrap64 (x10_2 + 1)), (t147), (true), (by first | rfl | (simp; done) | (simp [*]; done)), (by first | rfl | (simp; done) | (simp [*]; done)), (by first | rfl | (simp; done) | (simp [*]; done)), H', ⟨by have := HK1.out; have := HK2.out; omega⟩, ⟨by (with_reducible repeat (first | apply Kd.R_alloc | apply Kd.R_drewN | apply Kd.R_drew)); exact HO_6.out⟩, ⟨by (with_reducible repeat (first | apply Kd.R_alloc | apply Kd.R_drewN | apply Kd.R_drew)); exact HO_28.out⟩, ⟨by (with_reducible repeat (first | refine blk_drewN ?_ _ | refine blk_drew ?_ | refine blk_alloc ?_ _)); exact BK138.out⟩, ⟨by repeat (first | (with_reducible first | exact HB.out | apply below_alloc | apply pw_below_drewN | apply below_drew1 | refine below_set ?_ GE138.out) | exact HB.out)⟩⟩
                      · replace c23 := Bool.eq_false_iff.mpr c23
                        subst c23
                        have H1 : (spec_LsBack.l1 k2 x6_1 t140 x10_2 x11_2 false t141 (t141.length : Int) x30_1 a1_0 a1_1 a1_2 a1_3 a1_4 a1_5 a1_6 a1_7 a1_8) = some (r1, r2) := by rw [if_neg (show ¬ (false = true) by decide)] at H; exact H
                        clear H
                        have H := H1
                        clear H1
                        have H' := Aside0.mk H
                        clear H
                        have hcz25_0 : wr.cell? ⟨gb138, 0, none⟩ = some (.int .i64 a1_0) := (blk_cell BK138.out 0).trans rfl
                        have hcz25_1 : wr.cell? ⟨gb138, 1, none⟩ = some (.string a1_1) := (blk_cell BK138.out 1).trans rfl
                        have hcz25_2 : wr.cell? ⟨gb138, 2, none⟩ = some (.string a1_2) := (blk_cell BK138.out 2).trans rfl
                        have hcz25_3 : wr.cell? ⟨gb138, 3, none⟩ = some (.string a1_3) := (blk_cell BK138.out 3).trans rfl
                        have hcz25_4 : wr.cell? ⟨gb138, 4, none⟩ = some (.string a1_4) := (blk_cell BK138.out 4).trans rfl
                        have hcz25_5 : wr.cell? ⟨gb138, 5, none⟩ = some (.string a1_5) := (blk_cell BK138.out 5).trans rfl
                        have hcz25_6 : wr.cell? ⟨gb138, 6, none⟩ = some (.string a1_6) := (blk_cell BK138.out 6).trans rfl
                        have hcz25_7 : wr.cell? ⟨gb138, 7, none⟩ = some (.string a1_7) := (blk_cell BK138.out 7).trans rfl
                        have hcz25_8 : wr.cell? ⟨gb138, 8, none⟩ = some (.string a1_8) := (blk_cell BK138.out 8).trans rfl
                        have hfz25_0 := blk_frozen BK138.out 0
                        have hfz25_1 := blk_frozen BK138.out 1
                        have hfz25_2 := blk_frozen BK138.out 2
                        have hfz25_3 := blk_frozen BK138.out 3
                        have hfz25_4 := blk_frozen BK138.out 4
                        have hfz25_5 := blk_frozen BK138.out 5
                        have hfz25_6 := blk_frozen BK138.out 6
                        have hfz25_7 := blk_frozen BK138.out 7
                        have hfz25_8 := blk_frozen BK138.out 8
                        go_wp2_with (first | ((with_reducible refine gate_callee (f := 22) rfl ?_); refine goesL_ (some 40) rfl rfl Tryz.func22 (by kernel_rfl) rfl #[.string x11_2, .string a1_5] rfl (by (try simp only [List.map_toArray, List.map_cons, List.map_nil]); first | done | rfl | (simp only [List.length_drop, List.length_take]; rfl)) ?_; (with_reducible refine (spec_LsBegins.calls x11_2 a1_5 t145 false _ A19.out).mono ?_); rintro e w' ⟨rfl, ⟨nd, rfl⟩⟩; refine ⟨_, rfl, ?_⟩) | ((with_reducible refine gate_callee (f := 22) rfl ?_); refine goesL_ (some 48) rfl rfl Tryz.func22 (by kernel_rfl) rfl #[.string x11_2, .string t140] rfl (by (try simp only [List.map_toArray, List.map_cons, List.map_nil]); first | done | rfl | (simp only [List.length_drop, List.length_take]; rfl)) ?_; (with_reducible refine (spec_LsBegins.calls x11_2 t140 t147 false _ A22.out).mono ?_); rintro e w' ⟨rfl, ⟨nd, rfl⟩⟩; refine ⟨_, rfl, ?_⟩))
                        go_roundg k2
                        case measure => have := HK1.out; have := HK2.out; omega
                        case rel => exact ⟨(x10_2), (x11_2), (false), (by first | rfl | (simp; done) | (simp [*]; done)), (by first | rfl | (simp; done) | (simp [*]; done)), (by first | rfl | (simp; done) | (simp [*]; done)), H', ⟨by have := HK1.out; have := HK2.out; omega⟩, ⟨by (with_reducible repeat (first | apply Kd.R_alloc | apply Kd.R_drewN | apply Kd.R_drew)); exact HO_6.out⟩, ⟨by (with_reducible repeat (first | apply Kd.R_alloc | apply Kd.R_drewN | apply Kd.R_drew)); exact HO_28.out⟩, ⟨by (with_reducible repeat (first | refine blk_drewN ?_ _ | refine blk_drew ?_ | refine blk_alloc ?_ _)); exact BK138.out⟩, ⟨by repeat (first | (with_reducible first | exact HB.out | apply below_alloc | apply pw_below_drewN | apply below_drew1 | refine below_set ?_ GE138.out) | exact HB.out)⟩⟩
                  · replace c18 := Bool.eq_false_iff.mpr c18
                    subst c18
                    have H1 : ((some (([a1_1, a1_2, a1_3, a1_4, a1_6] : List ByteArray) : List ByteArray)).bind fun y149 => (spec_LsBack.l2 k2 x6_1 t140 x10_2 x11_2 false t141 (t141.length : Int) x30_1 y149 (y149.length : Int) 0 a1_0 a1_1 a1_2 a1_3 a1_4 a1_5 a1_6 a1_7 a1_8)) = some (r1, r2) := by rw [if_neg (show ¬ (false = true) by decide)] at H; exact H
                    clear H
                    have H := H1
                    clear H1
                    obtain ⟨y149, hy149⟩ : ∃ y_ : List ByteArray, y_ = (([a1_1, a1_2, a1_3, a1_4, a1_6] : List ByteArray)) := ⟨_, rfl⟩
                    replace H : (spec_LsBack.l2 k2 x6_1 t140 x10_2 x11_2 false t141 (t141.length : Int) x30_1 y149 (y149.length : Int) 0 a1_0 a1_1 a1_2 a1_3 a1_4 a1_5 a1_6 a1_7 a1_8) = some (r1, r2) := by first | (rw [hy149]; with_reducible exact H) | (have H2_ := (Option.bind_some _ _).symm.trans H; rw [hy149]; with_reducible exact H2_) | (have H2_ := (Option.bind_some _ _).symm.trans H; with_reducible exact H2_) | with_reducible exact H | (rw [hy149]; exact H) | exact H
                    have Ny149 := Aside0.mk hy149
                    clear hy149
                    have H' := Aside0.mk H
                    clear H
                    have hcz26_0 : wr.cell? ⟨gb138, 0, none⟩ = some (.int .i64 a1_0) := (blk_cell BK138.out 0).trans rfl
                    have hcz26_1 : wr.cell? ⟨gb138, 1, none⟩ = some (.string a1_1) := (blk_cell BK138.out 1).trans rfl
                    have hcz26_2 : wr.cell? ⟨gb138, 2, none⟩ = some (.string a1_2) := (blk_cell BK138.out 2).trans rfl
                    have hcz26_3 : wr.cell? ⟨gb138, 3, none⟩ = some (.string a1_3) := (blk_cell BK138.out 3).trans rfl
                    have hcz26_4 : wr.cell? ⟨gb138, 4, none⟩ = some (.string a1_4) := (blk_cell BK138.out 4).trans rfl
                    have hcz26_5 : wr.cell? ⟨gb138, 5, none⟩ = some (.string a1_5) := (blk_cell BK138.out 5).trans rfl
                    have hcz26_6 : wr.cell? ⟨gb138, 6, none⟩ = some (.string a1_6) := (blk_cell BK138.out 6).trans rfl
                    have hcz26_7 : wr.cell? ⟨gb138, 7, none⟩ = some (.string a1_7) := (blk_cell BK138.out 7).trans rfl
                    have hcz26_8 : wr.cell? ⟨gb138, 8, none⟩ = some (.string a1_8) := (blk_cell BK138.out 8).trans rfl
                    have hfz26_0 := blk_frozen BK138.out 0
                    have hfz26_1 := blk_frozen BK138.out 1
                    have hfz26_2 := blk_frozen BK138.out 2
                    have hfz26_3 := blk_frozen BK138.out 3
                    have hfz26_4 := blk_frozen BK138.out 4
                    have hfz26_5 := blk_frozen BK138.out 5
                    have hfz26_6 := blk_frozen BK138.out 6
                    have hfz26_7 := blk_frozen BK138.out 7
                    have hfz26_8 := blk_frozen BK138.out 8
                    go_wp2_with (first | ((with_reducible refine gate_dst (N := 66) rfl ?_); refine Kd.R_lit Kd.string _ 9 ?hg (N := 66) ?hd (xs := ([a1_1, a1_2, a1_3, a1_4, a1_6] : List ByteArray)) (inner := [.string a1_1, .string a1_2, .string a1_3, .string a1_4, .string a1_6]) (ok := fun _ => True) (okp := fun _ => True) ?hr ?hp (fun _ hk => hk) trivial (Below.refl _ _) (Nat.le_refl _) (by simp) ?_; (case hd => rfl); (case hg => rfl); (case hr => first | (go_simp; done) | (go_simp; rfl)); (case hp => exact (Reps.one (show Kd.M Kd.string _ _ _ a1_1 [.string a1_1] from rfl) (Reps.one (show Kd.M Kd.string _ _ _ a1_2 [.string a1_2] from rfl) (Reps.one (show Kd.M Kd.string _ _ _ a1_3 [.string a1_3] from rfl) (Reps.one (show Kd.M Kd.string _ _ _ a1_4 [.string a1_4] from rfl) (Reps.one (show Kd.M Kd.string _ _ _ a1_6 [.string a1_6] from rfl) (Reps.none _ _))))))); intro v150 w27 ho28 hb hg_ hnew_; clear hg_ hnew_; (first | rw [← Ny149.out] at ho28 | (simp only [Int.reduceToNat] at ho28; rw [← Ny149.out] at ho28)); have n0_ := Aside0.mk (Kd.R_below (by (with_reducible repeat (first | apply Kd.R_alloc | apply Kd.R_drewN | apply Kd.R_drew)); exact HO_6.out) hb); have n1_ := Aside0.mk (Kd.R_elder' (by (with_reducible repeat (first | apply Kd.R_alloc | apply Kd.R_drewN | apply Kd.R_drew)); exact HO_28.out) (Kd.R_base ho28) hb); have n2_ := Aside0.mk (Kd.R_lower (Kd.R_new' ho28 (Kd.R_lt (by (with_reducible repeat (first | apply Kd.R_alloc | apply Kd.R_drewN | apply Kd.R_drew)); exact HO_28.out))) (below_size (by repeat (first | (with_reducible first | exact HB.out | apply below_alloc | apply pw_below_drewN | apply below_drew1 | refine below_set ?_ GE138.out) | exact HB.out)))); have n3_ := Aside0.mk (blk_below (g := gb138) (o := .cells #[.int .i64 a1_0, .string a1_1, .string a1_2, .string a1_3, .string a1_4, .string a1_5, .string a1_6, .string a1_7, .string a1_8] 24 (0, 0)) (by (with_reducible repeat (first | refine blk_drewN ?_ _ | refine blk_drew ?_ | refine blk_alloc ?_ _)); exact BK138.out) hb); have n4_ := Aside0.mk (below_step (by repeat (first | (with_reducible first | exact HB.out | apply below_alloc | apply pw_below_drewN | apply below_drew1 | refine below_set ?_ GE138.out) | exact HB.out)) hb); clear HO_6; clear HO_28; clear BK138; clear HB; have HO_6 := n0_; have HO_28 := n1_; have HO151 := n2_; have BK138 := n3_; have HB := n4_; clear n0_ n1_ n2_ n3_ n4_; clear hb ho28; obtain ⟨Ao29, co29, eo29⟩ := Kd.R_slice HO151.out; subst eo29))
                    go_loopg [6, 15, 68] k2 (fun kq v6 v15 v68 w' => ∃ (x6_3 : List (S42)) (x15_3 : Bool) (x68_3 : Int), v15 = .bool x15_3 ∧ v68 = .int .i64 x68_3 ∧ Aside0 (spec_LsBack.l2 kq x6_3 t140 x10_2 x11_2 x15_3 t141 (t141.length : Int) x30_1 y149 (y149.length : Int) x68_3 a1_0 a1_1 a1_2 a1_3 a1_4 a1_5 a1_6 a1_7 a1_8 = some (r1, r2)) ∧ Aside0 (kq ≤ k2) ∧ Aside0 (Kd.R k42 42 w' w.heap.size (fun _ => True) v6 x6_3) ∧ Aside0 (Kd.R Kd.string 9 w' w.heap.size (fun k_ => some k_ ≠ ((.slice Ao29 y149.length co29) : Value).ownBlock) (.slice (some ad144) t141.length co14) t141) ∧ Aside0 (Kd.R Kd.string 9 w' w.heap.size (fun k_ => some k_ ≠ ((.slice (some ad144) t141.length co14) : Value).ownBlock) (.slice Ao29 y149.length co29) y149) ∧ Aside0 (w'.heap[gb138]? = some (.cells #[.int .i64 a1_0, .string a1_1, .string a1_2, .string a1_3, .string a1_4, .string a1_5, .string a1_6, .string a1_7, .string a1_8] 24 (0, 0))) ∧ Aside0 (Below w.heap.size w w'))
                    case atStart => exact ⟨(x6_1), (false), (0), (by first | rfl | (simp; done) | (simp [*]; done)), (by first | rfl | (simp; done) | (simp [*]; done)), H', ⟨Nat.le_refl _⟩, ⟨by (with_reducible repeat (first | apply Kd.R_alloc | apply Kd.R_drewN | apply Kd.R_drew)); exact HO_6.out⟩, ⟨by (with_reducible repeat (first | apply Kd.R_alloc | apply Kd.R_drewN | apply Kd.R_drew)); exact Kd.R_mono HO_28.out (fun _ hk => hk.2)⟩, ⟨by (with_reducible repeat (first | apply Kd.R_alloc | apply Kd.R_drewN | apply Kd.R_drew)); exact Kd.R_mono HO151.out (fun _ hk => hk.2)⟩, ⟨by (with_reducible repeat (first | refine blk_drewN ?_ _ | refine blk_drew ?_ | refine blk_alloc ?_ _)); exact BK138.out⟩, ⟨by repeat (first | (with_reducible first | exact HB.out | apply below_alloc | apply pw_below_drewN | apply below_drew1 | refine below_set ?_ GE138.out) | exact HB.out)⟩⟩
                    case round =>
                      clear H'
                      try clear c1
                      try clear p1
                      try clear q1
                      try clear hx1
                      try clear c2
                      try clear p2
                      try clear c3
                      try clear c3b0
                      try clear c3b1
                      try clear p6
                      try clear c11
                      try clear p14
                      try clear q14
                      try clear hx14
                      try clear c15
                      try clear c15b0
                      try clear c16
                      try clear c16b0
                      try clear c17
                      try clear c17b0
                      try clear c18
                      try clear c20
                      try clear c22
                      try clear c23
                      try clear c24
                      try clear c25
                      try clear hcz10_0
                      try clear hcz10_1
                      try clear hcz10_2
                      try clear hcz10_3
                      try clear hcz10_4
                      try clear hcz10_5
                      try clear hcz10_6
                      try clear hcz10_7
                      try clear hcz10_8
                      try clear hcz21_0
                      try clear hcz21_1
                      try clear hcz21_2
                      try clear hcz21_3
                      try clear hcz21_4
                      try clear hcz21_5
                      try clear hcz21_6
                      try clear hcz21_7
                      try clear hcz21_8
                      try clear hcz24_0
                      try clear hcz24_1
                      try clear hcz24_2
                      try clear hcz24_3
                      try clear hcz24_4
                      try clear hcz24_5
                      try clear hcz24_6
                      try clear hcz24_7
                      try clear hcz24_8
                      try clear hcz25_0
                      try clear hcz25_1
                      try clear hcz25_2
                      try clear hcz25_3
                      try clear hcz25_4
                      try clear hcz25_5
                      try clear hcz25_6
                      try clear hcz25_7
                      try clear hcz25_8
                      try clear hcz26_0
                      try clear hcz26_1
                      try clear hcz26_2
                      try clear hcz26_3
                      try clear hcz26_4
                      try clear hcz26_5
                      try clear hcz26_6
                      try clear hcz26_7
                      try clear hcz26_8
                      try clear hcz5_0
                      try clear hcz5_1
                      try clear hcz5_2
                      try clear hcz5_3
                      try clear hcz5_4
                      try clear hcz5_5
                      try clear hcz5_6
                      try clear hcz5_7
                      try clear hcz5_8
                      try clear hfz10_0
                      try clear hfz10_1
                      try clear hfz10_2
                      try clear hfz10_3
                      try clear hfz10_4
                      try clear hfz10_5
                      try clear hfz10_6
                      try clear hfz10_7
                      try clear hfz10_8
                      try clear hfz21_0
                      try clear hfz21_1
                      try clear hfz21_2
                      try clear hfz21_3
                      try clear hfz21_4
                      try clear hfz21_5
                      try clear hfz21_6
                      try clear hfz21_7
                      try clear hfz21_8
                      try clear hfz24_0
                      try clear hfz24_1
                      try clear hfz24_2
                      try clear hfz24_3
                      try clear hfz24_4
                      try clear hfz24_5
                      try clear hfz24_6
                      try clear hfz24_7
                      try clear hfz24_8
                      try clear hfz25_0
                      try clear hfz25_1
                      try clear hfz25_2
                      try clear hfz25_3
                      try clear hfz25_4
                      try clear hfz25_5
                      try clear hfz25_6
                      try clear hfz25_7
                      try clear hfz25_8
                      try clear hfz26_0
                      try clear hfz26_1
                      try clear hfz26_2
                      try clear hfz26_3
                      try clear hfz26_4
                      try clear hfz26_5
                      try clear hfz26_6
                      try clear hfz26_7
                      try clear hfz26_8
                      try clear hfz5_0
                      try clear hfz5_1
                      try clear hfz5_2
                      try clear hfz5_3
                      try clear hfz5_4
                      try clear hfz5_5
                      try clear hfz5_6
                      try clear hfz5_7
                      try clear hfz5_8
                      try clear hx144_0
                      try clear p1
                      try clear p14
                      try clear p144
                      try clear p2
                      try clear q1
                      try clear q14
                      try clear q144
                      obtain ⟨x6_3, x15_3, x68_3, rfl, rfl, HA, HK3, HO_6, HO_28, HO_66, BK138, HB⟩ := hrel
                      cases gk with
                      | zero => exact absurd HA.out (by simp [spec_LsBack.l2])
                      | succ k3 =>
                        have H := HA.out
                        clear HA
                        simp only [spec_LsBack.l2] at H
                        by_cases c30 : x68_3 < (y149.length : Int)
                        · rw [if_pos c30] at H
                          have c30b0 : decide (x68_3 < (y149.length : Int)) = true := decide_eq_true c30
                          clear c30
                          by_cases c31 : 0 ≤ x68_3
                          · rw [if_pos c31] at H
                            have c31b0 : decide (0 ≤ x68_3) = true := decide_eq_true c31
                            clear c31
                            by_cases c32 : x68_3 < (y149.length : Int)
                            · rw [if_pos c32] at H
                              have c32b0 : decide (x68_3 < (y149.length : Int)) = true := decide_eq_true c32
                              clear c32
                              by_cases c33 : (rdOf ByteArray.empty y149 x68_3).size + 1 ≤ 9223372036854775807
                              · rw [if_pos c33] at H
                                have c33b0 := eq_true c33
                                have c33b1 : decide ((rdOf ByteArray.empty y149 x68_3).size + 1 ≤ 9223372036854775807) = true := decide_eq_true c33
                                try have c33b2 : (9223372036854775807 < (rdOf ByteArray.empty y149 x68_3).size + 1) = False := eq_false (Nat.not_lt.2 c33)
                                replace H := Option.bind_eq_some_iff.mp H
                                obtain ⟨⟨t153, t154⟩, A340, H⟩ := H
                                replace H : (if t154 = true then (if x15_3 = true then (spec_LsBack.l2 k3 x6_3 t140 x10_2 x11_2 x15_3 t141 (t141.length : Int) x30_1 y149 (y149.length : Int) (wrap64 (x68_3 + 1)) a1_0 a1_1 a1_2 a1_3 a1_4 a1_5 a1_6 a1_7 a1_8) else (if x6_3.length < 5864062014805 then (spec_LsBack.l2 k3 (x6_3 ++ [(⟨t153, x10_2⟩ : S42)]) t140 x10_2 x11_2 true t141 (t141.length : Int) x30_1 y149 (y149.length : Int) (wrap64 (x68_3 + 1)) a1_0 a1_1 a1_2 a1_3 a1_4 a1_5 a1_6 a1_7 a1_8) else (none))) else (spec_LsBack.l2 k3 x6_3 t140 x10_2 x11_2 x15_3 t141 (t141.length : Int) x30_1 y149 (y149.length : Int) (wrap64 (x68_3 + 1)) a1_0 a1_1 a1_2 a1_3 a1_4 a1_5 a1_6 a1_7 a1_8)) = some (r1, r2) := H
                                have A34 := Aside0.mk A340
                                clear A340
                                by_cases c35 : t154 = true
                                · subst c35
                                  have H1 : (if x15_3 = true then (spec_LsBack.l2 k3 x6_3 t140 x10_2 x11_2 x15_3 t141 (t141.length : Int) x30_1 y149 (y149.length : Int) (wrap64 (x68_3 + 1)) a1_0 a1_1 a1_2 a1_3 a1_4 a1_5 a1_6 a1_7 a1_8) else (if x6_3.length < 5864062014805 then (spec_LsBack.l2 k3 (x6_3 ++ [(⟨t153, x10_2⟩ : S42)]) t140 x10_2 x11_2 true t141 (t141.length : Int) x30_1 y149 (y149.length : Int) (wrap64 (x68_3 + 1)) a1_0 a1_1 a1_2 a1_3 a1_4 a1_5 a1_6 a1_7 a1_8) else (none))) = some (r1, r2) := by rw [if_pos rfl] at H; exact H
                                  clear H
                                  have H := H1
                                  clear H1
                                  by_cases c36 : x15_3 = true
                                  · subst c36
                                    have H1 : (spec_LsBack.l2 k3 x6_3 t140 x10_2 x11_2 true t141 (t141.length : Int) x30_1 y149 (y149.length : Int) (wrap64 (x68_3 + 1)) a1_0 a1_1 a1_2 a1_3 a1_4 a1_5 a1_6 a1_7 a1_8) = some (r1, r2) := by rw [if_pos rfl] at H; exact H
                                    clear H
                                    have H := H1
                                    clear H1
                                    have H' := Aside0.mk H
                                    clear H
                                    have p152 : 0 ≤ (x68_3 : Int) := of_decide_eq_true (by first | (with_reducible assumption) | assumption)
                                    have q152 : x68_3 < (y149.length : Int) := of_decide_eq_true (by first | (with_reducible assumption) | assumption)
                                    obtain ⟨ad152, e152, hx152_0⟩ := Kd.at_string (Kd.R_reads' HO_66.out).2.2 x68_3 p152 q152
                                    cases e152
                                    replace p152 := eq_true p152
                                    replace q152 := eq_true q152
                                    go_wp2_with (first | ((with_reducible refine gate_callee (f := 22) rfl ?_); refine goesL_ (some 76) rfl rfl Tryz.func22 (by kernel_rfl) rfl #[.string x11_2, .string ((rdOf ByteArray.empty y149 x68_3) ++ (⟨#[32]⟩ : ByteArray))] rfl (by (try simp only [List.map_toArray, List.map_cons, List.map_nil]); first | done | rfl | (simp only [List.length_drop, List.length_take]; rfl)) ?_; (with_reducible refine (spec_LsBegins.calls x11_2 ((rdOf ByteArray.empty y149 x68_3) ++ (⟨#[32]⟩ : ByteArray)) t153 true _ A34.out).mono ?_); rintro e w' ⟨rfl, ⟨nd, rfl⟩⟩; refine ⟨_, rfl, ?_⟩))
                                    go_roundg k3
                                    case measure => have := HK1.out; have := HK2.out; have := HK3.out; omega
                                    case rel => exact ⟨(x6_3), (true), (wrap64 (x68_3 + 1)), (by first | rfl | (simp; done) | (simp [*]; done)), (by first | rfl | (simp; done) | (simp [*]; done)), H', ⟨by have := HK1.out; have := HK2.out; have := HK3.out; omega⟩, ⟨by (with_reducible repeat (first | apply Kd.R_alloc | apply Kd.R_drewN | apply Kd.R_drew)); exact HO_6.out⟩, ⟨by (with_reducible repeat (first | apply Kd.R_alloc | apply Kd.R_drewN | apply Kd.R_drew)); exact HO_28.out⟩, ⟨by (with_reducible repeat (first | apply Kd.R_alloc | apply Kd.R_drewN | apply Kd.R_drew)); exact HO_66.out⟩, ⟨by (with_reducible repeat (first | refine blk_drewN ?_ _ | refine blk_drew ?_ | refine blk_alloc ?_ _)); exact BK138.out⟩, ⟨by repeat (first | (with_reducible first | exact HB.out | apply below_alloc | apply pw_below_drewN | apply below_drew1 | refine below_set ?_ GE138.out) | exact HB.out)⟩⟩
                                  · replace c36 := Bool.eq_false_iff.mpr c36
                                    subst c36
                                    have H1 : (if x6_3.length < 5864062014805 then (spec_LsBack.l2 k3 (x6_3 ++ [(⟨t153, x10_2⟩ : S42)]) t140 x10_2 x11_2 true t141 (t141.length : Int) x30_1 y149 (y149.length : Int) (wrap64 (x68_3 + 1)) a1_0 a1_1 a1_2 a1_3 a1_4 a1_5 a1_6 a1_7 a1_8) else (none)) = some (r1, r2) := by rw [if_neg (show ¬ (false = true) by decide)] at H; exact H
                                    clear H
                                    have H := H1
                                    clear H1
                                    by_cases c37 : x6_3.length < 5864062014805
                                    · rw [if_pos c37] at H
                                      have LMc37 := Aside0.mk c37
                                      clear c37
                                      obtain ⟨y155, hy155⟩ : ∃ y_ : List (S42), y_ = (x6_3 ++ [(⟨t153, x10_2⟩ : S42)]) := ⟨_, rfl⟩
                                      replace H : (spec_LsBack.l2 k3 y155 t140 x10_2 x11_2 true t141 (t141.length : Int) x30_1 y149 (y149.length : Int) (wrap64 (x68_3 + 1)) a1_0 a1_1 a1_2 a1_3 a1_4 a1_5 a1_6 a1_7 a1_8) = some (r1, r2) := by first | (rw [hy155]; with_reducible exact H) | (have H2_ := (Option.bind_some _ _).symm.trans H; rw [hy155]; with_reducible exact H2_) | (have H2_ := (Option.bind_some _ _).symm.trans H; with_reducible exact H2_) | with_reducible exact H | (rw [hy155]; exact H) | exact H
                                      have Ny155 := Aside0.mk hy155
                                      clear hy155
                                      have H' := Aside0.mk H
                                      clear H
                                      have p152 : 0 ≤ (x68_3 : Int) := of_decide_eq_true (by first | (with_reducible assumption) | assumption)
                                      have q152 : x68_3 < (y149.length : Int) := of_decide_eq_true (by first | (with_reducible assumption) | assumption)
                                      obtain ⟨ad152, e152, hx152_0⟩ := Kd.at_string (Kd.R_reads' HO_66.out).2.2 x68_3 p152 q152
                                      cases e152
                                      replace p152 := eq_true p152
                                      replace q152 := eq_true q152
                                      go_wp2_with (first | ((with_reducible refine gate_callee (f := 22) rfl ?_); refine goesL_ (some 76) rfl rfl Tryz.func22 (by kernel_rfl) rfl #[.string x11_2, .string ((rdOf ByteArray.empty y149 x68_3) ++ (⟨#[32]⟩ : ByteArray))] rfl (by (try simp only [List.map_toArray, List.map_cons, List.map_nil]); first | done | rfl | (simp only [List.length_drop, List.length_take]; rfl)) ?_; (with_reducible refine (spec_LsBegins.calls x11_2 ((rdOf ByteArray.empty y149 x68_3) ++ (⟨#[32]⟩ : ByteArray)) t153 true _ A34.out).mono ?_); rintro e w' ⟨rfl, ⟨nd, rfl⟩⟩; refine ⟨_, rfl, ?_⟩) | ((with_reducible refine gate_builtin (b := .append) (xs := #[.tmp 84, .tmp 88]) rfl ?_); at_builtin; refine Kd.R_append k42 (w0 := w) w.heap.size rfl (.tmp 84) (.tmp 88) 27 42 (.agg #[(.string ⟨#[]⟩), (.int .i64 0)]) 24 rfl Tryz.underlying27 info42 rfl (by decide) (by omega) u6 x6_3 (⟨t153, x10_2⟩ : S42) [.string t153, .int .i64 x10_2] (fun _ => True) (fun _ => False) rfl rfl ?aP (fun _ hk => hk.elim) ?aF ?aO ?aB ?aS ?aL ?_; (case aP => exact k42_mkM _ _ _ (⟨t153, x10_2⟩ : S42)); (case aB => exact (by repeat (first | (with_reducible first | exact HB.out | apply below_alloc | apply pw_below_drewN | apply below_drew1 | refine below_set ?_ GE138.out) | exact HB.out))); (case aF => exact (fun _ _ => trivial)); (case aO => exact (by (with_reducible repeat (first | apply Kd.R_alloc | apply Kd.R_drewN | apply Kd.R_drew)); exact HO_6.out)); (case aS => exact (below_size (by repeat (first | (with_reducible first | exact HB.out | apply below_alloc | apply pw_below_drewN | apply below_drew1 | refine below_set ?_ GE138.out) | exact HB.out)))); (case aL => have := LMc37.out; omega); intro v156 w38 ho hb hg hat; rw [← Ny155.out] at ho; have n0_ := Aside0.mk (Kd.R_over' (by (with_reducible repeat (first | apply Kd.R_alloc | apply Kd.R_drewN | apply Kd.R_drew)); exact HO_28.out) (Kd.R_typed (by (with_reducible repeat (first | apply Kd.R_alloc | apply Kd.R_drewN | apply Kd.R_drew)); exact HO_6.out)) (by decide) hg); have n1_ := Aside0.mk (Kd.R_over' (by (with_reducible repeat (first | apply Kd.R_alloc | apply Kd.R_drewN | apply Kd.R_drew)); exact HO_66.out) (Kd.R_typed (by (with_reducible repeat (first | apply Kd.R_alloc | apply Kd.R_drewN | apply Kd.R_drew)); exact HO_6.out)) (by decide) hg); have n2_ := Aside0.mk (blk_grown (g := gb138) (o := .cells #[.int .i64 a1_0, .string a1_1, .string a1_2, .string a1_3, .string a1_4, .string a1_5, .string a1_6, .string a1_7, .string a1_8] 24 (0, 0)) (by (with_reducible repeat (first | refine blk_drewN ?_ _ | refine blk_drew ?_ | refine blk_alloc ?_ _)); exact BK138.out) hg (Kd.R_ne HO_6.out BK138.out (by decide))); have n3_ := Aside0.mk (hb); have n4_ := Aside0.mk (ho); clear HO_28; clear HO_66; clear BK138; clear HB; clear HO_6; have HO_28 := n0_; have HO_66 := n1_; have BK138 := n2_; have HB := n3_; have HO157 := n4_; clear n0_ n1_ n2_ n3_ n4_; clear ho hb hg hat))
                                      go_roundg k3
                                      case measure => have := HK1.out; have := HK2.out; have := HK3.out; omega
                                      case rel => exact ⟨(y155), (true), (wrap64 (x68_3 + 1)), (by first | rfl | (simp; done) | (simp [*]; done)), (by first | rfl | (simp; done) | (simp [*]; done)), H', ⟨by have := HK1.out; have := HK2.out; have := HK3.out; omega⟩, ⟨by (with_reducible repeat (first | apply Kd.R_alloc | apply Kd.R_drewN | apply Kd.R_drew)); exact HO157.out⟩, ⟨by (with_reducible repeat (first | apply Kd.R_alloc | apply Kd.R_drewN | apply Kd.R_drew)); exact HO_28.out⟩, ⟨by (with_reducible repeat (first | apply Kd.R_alloc | apply Kd.R_drewN | apply Kd.R_drew)); exact HO_66.out⟩, ⟨by (with_reducible repeat (first | refine blk_drewN ?_ _ | refine blk_drew ?_ | refine blk_alloc ?_ _)); exact BK138.out⟩, ⟨by repeat (first | (with_reducible first | exact HB.out | apply below_alloc | apply pw_below_drewN | apply below_drew1 | refine below_set ?_ GE138.out) | exact HB.out)⟩⟩
                                    · rw [if_neg c37] at H
                                      exact absurd H (by simp)
                                · replace c35 := Bool.eq_false_iff.mpr c35
                                  subst c35
                                  have H1 : (spec_LsBack.l2 k3 x6_3 t140 x10_2 x11_2 x15_3 t141 (t141.length : Int) x30_1 y149 (y149.length : Int) (wrap64 (x68_3 + 1)) a1_0 a1_1 a1_2 a1_3 a1_4 a1_5 a1_6 a1_7 a1_8) = some (r1, r2) := by rw [if_neg (show ¬ (false = true) by decide)] at H; exact H
                                  clear H
                                  have H := H1
                                  clear H1
                                  have H' := Aside0.mk H
                                  clear H
                                  have p152 : 0 ≤ (x68_3 : Int) := of_decide_eq_true (by first | (with_reducible assumption) | assumption)
                                  have q152 : x68_3 < (y149.length : Int) := of_decide_eq_true (by first | (with_reducible assumption) | assumption)
                                  obtain ⟨ad152, e152, hx152_0⟩ := Kd.at_string (Kd.R_reads' HO_66.out).2.2 x68_3 p152 q152
                                  cases e152
                                  replace p152 := eq_true p152
                                  replace q152 := eq_true q152
                                  go_wp2_with (first | ((with_reducible refine gate_callee (f := 22) rfl ?_); refine goesL_ (some 76) rfl rfl Tryz.func22 (by kernel_rfl) rfl #[.string x11_2, .string ((rdOf ByteArray.empty y149 x68_3) ++ (⟨#[32]⟩ : ByteArray))] rfl (by (try simp only [List.map_toArray, List.map_cons, List.map_nil]); first | done | rfl | (simp only [List.length_drop, List.length_take]; rfl)) ?_; (with_reducible refine (spec_LsBegins.calls x11_2 ((rdOf ByteArray.empty y149 x68_3) ++ (⟨#[32]⟩ : ByteArray)) t153 false _ A34.out).mono ?_); rintro e w' ⟨rfl, ⟨nd, rfl⟩⟩; refine ⟨_, rfl, ?_⟩))
                                  go_roundg k3
                                  case measure => have := HK1.out; have := HK2.out; have := HK3.out; omega
                                  case rel => exact ⟨(x6_3), (x15_3), (wrap64 (x68_3 + 1)), (by first | rfl | (simp; done) | (simp [*]; done)), (by first | rfl | (simp; done) | (simp [*]; done)), H', ⟨by have := HK1.out; have := HK2.out; have := HK3.out; omega⟩, ⟨by (with_reducible repeat (first | apply Kd.R_alloc | apply Kd.R_drewN | apply Kd.R_drew)); exact HO_6.out⟩, ⟨by (with_reducible repeat (first | apply Kd.R_alloc | apply Kd.R_drewN | apply Kd.R_drew)); exact HO_28.out⟩, ⟨by (with_reducible repeat (first | apply Kd.R_alloc | apply Kd.R_drewN | apply Kd.R_drew)); exact HO_66.out⟩, ⟨by (with_reducible repeat (first | refine blk_drewN ?_ _ | refine blk_drew ?_ | refine blk_alloc ?_ _)); exact BK138.out⟩, ⟨by repeat (first | (with_reducible first | exact HB.out | apply below_alloc | apply pw_below_drewN | apply below_drew1 | refine below_set ?_ GE138.out) | exact HB.out)⟩⟩
                              · rw [if_neg c33] at H
                                exact absurd H (by simp)
                            · rw [if_neg c32] at H
                              exact absurd H (by simp)
                          · rw [if_neg c31] at H
                            exact absurd H (by simp)
                        · rw [if_neg c30] at H
                          have c30b0 : decide (x68_3 < (y149.length : Int)) = false := decide_eq_false c30
                          clear c30
                          by_cases c39 : x15_3 = true
                          · subst c39
                            have H1 : (spec_LsBack.l0 k3 x6_3 t140 t141 (t141.length : Int) (wrap64 (x30_1 + 1)) a1_0 a1_1 a1_2 a1_3 a1_4 a1_5 a1_6 a1_7 a1_8) = some (r1, r2) := by rw [if_pos rfl] at H; exact H
                            clear H
                            have H := H1
                            clear H1
                            have H' := Aside0.mk H
                            clear H
                            go_wp2
                            go_roundg k3
                            case measure => have := HK1.out; have := HK2.out; have := HK3.out; omega
                            case rel => exact ⟨(x6_3), (wrap64 (x30_1 + 1)), (by first | rfl | (simp; done) | (simp [*]; done)), H', ⟨by have := HK1.out; have := HK2.out; have := HK3.out; omega⟩, ⟨by (with_reducible repeat (first | apply Kd.R_alloc | apply Kd.R_drewN | apply Kd.R_drew)); exact HO_6.out⟩, ⟨by (with_reducible repeat (first | apply Kd.R_alloc | apply Kd.R_drewN | apply Kd.R_drew)); exact Kd.R_mono HO_28.out (fun _ hk => trivial)⟩, ⟨by (with_reducible repeat (first | refine blk_drewN ?_ _ | refine blk_drew ?_ | refine blk_alloc ?_ _)); exact BK138.out⟩, ⟨by repeat (first | (with_reducible first | exact HB.out | apply below_alloc | apply pw_below_drewN | apply below_drew1 | refine below_set ?_ GE138.out) | exact HB.out)⟩⟩
                          · replace c39 := Bool.eq_false_iff.mpr c39
                            subst c39
                            have H1 : (some (([] : List (S42)), false)) = some (r1, r2) := by rw [if_neg (show ¬ (false = true) by decide)] at H; exact H
                            clear H
                            have H := H1
                            clear H1
                            simp only [Option.some.injEq, Prod.mk.injEq] at H
                            obtain ⟨rfl, rfl⟩ := H
                            go_wp2
                            go_ret2
                            exact ⟨_, by first | rfl | (simp [errW_none, errW_some] <;> rfl) | (simp [*, errW_none, errW_some] <;> rfl), by first | exact Kd.R_nil _ _ _ _ _ | exact Kd.N_nil _ _ _ _ _ | exact Kd.V_nil _ _ _ _ _ | exact Kd.Q_nil _ _ _ _ _ | exact Kd.S_nil _ _ _ _ _, by repeat (first | (with_reducible first | exact HB.out | apply below_alloc | apply pw_below_drewN | apply below_drew1 | refine below_set ?_ GE138.out) | exact HB.out)⟩
            · rw [if_neg c17] at H
              exact absurd H (by simp)
          · rw [if_neg c16] at H
            exact absurd H (by simp)
        · rw [if_neg c15] at H
          have c15b0 : decide (x30_1 < (t141.length : Int)) = false := decide_eq_false c15
          clear c15
          simp only [Option.some.injEq, Prod.mk.injEq] at H
          obtain ⟨rfl, rfl⟩ := H
          go_wp2
          go_ret2
          exact ⟨_, by first | rfl | (simp [errW_none, errW_some] <;> rfl) | (simp [*, errW_none, errW_some] <;> rfl), by (with_reducible repeat (first | apply Kd.R_alloc | apply Kd.R_drewN | apply Kd.R_drew)); exact HO_6.out, by repeat (first | (with_reducible first | exact HB.out | apply below_alloc | apply pw_below_drewN | apply below_drew1 | refine below_set ?_ GE138.out) | exact HB.out)⟩

-- FOREIGN: function 12 (impl_ListRender)

end Go.Proofs.YthjpchabeemfmaaGreatDoor.P
