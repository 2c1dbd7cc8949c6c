/- Printed by a program of this session (pf.sh): Go functions as Lean functions, with their contracts. -/
import Derived.Test.YteenhipldfdkaaaDoorPx0
import Derived.Test.YteenhipldfdkaaaDoorPx1
import Derived.Test.YteenhipldfdkaaaDoorPx3
import Derived.Test.YteenhipldfdkaaaDoorFf
namespace Go.Proofs.YteenhipldfdkaaaDoor.P
open Go.RowKit Go.Proofs.YteenhipldfdkaaaDoorW.PrintWords Go.Proofs.YteenhipldfdkaaaDoorW.PrintLast Go.Proofs.YteenhipldfdkaaaDoorW.PrintMore
attribute [local go_sem] max2_int min2_int max_two min_two max_three min_three max_four min_four   -- for this text's walks alone
set_option linter.unusedVariables false
set_option linter.unusedSimpArgs false

/-! ### spec_LtDrawn: function 11 -/
mutual
def spec_LtDrawn.l0 : Nat → List (S54) → ByteArray → Int → Int → Int → ByteArray → ByteArray → ByteArray → ByteArray → ByteArray → ByteArray → ByteArray → ByteArray → Option (ByteArray)
  | 0, _, _, _, _, _, _, _, _, _, _, _, _, _ => none
  | k + 1, x0, x5, x10, x11, x153000, x153001, x153002, x153003, x153004, x153005, x153006, x153007, x153008 => if x11 < x10 then ((spec_LtLines.f k x0 x11 x153000 x153001 x153002 x153003 x153004 x153005 x153006 x153007 x153008).bind fun t153 => (spec_LtDrawn.l1 k x0 x5 x11 x10 x11 t153 (t153.length : Int) 0 x153000 x153001 x153002 x153003 x153004 x153005 x153006 x153007 x153008)) else (some x5)
def spec_LtDrawn.l1 : Nat → List (S54) → ByteArray → Int → Int → Int → List ByteArray → Int → Int → Int → ByteArray → ByteArray → ByteArray → ByteArray → ByteArray → ByteArray → ByteArray → ByteArray → Option (ByteArray)
  | 0, _, _, _, _, _, _, _, _, _, _, _, _, _, _, _, _, _ => none
  | k + 1, x0, x5, x6, x10, x11, x17, x18, x19, x153000, x153001, x153002, x153003, x153004, x153005, x153006, x153007, x153008 => if x19 < x18 then (if 0 ≤ x19 then (if x19 < (x17.length : Int) then (if x6 > 0 then (if x5.size + 1 ≤ 9223372036854775807 then (if (x5 ++ (⟨#[10]⟩ : ByteArray)).size + (rdOf ByteArray.empty x17 x19).size ≤ 9223372036854775807 then (spec_LtDrawn.l1 k x0 ((x5 ++ (⟨#[10]⟩ : ByteArray)) ++ (rdOf ByteArray.empty x17 x19)) x6 x10 x11 x17 x18 (wrap64 (x19 + 1)) x153000 x153001 x153002 x153003 x153004 x153005 x153006 x153007 x153008) else (none)) else (none)) else (if x19 > 0 then (if x5.size + 1 ≤ 9223372036854775807 then (if (x5 ++ (⟨#[10]⟩ : ByteArray)).size + (rdOf ByteArray.empty x17 x19).size ≤ 9223372036854775807 then (spec_LtDrawn.l1 k x0 ((x5 ++ (⟨#[10]⟩ : ByteArray)) ++ (rdOf ByteArray.empty x17 x19)) x6 x10 x11 x17 x18 (wrap64 (x19 + 1)) x153000 x153001 x153002 x153003 x153004 x153005 x153006 x153007 x153008) else (none)) else (none)) else (if x5.size + (rdOf ByteArray.empty x17 x19).size ≤ 9223372036854775807 then (spec_LtDrawn.l1 k x0 (x5 ++ (rdOf ByteArray.empty x17 x19)) x6 x10 x11 x17 x18 (wrap64 (x19 + 1)) x153000 x153001 x153002 x153003 x153004 x153005 x153006 x153007 x153008) else (none)))) else (none)) else (none)) else (spec_LtDrawn.l0 k x0 x5 x10 (wrap64 (x11 + 1)) x153000 x153001 x153002 x153003 x153004 x153005 x153006 x153007 x153008)
end
def spec_LtDrawn.f (k : Nat) (l0 : List (S54)) (a1_0 : Int) (a1_1 : ByteArray) (a1_2 : ByteArray) (a1_3 : ByteArray) (a1_4 : ByteArray) (a1_5 : ByteArray) (a1_6 : ByteArray) (a1_7 : ByteArray) (a1_8 : ByteArray) : Option (ByteArray) := spec_LtDrawn.l0 k l0 (⟨#[]⟩ : ByteArray) (l0.length : Int) 0 a1_0 a1_1 a1_2 a1_3 a1_4 a1_5 a1_6 a1_7 a1_8
theorem spec_LtDrawn.mono_l : ∀ k, (∀ y0 y1 y2 y3 y4 y5 y6 y7 y8 y9 y10 y11 y12, LeO (spec_LtDrawn.l0 k y0 y1 y2 y3 y4 y5 y6 y7 y8 y9 y10 y11 y12) (spec_LtDrawn.l0 (k + 1) y0 y1 y2 y3 y4 y5 y6 y7 y8 y9 y10 y11 y12)) ∧ (∀ y0 y1 y2 y3 y4 y5 y6 y7 y8 y9 y10 y11 y12 y13 y14 y15 y16, LeO (spec_LtDrawn.l1 k y0 y1 y2 y3 y4 y5 y6 y7 y8 y9 y10 y11 y12 y13 y14 y15 y16) (spec_LtDrawn.l1 (k + 1) y0 y1 y2 y3 y4 y5 y6 y7 y8 y9 y10 y11 y12 y13 y14 y15 y16))
  | 0 => ⟨fun _ _ _ _ _ _ _ _ _ _ _ _ _ r h => by simp [spec_LtDrawn.l0] at h, fun _ _ _ _ _ _ _ _ _ _ _ _ _ _ _ _ _ r h => by simp [spec_LtDrawn.l1] at h⟩
  | k + 1 => by
    obtain ⟨ih0, ih1⟩ := spec_LtDrawn.mono_l k
    refine ⟨?_, ?_⟩
    · intro y0 y1 y2 y3 y4 y5 y6 y7 y8 y9 y10 y11 y12
      unfold spec_LtDrawn.l0
      repeat' first
      | (with_reducible exact ih0 _ _ _ _ _ _ _ _ _ _ _ _ _)
      | (with_reducible exact ih1 _ _ _ _ _ _ _ _ _ _ _ _ _ _ _ _ _)
      | (with_reducible exact spec_LtLines.mono _ _ _ _ _ _ _ _ _ _ _ _)
      | (with_reducible exact LeO.refl _)
      | (with_reducible exact LeO.none _)
      | (with_reducible refine LeO.ite ?_ ?_)
      | (with_reducible refine LeO.bind ?_ (fun _ => ?_))
      | exact ih0 _ _ _ _ _ _ _ _ _ _ _ _ _
      | exact ih1 _ _ _ _ _ _ _ _ _ _ _ _ _ _ _ _ _
      | exact spec_LtLines.mono _ _ _ _ _ _ _ _ _ _ _ _
      | exact LeO.none _
      | refine LeO.ite ?_ ?_
      | refine LeO.bind ?_ (fun _ => ?_)
    · intro y0 y1 y2 y3 y4 y5 y6 y7 y8 y9 y10 y11 y12 y13 y14 y15 y16
      unfold spec_LtDrawn.l1
      repeat' first
      | (with_reducible exact ih0 _ _ _ _ _ _ _ _ _ _ _ _ _)
      | (with_reducible exact ih1 _ _ _ _ _ _ _ _ _ _ _ _ _ _ _ _ _)
      | (with_reducible exact spec_LtLines.mono _ _ _ _ _ _ _ _ _ _ _ _)
      | (with_reducible exact LeO.refl _)
      | (with_reducible exact LeO.none _)
      | (with_reducible refine LeO.ite ?_ ?_)
      | (with_reducible refine LeO.bind ?_ (fun _ => ?_))
      | exact ih0 _ _ _ _ _ _ _ _ _ _ _ _ _
      | exact ih1 _ _ _ _ _ _ _ _ _ _ _ _ _ _ _ _ _
      | exact spec_LtLines.mono _ _ _ _ _ _ _ _ _ _ _ _
      | exact LeO.none _
      | refine LeO.ite ?_ ?_
      | refine LeO.bind ?_ (fun _ => ?_)
theorem spec_LtDrawn.mono : ∀ a0 a1 a2 a3 a4 a5 a6 a7 a8 a9 k, LeO (spec_LtDrawn.f k a0 a1 a2 a3 a4 a5 a6 a7 a8 a9) (spec_LtDrawn.f (k + 1) a0 a1 a2 a3 a4 a5 a6 a7 a8 a9) := by
  intro a0 a1 a2 a3 a4 a5 a6 a7 a8 a9 k
  obtain ⟨ih0, ih1⟩ := spec_LtDrawn.mono_l k
  unfold spec_LtDrawn.f
  repeat' first
      | (with_reducible exact ih0 _ _ _ _ _ _ _ _ _ _ _ _ _)
      | (with_reducible exact ih1 _ _ _ _ _ _ _ _ _ _ _ _ _ _ _ _ _)
      | (with_reducible exact spec_LtLines.mono _ _ _ _ _ _ _ _ _ _ _ _)
      | (with_reducible exact LeO.refl _)
      | (with_reducible exact LeO.none _)
      | (with_reducible refine LeO.ite ?_ ?_)
      | (with_reducible refine LeO.bind ?_ (fun _ => ?_))
      | exact ih0 _ _ _ _ _ _ _ _ _ _ _ _ _
      | exact ih1 _ _ _ _ _ _ _ _ _ _ _ _ _ _ _ _ _
      | exact spec_LtLines.mono _ _ _ _ _ _ _ _ _ _ _ _
      | exact LeO.none _
      | refine LeO.ite ?_ ?_
      | refine LeO.bind ?_ (fun _ => ?_)
set_option maxHeartbeats 8000000 in
set_option maxRecDepth 100000 in
theorem spec_LtDrawn.calls (k : Nat) (A0 : Option Addr) (c0 : Nat) (l0 : List (S54)) (a1_0 : Int) (a1_1 : ByteArray) (a1_2 : ByteArray) (a1_3 : ByteArray) (a1_4 : ByteArray) (a1_5 : ByteArray) (a1_6 : ByteArray) (a1_7 : ByteArray) (a1_8 : ByteArray) (r : ByteArray) (w : World) (hr0 : Kd.C k54 w A0 l0.length l0) (hc0 : l0.length ≤ c0) (h : spec_LtDrawn.f k l0 a1_0 a1_1 a1_2 a1_3 a1_4 a1_5 a1_6 a1_7 a1_8 = some r) :
    Calls Tryd.prog 11 #[.slice A0 l0.length c0, .agg #[.int .i64 a1_0, .string a1_1, .string a1_2, .string a1_3, .string a1_4, .string a1_5, .string a1_6, .string a1_7, .string a1_8]] w fun e w' => e = .returned (.string r) ∧ Below w.heap.size w w' := by
  have hu29 := Tryd.underlying29
  have HR0 := Aside0.mk hr0
  have HC0 := Aside0.mk hc0
  clear hr0 hc0
  have HB := Aside0.mk (Below.refl w.heap.size w)
  have H : (spec_LtDrawn.l0 k l0 (⟨#[]⟩ : ByteArray) (l0.length : Int) 0 a1_0 a1_1 a1_2 a1_3 a1_4 a1_5 a1_6 a1_7 a1_8) = some r := h
  clear h
  have H' := Aside0.mk H
  clear H
  go_enter Tryd.func11, Tryd.ntmps11
  go_wp2_with (first | ((with_reducible refine gate_dst (N := 3) rfl ?_); refine box_event ?hg (N := 3) ?hd (cs := #[.int .i64 a1_0, .string a1_1, .string a1_2, .string a1_3, .string a1_4, .string a1_5, .string a1_6, .string a1_7, .string a1_8]) (t := 29) ?hr ?_; (case hd => rfl); (case hg => rfl); (case hr => first | (go_simp; done) | (go_simp; rfl)); intro gb152 hg w3 hbox hb; have n0_ := Aside0.mk (below_step (by repeat (first | (with_reducible first | exact HB.out | apply below_alloc | apply pw_below_drewN | apply below_drew1) | exact HB.out)) hb); have n1_ := Aside0.mk (hbox); have n2_ := Aside0.mk ((by rw [hg]; exact (below_size (by repeat (first | (with_reducible first | exact HB.out | apply below_alloc | apply pw_below_drewN | apply below_drew1) | exact HB.out))) : w.heap.size ≤ gb152)); have n3_ := Aside0.mk ((by rw [hg]; exact (below_size (by repeat (first | (with_reducible first | exact HB.out | apply below_alloc | apply pw_below_drewN | apply below_drew1) | exact HB.out))) : w.heap.size ≤ gb152)); clear HB; have HB := n0_; have BK152 := n1_; have GW152 := n2_; have GE152 := n3_; clear n0_ n1_ n2_ n3_; clear hb hbox hg))
  go_loopg [5, 11] k (fun kq v5 v11 w' => ∃ (x5_1 : ByteArray) (x11_1 : Int), v5 = .string x5_1 ∧ v11 = .int .i64 x11_1 ∧ Aside0 (spec_LtDrawn.l0 kq l0 x5_1 (l0.length : Int) x11_1 a1_0 a1_1 a1_2 a1_3 a1_4 a1_5 a1_6 a1_7 a1_8 = some r) ∧ Aside0 (kq ≤ k) ∧ Aside0 (w'.heap[gb152]? = some (.cells #[.int .i64 a1_0, .string a1_1, .string a1_2, .string a1_3, .string a1_4, .string a1_5, .string a1_6, .string a1_7, .string a1_8] 29 (0, 0))) ∧ Aside0 (Below w.heap.size w w'))
  case atStart => exact ⟨((⟨#[]⟩ : ByteArray)), (0), (by first | rfl | (simp; done) | (simp [*]; done)), (by first | rfl | (simp; done) | (simp [*]; done)), H', ⟨Nat.le_refl _⟩, ⟨by (with_reducible repeat (first | refine blk_drewN ?_ _ | refine blk_drew ?_ | refine blk_alloc ?_ _)); exact BK152.out⟩, ⟨by repeat (first | (with_reducible first | exact HB.out | apply below_alloc | apply pw_below_drewN | apply below_drew1 | refine below_set ?_ GE152.out) | exact HB.out)⟩⟩
  case round =>
    clear H'
    try clear c1
    try clear p2
    obtain ⟨x5_1, x11_1, rfl, rfl, HA, HK1, BK152, HB⟩ := hrel
    cases gk with
    | zero => exact absurd HA.out (by simp [spec_LtDrawn.l0])
    | succ k1 =>
      have H := HA.out
      clear HA
      simp only [spec_LtDrawn.l0] at H
      by_cases c4 : x11_1 < (l0.length : Int)
      · rw [if_pos c4] at H
        have c4b0 : decide (x11_1 < (l0.length : Int)) = true := decide_eq_true c4
        clear c4
        replace H := Option.bind_eq_some_iff.mp H
        obtain ⟨t153, A50, H⟩ := H
        replace H : (spec_LtDrawn.l1 k1 l0 x5_1 x11_1 (l0.length : Int) x11_1 t153 (t153.length : Int) 0 a1_0 a1_1 a1_2 a1_3 a1_4 a1_5 a1_6 a1_7 a1_8) = some r := H
        have A5 := Aside0.mk A50
        clear A50
        have H' := Aside0.mk H
        clear H
        have hcz6_0 : wr.cell? ⟨gb152, 0, none⟩ = some (.int .i64 a1_0) := (blk_cell BK152.out 0).trans rfl
        have hcz6_1 : wr.cell? ⟨gb152, 1, none⟩ = some (.string a1_1) := (blk_cell BK152.out 1).trans rfl
        have hcz6_2 : wr.cell? ⟨gb152, 2, none⟩ = some (.string a1_2) := (blk_cell BK152.out 2).trans rfl
        have hcz6_3 : wr.cell? ⟨gb152, 3, none⟩ = some (.string a1_3) := (blk_cell BK152.out 3).trans rfl
        have hcz6_4 : wr.cell? ⟨gb152, 4, none⟩ = some (.string a1_4) := (blk_cell BK152.out 4).trans rfl
        have hcz6_5 : wr.cell? ⟨gb152, 5, none⟩ = some (.string a1_5) := (blk_cell BK152.out 5).trans rfl
        have hcz6_6 : wr.cell? ⟨gb152, 6, none⟩ = some (.string a1_6) := (blk_cell BK152.out 6).trans rfl
        have hcz6_7 : wr.cell? ⟨gb152, 7, none⟩ = some (.string a1_7) := (blk_cell BK152.out 7).trans rfl
        have hcz6_8 : wr.cell? ⟨gb152, 8, none⟩ = some (.string a1_8) := (blk_cell BK152.out 8).trans rfl
        have hfz6_0 := blk_frozen BK152.out 0
        have hfz6_1 := blk_frozen BK152.out 1
        have hfz6_2 := blk_frozen BK152.out 2
        have hfz6_3 := blk_frozen BK152.out 3
        have hfz6_4 := blk_frozen BK152.out 4
        have hfz6_5 := blk_frozen BK152.out 5
        have hfz6_6 := blk_frozen BK152.out 6
        have hfz6_7 := blk_frozen BK152.out 7
        have hfz6_8 := blk_frozen BK152.out 8
        go_wp2_with (first | ((with_reducible refine gate_callee (f := 30) rfl ?_); refine goesL_ (some 17) rfl rfl Tryd.func30 (by kernel_rfl) rfl #[.slice A0 l0.length c0, .int .i64 x11_1, .agg #[.int .i64 a1_0, .string a1_1, .string a1_2, .string a1_3, .string a1_4, .string a1_5, .string a1_6, .string a1_7, .string a1_8]] rfl (by (try simp only [List.map_toArray, List.map_cons, List.map_nil]); first | done | rfl | (simp only [List.length_drop, List.length_take]; rfl)) ?_; (with_reducible refine (spec_LtLines.calls k1 (fun k_ => k_ < w.heap.size) _ _ l0 x11_1 a1_0 a1_1 a1_2 a1_3 a1_4 a1_5 a1_6 a1_7 a1_8 t153 _ ?side1 A5.out).mono ?_); (case side1 => exact Kd.V_mk HC0.out (Kd.F_below (Kd.C_F k54_heap HR0.out) (by repeat (first | (with_reducible first | exact HB.out | apply below_alloc | apply pw_below_drewN | apply below_drew1 | refine below_set ?_ GE152.out) | exact HB.out)))); rintro e w7 ⟨v154, rfl, ho0, hb⟩; refine ⟨_, rfl, ?_⟩; have n0_ := Aside0.mk (Kd.R_lower (Kd.R_mono (ok' := fun k_ => True) ho0 (fun _ hk_ => trivial)) (below_size (by repeat (first | (with_reducible first | exact HB.out | apply below_alloc | apply pw_below_drewN | apply below_drew1 | refine below_set ?_ GE152.out) | exact HB.out)))); have n1_ := Aside0.mk (blk_below (g := gb152) (o := .cells #[.int .i64 a1_0, .string a1_1, .string a1_2, .string a1_3, .string a1_4, .string a1_5, .string a1_6, .string a1_7, .string a1_8] 29 (0, 0)) (by (with_reducible repeat (first | refine blk_drewN ?_ _ | refine blk_drew ?_ | refine blk_alloc ?_ _)); exact BK152.out) hb); have n2_ := Aside0.mk (below_step (by repeat (first | (with_reducible first | exact HB.out | apply below_alloc | apply pw_below_drewN | apply below_drew1 | refine below_set ?_ GE152.out) | exact HB.out)) hb); clear BK152; clear HB; have HO155 := n0_; have BK152 := n1_; have HB := n2_; clear n0_ n1_ n2_; (try clear hb); (try clear hb2); (try clear hk); (try clear hi); (try clear ho0); obtain ⟨Ao8, co8, eo8⟩ := Kd.R_slice HO155.out; subst eo8))
        go_loopg [5, 19] k1 (fun kq v5 v19 w' => ∃ (x5_2 : ByteArray) (x19_2 : Int), v5 = .string x5_2 ∧ v19 = .int .i64 x19_2 ∧ Aside0 (spec_LtDrawn.l1 kq l0 x5_2 x11_1 (l0.length : Int) x11_1 t153 (t153.length : Int) x19_2 a1_0 a1_1 a1_2 a1_3 a1_4 a1_5 a1_6 a1_7 a1_8 = some r) ∧ Aside0 (kq ≤ k1) ∧ Aside0 (Kd.R Kd.string 9 w' w.heap.size (fun _ => True) (.slice Ao8 t153.length co8) t153) ∧ Aside0 (w'.heap[gb152]? = some (.cells #[.int .i64 a1_0, .string a1_1, .string a1_2, .string a1_3, .string a1_4, .string a1_5, .string a1_6, .string a1_7, .string a1_8] 29 (0, 0))) ∧ Aside0 (Below w.heap.size w w'))
        case atStart => exact ⟨(x5_1), (0), (by first | rfl | (simp; done) | (simp [*]; done)), (by first | rfl | (simp; done) | (simp [*]; done)), H', ⟨Nat.le_refl _⟩, ⟨by (with_reducible repeat (first | apply Kd.R_alloc | apply Kd.R_drewN | apply Kd.R_drew)); exact HO155.out⟩, ⟨by (with_reducible repeat (first | refine blk_drewN ?_ _ | refine blk_drew ?_ | refine blk_alloc ?_ _)); exact BK152.out⟩, ⟨by repeat (first | (with_reducible first | exact HB.out | apply below_alloc | apply pw_below_drewN | apply below_drew1 | refine below_set ?_ GE152.out) | exact HB.out)⟩⟩
        case round =>
          clear H'
          try clear c1
          try clear p2
          try clear c3
          try clear c4
          try clear c4b0
          try clear hcz6_0
          try clear hcz6_1
          try clear hcz6_2
          try clear hcz6_3
          try clear hcz6_4
          try clear hcz6_5
          try clear hcz6_6
          try clear hcz6_7
          try clear hcz6_8
          try clear hfz6_0
          try clear hfz6_1
          try clear hfz6_2
          try clear hfz6_3
          try clear hfz6_4
          try clear hfz6_5
          try clear hfz6_6
          try clear hfz6_7
          try clear hfz6_8
          try clear p2
          obtain ⟨x5_2, x19_2, rfl, rfl, HA, HK2, HO_17, BK152, HB⟩ := hrel
          cases gk with
          | zero => exact absurd HA.out (by simp [spec_LtDrawn.l1])
          | succ k2 =>
            have H := HA.out
            clear HA
            simp only [spec_LtDrawn.l1] at H
            by_cases c9 : x19_2 < (t153.length : Int)
            · rw [if_pos c9] at H
              have c9b0 : decide (x19_2 < (t153.length : Int)) = true := decide_eq_true c9
              clear c9
              by_cases c10 : 0 ≤ x19_2
              · rw [if_pos c10] at H
                have c10b0 : decide (0 ≤ x19_2) = true := decide_eq_true c10
                clear c10
                by_cases c11 : x19_2 < (t153.length : Int)
                · rw [if_pos c11] at H
                  have c11b0 : decide (x19_2 < (t153.length : Int)) = true := decide_eq_true c11
                  clear c11
                  by_cases c12 : x11_1 > 0
                  · rw [if_pos c12] at H
                    have c12b0 : decide (0 < x11_1) = true := decide_eq_true c12
                    clear c12
                    by_cases c13 : x5_2.size + 1 ≤ 9223372036854775807
                    · rw [if_pos c13] at H
                      have c13b0 := eq_true c13
                      have c13b1 : decide (x5_2.size + 1 ≤ 9223372036854775807) = true := decide_eq_true c13
                      try have c13b2 : (9223372036854775807 < x5_2.size + 1) = False := eq_false (Nat.not_lt.2 c13)
                      by_cases c14 : (x5_2 ++ (⟨#[10]⟩ : ByteArray)).size + (rdOf ByteArray.empty t153 x19_2).size ≤ 9223372036854775807
                      · rw [if_pos c14] at H
                        have c14b0 := eq_true c14
                        have c14b1 : decide ((x5_2 ++ (⟨#[10]⟩ : ByteArray)).size + (rdOf ByteArray.empty t153 x19_2).size ≤ 9223372036854775807) = true := decide_eq_true c14
                        try have c14b2 : (9223372036854775807 < (x5_2 ++ (⟨#[10]⟩ : ByteArray)).size + (rdOf ByteArray.empty t153 x19_2).size) = False := eq_false (Nat.not_lt.2 c14)
                        try have c14b3 : (9223372036854775807 < x5_2.size + 1 + (rdOf ByteArray.empty t153 x19_2).size) = False := eq_false (by have h_ := c14; simp only [ByteArray.size_append', ByteArray.size_mk', ByteArray.size_extract, List.size_toArray, List.length_cons, List.length_nil] at h_; omega)
                        have H' := Aside0.mk H
                        clear H
                        have p156 : 0 ≤ (x19_2 : Int) := of_decide_eq_true (by first | (with_reducible assumption) | assumption)
                        have q156 : x19_2 < (t153.length : Int) := of_decide_eq_true (by first | (with_reducible assumption) | assumption)
                        obtain ⟨ad156, e156, hx156_0⟩ := Kd.at_string (Kd.R_reads' HO_17.out).2.2 x19_2 p156 q156
                        cases e156
                        replace p156 := eq_true p156
                        replace q156 := eq_true q156
                        go_wp2
                        go_roundg k2
                        case measure => have := HK1.out; have := HK2.out; omega
                        case rel => exact ⟨((x5_2 ++ (⟨#[10]⟩ : ByteArray)) ++ (rdOf ByteArray.empty t153 x19_2)), (wrap64 (x19_2 + 1)), (by first | rfl | (simp; done) | (simp [*]; done)), (by first | rfl | (simp; done) | (simp [*]; done)), H', ⟨by have := HK1.out; have := HK2.out; omega⟩, ⟨by (with_reducible repeat (first | apply Kd.R_alloc | apply Kd.R_drewN | apply Kd.R_drew)); exact HO_17.out⟩, ⟨by (with_reducible repeat (first | refine blk_drewN ?_ _ | refine blk_drew ?_ | refine blk_alloc ?_ _)); exact BK152.out⟩, ⟨by repeat (first | (with_reducible first | exact HB.out | apply below_alloc | apply pw_below_drewN | apply below_drew1 | refine below_set ?_ GE152.out) | exact HB.out)⟩⟩
                      · rw [if_neg c14] at H
                        exact absurd H (by simp)
                    · rw [if_neg c13] at H
                      exact absurd H (by simp)
                  · rw [if_neg c12] at H
                    have c12b0 : decide (0 < x11_1) = false := decide_eq_false c12
                    clear c12
                    by_cases c15 : x19_2 > 0
                    · rw [if_pos c15] at H
                      have c15b0 : decide (0 < x19_2) = true := decide_eq_true c15
                      clear c15
                      by_cases c16 : x5_2.size + 1 ≤ 9223372036854775807
                      · rw [if_pos c16] at H
                        have c16b0 := eq_true c16
                        have c16b1 : decide (x5_2.size + 1 ≤ 9223372036854775807) = true := decide_eq_true c16
                        try have c16b2 : (9223372036854775807 < x5_2.size + 1) = False := eq_false (Nat.not_lt.2 c16)
                        by_cases c17 : (x5_2 ++ (⟨#[10]⟩ : ByteArray)).size + (rdOf ByteArray.empty t153 x19_2).size ≤ 9223372036854775807
                        · rw [if_pos c17] at H
                          have c17b0 := eq_true c17
                          have c17b1 : decide ((x5_2 ++ (⟨#[10]⟩ : ByteArray)).size + (rdOf ByteArray.empty t153 x19_2).size ≤ 9223372036854775807) = true := decide_eq_true c17
                          try have c17b2 : (9223372036854775807 < (x5_2 ++ (⟨#[10]⟩ : ByteArray)).size + (rdOf ByteArray.empty t153 x19_2).size) = False := eq_false (Nat.not_lt.2 c17)
                          try have c17b3 : (9223372036854775807 < x5_2.size + 1 + (rdOf ByteArray.empty t153 x19_2).size) = False := eq_false (by have h_ := c17; simp only [ByteArray.size_append', ByteArray.size_mk', ByteArray.size_extract, List.size_toArray, List.length_cons, List.length_nil] at h_; omega)
                          have H' := Aside0.mk H
                          clear H
                          have p156 : 0 ≤ (x19_2 : Int) := of_decide_eq_true (by first | (with_reducible assumption) | assumption)
                          have q156 : x19_2 < (t153.length : Int) := of_decide_eq_true (by first | (with_reducible assumption) | assumption)
                          obtain ⟨ad156, e156, hx156_0⟩ := Kd.at_string (Kd.R_reads' HO_17.out).2.2 x19_2 p156 q156
                          cases e156
                          replace p156 := eq_true p156
                          replace q156 := eq_true q156
                          go_wp2
                          go_roundg k2
                          case measure => have := HK1.out; have := HK2.out; omega
                          case rel => exact ⟨((x5_2 ++ (⟨#[10]⟩ : ByteArray)) ++ (rdOf ByteArray.empty t153 x19_2)), (wrap64 (x19_2 + 1)), (by first | rfl | (simp; done) | (simp [*]; done)), (by first | rfl | (simp; done) | (simp [*]; done)), H', ⟨by have := HK1.out; have := HK2.out; omega⟩, ⟨by (with_reducible repeat (first | apply Kd.R_alloc | apply Kd.R_drewN | apply Kd.R_drew)); exact HO_17.out⟩, ⟨by (with_reducible repeat (first | refine blk_drewN ?_ _ | refine blk_drew ?_ | refine blk_alloc ?_ _)); exact BK152.out⟩, ⟨by repeat (first | (with_reducible first | exact HB.out | apply below_alloc | apply pw_below_drewN | apply below_drew1 | refine below_set ?_ GE152.out) | exact HB.out)⟩⟩
                        · rw [if_neg c17] at H
                          exact absurd H (by simp)
                      · rw [if_neg c16] at H
                        exact absurd H (by simp)
                    · rw [if_neg c15] at H
                      have c15b0 : decide (0 < x19_2) = false := decide_eq_false c15
                      clear c15
                      by_cases c18 : x5_2.size + (rdOf ByteArray.empty t153 x19_2).size ≤ 9223372036854775807
                      · rw [if_pos c18] at H
                        have c18b0 := eq_true c18
                        have c18b1 : decide (x5_2.size + (rdOf ByteArray.empty t153 x19_2).size ≤ 9223372036854775807) = true := decide_eq_true c18
                        try have c18b2 : (9223372036854775807 < x5_2.size + (rdOf ByteArray.empty t153 x19_2).size) = False := eq_false (Nat.not_lt.2 c18)
                        have H' := Aside0.mk H
                        clear H
                        have p156 : 0 ≤ (x19_2 : Int) := of_decide_eq_true (by first | (with_reducible assumption) | assumption)
                        have q156 : x19_2 < (t153.length : Int) := of_decide_eq_true (by first | (with_reducible assumption) | assumption)
                        obtain ⟨ad156, e156, hx156_0⟩ := Kd.at_string (Kd.R_reads' HO_17.out).2.2 x19_2 p156 q156
                        cases e156
                        replace p156 := eq_true p156
                        replace q156 := eq_true q156
                        go_wp2
                        go_roundg k2
                        case measure => have := HK1.out; have := HK2.out; omega
                        case rel => exact ⟨(x5_2 ++ (rdOf ByteArray.empty t153 x19_2)), (wrap64 (x19_2 + 1)), (by first | rfl | (simp; done) | (simp [*]; done)), (by first | rfl | (simp; done) | (simp [*]; done)), H', ⟨by have := HK1.out; have := HK2.out; omega⟩, ⟨by (with_reducible repeat (first | apply Kd.R_alloc | apply Kd.R_drewN | apply Kd.R_drew)); exact HO_17.out⟩, ⟨by (with_reducible repeat (first | refine blk_drewN ?_ _ | refine blk_drew ?_ | refine blk_alloc ?_ _)); exact BK152.out⟩, ⟨by repeat (first | (with_reducible first | exact HB.out | apply below_alloc | apply pw_below_drewN | apply below_drew1 | refine below_set ?_ GE152.out) | exact HB.out)⟩⟩
                      · rw [if_neg c18] at H
                        exact absurd H (by simp)
                · rw [if_neg c11] at H
                  exact absurd H (by simp)
              · rw [if_neg c10] at H
                exact absurd H (by simp)
            · rw [if_neg c9] at H
              have c9b0 : decide (x19_2 < (t153.length : Int)) = false := decide_eq_false c9
              clear c9
              have H' := Aside0.mk H
              clear H
              go_wp2
              go_roundg k2
              case measure => have := HK1.out; have := HK2.out; omega
              case rel => exact ⟨(x5_2), (wrap64 (x11_1 + 1)), (by first | rfl | (simp; done) | (simp [*]; done)), (by first | rfl | (simp; done) | (simp [*]; done)), H', ⟨by have := HK1.out; have := HK2.out; omega⟩, ⟨by (with_reducible repeat (first | refine blk_drewN ?_ _ | refine blk_drew ?_ | refine blk_alloc ?_ _)); exact BK152.out⟩, ⟨by repeat (first | (with_reducible first | exact HB.out | apply below_alloc | apply pw_below_drewN | apply below_drew1 | refine below_set ?_ GE152.out) | exact HB.out)⟩⟩
      · rw [if_neg c4] at H
        have c4b0 : decide (x11_1 < (l0.length : Int)) = false := decide_eq_false c4
        clear c4
        obtain rfl := Option.some.inj H
        go_wp2
        go_ret
        exact ⟨by first | rfl | (simp [errW_none, errW_some] <;> rfl) | (have e_ : ∀ l_ : List UInt8, (l_ != []) = !l_.isEmpty := fun l_ => (by cases l_ <;> rfl); simp [errW_none, errW_some, e_]; done) | (simp [*, errW_none, errW_some] <;> rfl), by repeat (first | (with_reducible first | exact HB.out | apply below_alloc | apply pw_below_drewN | apply below_drew1 | refine below_set ?_ GE152.out) | exact HB.out)⟩

/-! ### spec_LtPlayed: function 12 -/
mutual
def spec_LtPlayed.l0 : Nat → List (S54) → Int → List (S33) → Int → Int → Option ((List (S54)))
  | 0, _, _, _, _, _ => none
  | k + 1, x3, x4, x9, x10, x11 => if x11 < x10 then (if 0 ≤ x11 then (if x11 < (x9.length : Int) then (if ((rd_T33 x9 x11).f0) = 0 then (if x3.length < 5864062014805 then (spec_LtPlayed.l0 k (x3 ++ [(⟨(rd_T33 x9 x11).f1, x4⟩ : S54)]) x4 x9 x10 (wrap64 (x11 + 1))) else (none)) else (if ((rd_T33 x9 x11).f0) = 1 then (spec_LtPlayed.l1 k x3 x4 x9 x10 x11 ((rd_T33 x9 x11).f2) (((rd_T33 x9 x11).f2).length : Int) 0) else (if ((rd_T33 x9 x11).f0) = 2 then (if (x3.length : Int) > 0 then (if 0 ≤ (wrap64 ((x3.length : Int) - 1)) then (if (wrap64 ((x3.length : Int) - 1)) < (x3.length : Int) then (if x4 ≤ ((rd_T54 x3 (wrap64 ((x3.length : Int) - 1))).f1) then (spec_LtPlayed.l0 k x3 (wrap64 (x4 + 1)) x9 x10 (wrap64 (x11 + 1))) else (spec_LtPlayed.l0 k x3 x4 x9 x10 (wrap64 (x11 + 1)))) else (none)) else (none)) else (spec_LtPlayed.l0 k x3 x4 x9 x10 (wrap64 (x11 + 1)))) else (if ((rd_T33 x9 x11).f0) = 3 then (spec_LtPlayed.l0 k x3 (mx (wrap64 (x4 - 1)) 0) x9 x10 (wrap64 (x11 + 1))) else (if ((rd_T33 x9 x11).f0) = 4 then (spec_LtPlayed.l0 k x3 0 x9 x10 (wrap64 (x11 + 1))) else (if ((rd_T33 x9 x11).f0) = 5 then (spec_LtPlayed.l0 k ([] : List (S54)) 0 x9 x10 (wrap64 (x11 + 1))) else (spec_LtPlayed.l0 k x3 x4 x9 x10 (wrap64 (x11 + 1))))))))) else (none)) else (none)) else (some x3)
def spec_LtPlayed.l1 : Nat → List (S54) → Int → List (S33) → Int → Int → List ByteArray → Int → Int → Option ((List (S54)))
  | 0, _, _, _, _, _, _, _, _ => none
  | k + 1, x3, x4, x9, x10, x11, x29, x30, x31 => if x31 < x30 then (if 0 ≤ x31 then (if x31 < (x29.length : Int) then (if x3.length < 5864062014805 then (spec_LtPlayed.l1 k (x3 ++ [(⟨rdOf ByteArray.empty x29 x31, x4⟩ : S54)]) x4 x9 x10 x11 x29 x30 (wrap64 (x31 + 1))) else (none)) else (none)) else (none)) else (spec_LtPlayed.l0 k x3 x4 x9 x10 (wrap64 (x11 + 1)))
end
def spec_LtPlayed.f (k : Nat) (l0 : List (S33)) : Option ((List (S54))) := spec_LtPlayed.l0 k ([] : List (S54)) 0 l0 (l0.length : Int) 0
theorem spec_LtPlayed.mono_l : ∀ k, (∀ y0 y1 y2 y3 y4, LeO (spec_LtPlayed.l0 k y0 y1 y2 y3 y4) (spec_LtPlayed.l0 (k + 1) y0 y1 y2 y3 y4)) ∧ (∀ y0 y1 y2 y3 y4 y5 y6 y7, LeO (spec_LtPlayed.l1 k y0 y1 y2 y3 y4 y5 y6 y7) (spec_LtPlayed.l1 (k + 1) y0 y1 y2 y3 y4 y5 y6 y7))
  | 0 => ⟨fun _ _ _ _ _ r h => by simp [spec_LtPlayed.l0] at h, fun _ _ _ _ _ _ _ _ r h => by simp [spec_LtPlayed.l1] at h⟩
  | k + 1 => by
    obtain ⟨ih0, ih1⟩ := spec_LtPlayed.mono_l k
    refine ⟨?_, ?_⟩
    · intro y0 y1 y2 y3 y4
      unfold spec_LtPlayed.l0
      repeat' first
      | (with_reducible exact ih0 _ _ _ _ _)
      | (with_reducible exact ih1 _ _ _ _ _ _ _ _)
      | (with_reducible exact LeO.refl _)
      | (with_reducible exact LeO.none _)
      | (with_reducible refine LeO.ite ?_ ?_)
      | (with_reducible refine LeO.bind ?_ (fun _ => ?_))
      | exact ih0 _ _ _ _ _
      | exact ih1 _ _ _ _ _ _ _ _
      | exact LeO.none _
      | refine LeO.ite ?_ ?_
      | refine LeO.bind ?_ (fun _ => ?_)
    · intro y0 y1 y2 y3 y4 y5 y6 y7
      unfold spec_LtPlayed.l1
      repeat' first
      | (with_reducible exact ih0 _ _ _ _ _)
      | (with_reducible exact ih1 _ _ _ _ _ _ _ _)
      | (with_reducible exact LeO.refl _)
      | (with_reducible exact LeO.none _)
      | (with_reducible refine LeO.ite ?_ ?_)
      | (with_reducible refine LeO.bind ?_ (fun _ => ?_))
      | exact ih0 _ _ _ _ _
      | exact ih1 _ _ _ _ _ _ _ _
      | exact LeO.none _
      | refine LeO.ite ?_ ?_
      | refine LeO.bind ?_ (fun _ => ?_)
theorem spec_LtPlayed.mono : ∀ a0 k, LeO (spec_LtPlayed.f k a0) (spec_LtPlayed.f (k + 1) a0) := by
  intro a0 k
  obtain ⟨ih0, ih1⟩ := spec_LtPlayed.mono_l k
  unfold spec_LtPlayed.f
  repeat' first
      | (with_reducible exact ih0 _ _ _ _ _)
      | (with_reducible exact ih1 _ _ _ _ _ _ _ _)
      | (with_reducible exact LeO.refl _)
      | (with_reducible exact LeO.none _)
      | (with_reducible refine LeO.ite ?_ ?_)
      | (with_reducible refine LeO.bind ?_ (fun _ => ?_))
      | exact ih0 _ _ _ _ _
      | exact ih1 _ _ _ _ _ _ _ _
      | exact LeO.none _
      | refine LeO.ite ?_ ?_
      | refine LeO.bind ?_ (fun _ => ?_)
set_option maxHeartbeats 8000000 in
set_option maxRecDepth 100000 in
theorem spec_LtPlayed.calls (k : Nat) (A0 : Option Addr) (c0 : Nat) (l0 : List (S33)) (r : List (S54)) (w : World) (hr0 : Kd.C k33 w A0 l0.length l0) (hc0 : l0.length ≤ c0) (h : spec_LtPlayed.f k l0 = some r) :
    Calls Tryd.prog 12 #[.slice A0 l0.length c0] w fun e w' => ∃ v0_ : Value, e = .returned (v0_) ∧ Kd.R k54 54 w' w.heap.size (fun _ => True) v0_ r ∧ Below w.heap.size w w' := by
  have hu33 := Tryd.underlying33
  have hu54 := Tryd.underlying54
  have HR0 := Aside0.mk hr0
  have HC0 := Aside0.mk hc0
  clear hr0 hc0
  have HB := Aside0.mk (Below.refl w.heap.size w)
  have H : (spec_LtPlayed.l0 k ([] : List (S54)) 0 l0 (l0.length : Int) 0) = some r := h
  clear h
  have H' := Aside0.mk H
  clear H
  go_enter Tryd.func12, Tryd.ntmps12
  go_wp2
  go_loopg [3, 4, 11] k (fun kq v3 v4 v11 w' => ∃ (x3_1 : List (S54)) (x4_1 : Int) (x11_1 : Int), v4 = .int .i64 x4_1 ∧ v11 = .int .i64 x11_1 ∧ Aside0 (spec_LtPlayed.l0 kq x3_1 x4_1 l0 (l0.length : Int) x11_1 = some r) ∧ Aside0 (kq ≤ k) ∧ Aside0 (Kd.R k54 54 w' w.heap.size (fun _ => True) v3 x3_1) ∧ Aside0 (Below w.heap.size w w'))
  case atStart => exact ⟨(([] : List (S54))), (0), (0), (by first | rfl | (simp; done) | (simp [*]; done)), (by first | rfl | (simp; done) | (simp [*]; done)), H', ⟨Nat.le_refl _⟩, ⟨by first | exact Kd.R_nil _ _ _ _ _ | exact Kd.N_nil _ _ _ _ _ | exact Kd.V_nil _ _ _ _ _ | exact Kd.Q_nil _ _ _ _ _ | exact Kd.S_nil _ _ _ _ _⟩, ⟨by repeat (first | (with_reducible first | exact HB.out | apply below_alloc | apply pw_below_drewN | apply below_drew1) | exact HB.out)⟩⟩
  case round =>
    clear H'
    try clear c1
    obtain ⟨x3_1, x4_1, x11_1, rfl, rfl, HA, HK1, HO_3, HB⟩ := hrel
    cases gk with
    | zero => exact absurd HA.out (by simp [spec_LtPlayed.l0])
    | succ k1 =>
      have H := HA.out
      clear HA
      simp only [spec_LtPlayed.l0] at H
      by_cases c2 : x11_1 < (l0.length : Int)
      · rw [if_pos c2] at H
        have c2b0 : decide (x11_1 < (l0.length : Int)) = true := decide_eq_true c2
        clear c2
        by_cases c3 : 0 ≤ x11_1
        · rw [if_pos c3] at H
          have c3b0 : decide (0 ≤ x11_1) = true := decide_eq_true c3
          clear c3
          by_cases c4 : x11_1 < (l0.length : Int)
          · rw [if_pos c4] at H
            have c4b0 : decide (x11_1 < (l0.length : Int)) = true := decide_eq_true c4
            clear c4
            by_cases c5 : ((rd_T33 l0 x11_1).f0) = 0
            · rw [if_pos c5] at H
              have c5b0 : (((rd_T33 l0 x11_1).f0) == 0) = true := beq_iff_eq.mpr c5
              have c5b1 : (((rd_T33 l0 x11_1).f0) != 0) = false := bne_eq_false_iff_eq.mpr c5
              clear c5
              by_cases c6 : x3_1.length < 5864062014805
              · rw [if_pos c6] at H
                have LMc6 := Aside0.mk c6
                clear c6
                obtain ⟨y159, hy159⟩ : ∃ y_ : List (S54), y_ = (x3_1 ++ [(⟨(rd_T33 l0 x11_1).f1, x4_1⟩ : S54)]) := ⟨_, rfl⟩
                replace H : (spec_LtPlayed.l0 k1 y159 x4_1 l0 (l0.length : Int) (wrap64 (x11_1 + 1))) = some r := by first | (rw [hy159]; with_reducible exact H) | (have H2_ := (Option.bind_some _ _).symm.trans H; rw [hy159]; with_reducible exact H2_) | (have H2_ := (Option.bind_some _ _).symm.trans H; with_reducible exact H2_) | with_reducible exact H | (rw [hy159]; exact H) | exact H
                have Ny159 := Aside0.mk hy159
                clear hy159
                have H' := Aside0.mk H
                clear H
                have p157 : 0 ≤ (x11_1 : Int) := of_decide_eq_true (by first | (with_reducible assumption) | assumption)
                have q157 : x11_1 < (l0.length : Int) := of_decide_eq_true (by first | (with_reducible assumption) | assumption)
                obtain ⟨ad157, A157_2, c157_2, e157, hx157_0, hx157_1, hx157_2, hl157_2, hi157_2⟩ := at_T33 HR0.out x11_1 p157 q157
                cases e157
                replace hx157_0 := (HB.out.cell (World.block_lt_of_cell? w _ hx157_0)).trans hx157_0
                replace hx157_1 := (HB.out.cell (World.block_lt_of_cell? w _ hx157_1)).trans hx157_1
                replace hx157_2 := (HB.out.cell (World.block_lt_of_cell? w _ hx157_2)).trans hx157_2
                have HR157_2 := Aside0.mk hi157_2
                have HC157_2 := Aside0.mk hl157_2
                clear hi157_2 hl157_2
                replace p157 := eq_true p157
                replace q157 := eq_true q157
                go_wp2_with (first | ((with_reducible refine gate_dst (N := 6) rfl ?_); (try (refine gate_guard (by rfl) ?_; dsimp only)); refine box_event ?hg (N := 6) ?hd (cs := #[.int .i64 0, .string (⟨#[]⟩ : ByteArray), .slice none 0 0]) (t := 33) ?hr ?_; (case hd => rfl); (case hg => rfl); (case hr => first | (go_simp; done) | (go_simp; rfl)); intro gb158 hg w7 hbox hb; have n0_ := Aside0.mk (Kd.R_below (by (with_reducible repeat (first | apply Kd.R_alloc | apply Kd.R_drewN | apply Kd.R_drew)); exact HO_3.out) hb); have n1_ := Aside0.mk (below_step (by repeat (first | (with_reducible first | exact HB.out | apply below_alloc | apply pw_below_drewN | apply below_drew1) | exact HB.out)) hb); have n2_ := Aside0.mk (hbox); have n3_ := Aside0.mk ((by rw [hg]; exact (below_size (by repeat (first | (with_reducible first | exact HB.out | apply below_alloc | apply pw_below_drewN | apply below_drew1) | exact HB.out))) : w.heap.size ≤ gb158)); have n4_ := Aside0.mk ((by rw [hg]; exact (below_size (by repeat (first | (with_reducible first | exact HB.out | apply below_alloc | apply pw_below_drewN | apply below_drew1) | exact HB.out))) : w.heap.size ≤ gb158)); clear HO_3; clear HB; have HO_3 := n0_; have HB := n1_; have BK158 := n2_; have GW158 := n3_; have GE158 := n4_; clear n0_ n1_ n2_ n3_ n4_; clear hb hbox hg; have hcz8_0 : w7.cell? ⟨gb158, 0, none⟩ = some (.int .i64 0) := (blk_cell BK158.out 0).trans rfl; have hcz8_1 : w7.cell? ⟨gb158, 1, none⟩ = some (.string (⟨#[]⟩ : ByteArray)) := (blk_cell BK158.out 1).trans rfl; have hcz8_2 : w7.cell? ⟨gb158, 2, none⟩ = some (.slice none 0 0) := (blk_cell BK158.out 2).trans rfl; have hfz8_0 := blk_frozen BK158.out 0; have hfz8_1 := blk_frozen BK158.out 1; have hfz8_2 := blk_frozen BK158.out 2) | ((with_reducible refine gate_builtin (b := .append) (xs := #[.tmp 19, .tmp 24]) rfl ?_); (try (refine gate_guard (by rfl) ?_; dsimp only)); at_builtin; refine Kd.R_append k54 (w0 := w) w.heap.size rfl (.tmp 19) (.tmp 24) 26 54 (.agg #[(.string ⟨#[]⟩), (.int .i64 0)]) 24 rfl Tryd.underlying26 info54 rfl (by decide) (by omega) u3 x3_1 (⟨(rd_T33 l0 x11_1).f1, x4_1⟩ : S54) [.string ((rd_T33 l0 x11_1).f1), .int .i64 x4_1] (fun _ => True) (fun _ => False) rfl (by first | (go_simp; done) | (go_simp; rfl)) ?aP (fun _ hk => hk.elim) ?aF ?aO ?aB ?aS ?aL ?_; (case aP => exact k54_mkM _ _ _ (⟨(rd_T33 l0 x11_1).f1, x4_1⟩ : S54)); (case aB => exact (by repeat (first | (with_reducible first | exact HB.out | apply below_alloc | apply pw_below_drewN | apply below_drew1 | refine below_set ?_ GE158.out) | exact HB.out))); (case aF => exact (fun _ _ => trivial)); (case aO => exact (by (with_reducible repeat (first | apply Kd.R_alloc | apply Kd.R_drewN | apply Kd.R_drew)); exact Kd.R_mono (Kd.R_far (p := ⟨gb158, 2, none⟩) (Kd.R_far (p := ⟨gb158, 1, none⟩) (Kd.R_far (p := ⟨gb158, 0, none⟩) (Kd.R_types HO_3.out BK158.out (by decide)) (fun _ hk => hk.2) (.int .i64 ((rd_T33 l0 x11_1).f0))) (fun _ hk => hk.2) (.string ((rd_T33 l0 x11_1).f1))) (fun _ hk => hk.2) (.slice A157_2 ((rd_T33 l0 x11_1).f2).length c157_2)) (fun _ hk => trivial))); (case aS => exact (below_size (by repeat (first | (with_reducible first | exact HB.out | apply below_alloc | apply pw_below_drewN | apply below_drew1 | refine below_set ?_ GE158.out) | exact HB.out)))); (case aL => have := LMc6.out; omega); intro v160 w9 ho hb hg hat; rw [← Ny159.out] at ho; have n0_ := Aside0.mk (blk_grown (g := gb158) (o := .cells #[.int .i64 ((rd_T33 l0 x11_1).f0), .string ((rd_T33 l0 x11_1).f1), .slice A157_2 ((rd_T33 l0 x11_1).f2).length c157_2] 33 (0, 0)) (by (with_reducible repeat (first | refine blk_drewN ?_ _ | refine blk_drew ?_ | refine blk_alloc ?_ _)); refine blk_put (cs := #[.int .i64 ((rd_T33 l0 x11_1).f0), .string ((rd_T33 l0 x11_1).f1), .slice none 0 0]) ?_ 2 _ rfl; (with_reducible repeat (first | refine blk_drewN ?_ _ | refine blk_drew ?_ | refine blk_alloc ?_ _)); refine blk_put (cs := #[.int .i64 ((rd_T33 l0 x11_1).f0), .string (⟨#[]⟩ : ByteArray), .slice none 0 0]) ?_ 1 _ rfl; (with_reducible repeat (first | refine blk_drewN ?_ _ | refine blk_drew ?_ | refine blk_alloc ?_ _)); refine blk_put (cs := #[.int .i64 0, .string (⟨#[]⟩ : ByteArray), .slice none 0 0]) ?_ 0 _ rfl; (with_reducible repeat (first | refine blk_drewN ?_ _ | refine blk_drew ?_ | refine blk_alloc ?_ _)); exact BK158.out) hg (Kd.R_ne HO_3.out BK158.out (by decide))); have n1_ := Aside0.mk (hb); have n2_ := Aside0.mk (ho); clear BK158; clear HB; clear HO_3; have BK158 := n0_; have HB := n1_; have HO161 := n2_; clear n0_ n1_ n2_; clear ho hb hg hat))
                go_roundg k1
                case measure => have := HK1.out; omega
                case rel => exact ⟨(y159), (x4_1), (wrap64 (x11_1 + 1)), (by first | rfl | (simp; done) | (simp [*]; done)), (by first | rfl | (simp; done) | (simp [*]; done)), H', ⟨by have := HK1.out; omega⟩, ⟨by (with_reducible repeat (first | apply Kd.R_alloc | apply Kd.R_drewN | apply Kd.R_drew)); exact HO161.out⟩, ⟨by repeat (first | (with_reducible first | exact HB.out | apply below_alloc | apply pw_below_drewN | apply below_drew1 | refine below_set ?_ GE158.out) | exact HB.out)⟩⟩
              · rw [if_neg c6] at H
                exact absurd H (by simp)
            · rw [if_neg c5] at H
              have c5b0 : (((rd_T33 l0 x11_1).f0) == 0) = false := beq_eq_false_iff_ne.mpr c5
              have c5b1 : (((rd_T33 l0 x11_1).f0) != 0) = true := bne_iff_ne.mpr c5
              by_cases c10 : ((rd_T33 l0 x11_1).f0) = 1
              · rw [if_pos c10] at H
                have c10b0 : (((rd_T33 l0 x11_1).f0) == 1) = true := beq_iff_eq.mpr c10
                have c10b1 : (((rd_T33 l0 x11_1).f0) != 1) = false := bne_eq_false_iff_eq.mpr c10
                clear c10
                have H' := Aside0.mk H
                clear H
                have p157 : 0 ≤ (x11_1 : Int) := of_decide_eq_true (by first | (with_reducible assumption) | assumption)
                have q157 : x11_1 < (l0.length : Int) := of_decide_eq_true (by first | (with_reducible assumption) | assumption)
                obtain ⟨ad157, A157_2, c157_2, e157, hx157_0, hx157_1, hx157_2, hl157_2, hi157_2⟩ := at_T33 HR0.out x11_1 p157 q157
                cases e157
                replace hx157_0 := (HB.out.cell (World.block_lt_of_cell? w _ hx157_0)).trans hx157_0
                replace hx157_1 := (HB.out.cell (World.block_lt_of_cell? w _ hx157_1)).trans hx157_1
                replace hx157_2 := (HB.out.cell (World.block_lt_of_cell? w _ hx157_2)).trans hx157_2
                have HR157_2 := Aside0.mk hi157_2
                have HC157_2 := Aside0.mk hl157_2
                clear hi157_2 hl157_2
                replace p157 := eq_true p157
                replace q157 := eq_true q157
                go_wp2_with (first | ((with_reducible refine gate_dst (N := 6) rfl ?_); (try (refine gate_guard (by rfl) ?_; dsimp only)); refine box_event ?hg (N := 6) ?hd (cs := #[.int .i64 0, .string (⟨#[]⟩ : ByteArray), .slice none 0 0]) (t := 33) ?hr ?_; (case hd => rfl); (case hg => rfl); (case hr => first | (go_simp; done) | (go_simp; rfl)); intro gb158 hg w11 hbox hb; have n0_ := Aside0.mk (Kd.R_below (by (with_reducible repeat (first | apply Kd.R_alloc | apply Kd.R_drewN | apply Kd.R_drew)); exact HO_3.out) hb); have n1_ := Aside0.mk (below_step (by repeat (first | (with_reducible first | exact HB.out | apply below_alloc | apply pw_below_drewN | apply below_drew1) | exact HB.out)) hb); have n2_ := Aside0.mk (hbox); have n3_ := Aside0.mk ((by rw [hg]; exact (below_size (by repeat (first | (with_reducible first | exact HB.out | apply below_alloc | apply pw_below_drewN | apply below_drew1) | exact HB.out))) : w.heap.size ≤ gb158)); have n4_ := Aside0.mk ((by rw [hg]; exact (below_size (by repeat (first | (with_reducible first | exact HB.out | apply below_alloc | apply pw_below_drewN | apply below_drew1) | exact HB.out))) : w.heap.size ≤ gb158)); clear HO_3; clear HB; have HO_3 := n0_; have HB := n1_; have BK158 := n2_; have GW158 := n3_; have GE158 := n4_; clear n0_ n1_ n2_ n3_ n4_; clear hb hbox hg; have hcz12_0 : w11.cell? ⟨gb158, 0, none⟩ = some (.int .i64 0) := (blk_cell BK158.out 0).trans rfl; have hcz12_1 : w11.cell? ⟨gb158, 1, none⟩ = some (.string (⟨#[]⟩ : ByteArray)) := (blk_cell BK158.out 1).trans rfl; have hcz12_2 : w11.cell? ⟨gb158, 2, none⟩ = some (.slice none 0 0) := (blk_cell BK158.out 2).trans rfl; have hfz12_0 := blk_frozen BK158.out 0; have hfz12_1 := blk_frozen BK158.out 1; have hfz12_2 := blk_frozen BK158.out 2))
                go_loopg [3, 31] k1 (fun kq v3 v31 w' => ∃ (x3_2 : List (S54)) (x31_2 : Int), v31 = .int .i64 x31_2 ∧ Aside0 (spec_LtPlayed.l1 kq x3_2 x4_1 l0 (l0.length : Int) x11_1 ((rd_T33 l0 x11_1).f2) (((rd_T33 l0 x11_1).f2).length : Int) x31_2 = some r) ∧ Aside0 (kq ≤ k1) ∧ Aside0 (Kd.R k54 54 w' w.heap.size (fun _ => True) v3 x3_2) ∧ Aside0 (w'.heap[gb158]? = some (.cells #[.int .i64 ((rd_T33 l0 x11_1).f0), .string ((rd_T33 l0 x11_1).f1), (.slice A157_2 ((rd_T33 l0 x11_1).f2).length c157_2)] 33 (0, 0))) ∧ Aside0 (Below w.heap.size w w'))
                case atStart => exact ⟨(x3_1), (0), (by first | rfl | (simp; done) | (simp [*]; done)), H', ⟨Nat.le_refl _⟩, ⟨by (with_reducible repeat (first | apply Kd.R_alloc | apply Kd.R_drewN | apply Kd.R_drew)); exact Kd.R_mono (Kd.R_far (p := ⟨gb158, 2, none⟩) (Kd.R_far (p := ⟨gb158, 1, none⟩) (Kd.R_far (p := ⟨gb158, 0, none⟩) (Kd.R_types HO_3.out BK158.out (by decide)) (fun _ hk => hk.2) (.int .i64 ((rd_T33 l0 x11_1).f0))) (fun _ hk => hk.2) (.string ((rd_T33 l0 x11_1).f1))) (fun _ hk => hk.2) (.slice A157_2 ((rd_T33 l0 x11_1).f2).length c157_2)) (fun _ hk => trivial)⟩, ⟨by (with_reducible repeat (first | refine blk_drewN ?_ _ | refine blk_drew ?_ | refine blk_alloc ?_ _)); refine blk_put (cs := #[.int .i64 ((rd_T33 l0 x11_1).f0), .string ((rd_T33 l0 x11_1).f1), .slice none 0 0]) ?_ 2 _ rfl; (with_reducible repeat (first | refine blk_drewN ?_ _ | refine blk_drew ?_ | refine blk_alloc ?_ _)); refine blk_put (cs := #[.int .i64 ((rd_T33 l0 x11_1).f0), .string (⟨#[]⟩ : ByteArray), .slice none 0 0]) ?_ 1 _ rfl; (with_reducible repeat (first | refine blk_drewN ?_ _ | refine blk_drew ?_ | refine blk_alloc ?_ _)); refine blk_put (cs := #[.int .i64 0, .string (⟨#[]⟩ : ByteArray), .slice none 0 0]) ?_ 0 _ rfl; (with_reducible repeat (first | refine blk_drewN ?_ _ | refine blk_drew ?_ | refine blk_alloc ?_ _)); exact BK158.out⟩, ⟨by repeat (first | (with_reducible first | exact HB.out | apply below_alloc | apply pw_below_drewN | apply below_drew1 | refine below_set ?_ GE158.out) | exact HB.out)⟩⟩
                case round =>
                  clear H'
                  try clear c1
                  try clear p1
                  try clear q1
                  try clear hx1
                  try clear c2
                  try clear c2b0
                  try clear p2
                  try clear c3
                  try clear c3b0
                  try clear c4
                  try clear c4b0
                  try clear c5
                  try clear c5b0
                  try clear c5b1
                  try clear c6
                  try clear p6
                  try clear c10
                  try clear c10b0
                  try clear c10b1
                  try clear c12
                  try clear hcz12_0
                  try clear hcz12_1
                  try clear hcz12_2
                  try clear hcz8_0
                  try clear hcz8_1
                  try clear hcz8_2
                  try clear hfz12_0
                  try clear hfz12_1
                  try clear hfz12_2
                  try clear hfz8_0
                  try clear hfz8_1
                  try clear hfz8_2
                  try clear hx157_0
                  try clear hx157_1
                  try clear hx157_2
                  try clear p157
                  try clear q157
                  obtain ⟨x3_2, x31_2, rfl, HA, HK2, HO_3, BK158, HB⟩ := hrel
                  cases gk with
                  | zero => exact absurd HA.out (by simp [spec_LtPlayed.l1])
                  | succ k2 =>
                    have H := HA.out
                    clear HA
                    simp only [spec_LtPlayed.l1] at H
                    by_cases c13 : x31_2 < (((rd_T33 l0 x11_1).f2).length : Int)
                    · rw [if_pos c13] at H
                      have c13b0 : decide (x31_2 < (((rd_T33 l0 x11_1).f2).length : Int)) = true := decide_eq_true c13
                      clear c13
                      by_cases c14 : 0 ≤ x31_2
                      · rw [if_pos c14] at H
                        have c14b0 : decide (0 ≤ x31_2) = true := decide_eq_true c14
                        clear c14
                        by_cases c15 : x31_2 < (((rd_T33 l0 x11_1).f2).length : Int)
                        · rw [if_pos c15] at H
                          have c15b0 : decide (x31_2 < (((rd_T33 l0 x11_1).f2).length : Int)) = true := decide_eq_true c15
                          clear c15
                          by_cases c16 : x3_2.length < 5864062014805
                          · rw [if_pos c16] at H
                            have LMc16 := Aside0.mk c16
                            clear c16
                            obtain ⟨y163, hy163⟩ : ∃ y_ : List (S54), y_ = (x3_2 ++ [(⟨rdOf ByteArray.empty ((rd_T33 l0 x11_1).f2) x31_2, x4_1⟩ : S54)]) := ⟨_, rfl⟩
                            replace H : (spec_LtPlayed.l1 k2 y163 x4_1 l0 (l0.length : Int) x11_1 ((rd_T33 l0 x11_1).f2) (((rd_T33 l0 x11_1).f2).length : Int) (wrap64 (x31_2 + 1))) = some r := by first | (rw [hy163]; with_reducible exact H) | (have H2_ := (Option.bind_some _ _).symm.trans H; rw [hy163]; with_reducible exact H2_) | (have H2_ := (Option.bind_some _ _).symm.trans H; with_reducible exact H2_) | with_reducible exact H | (rw [hy163]; exact H) | exact H
                            have Ny163 := Aside0.mk hy163
                            clear hy163
                            have H' := Aside0.mk H
                            clear H
                            have p162 : 0 ≤ (x31_2 : Int) := of_decide_eq_true (by first | (with_reducible assumption) | assumption)
                            have q162 : x31_2 < (((rd_T33 l0 x11_1).f2).length : Int) := of_decide_eq_true (by first | (with_reducible assumption) | assumption)
                            obtain ⟨ad162, e162, hx162_0⟩ := Kd.at_string HR157_2.out x31_2 p162 q162
                            cases e162
                            replace hx162_0 := (HB.out.cell (World.block_lt_of_cell? w _ hx162_0)).trans hx162_0
                            replace p162 := eq_true p162
                            replace q162 := eq_true q162
                            go_wp2_with (first | ((with_reducible refine gate_builtin (b := .append) (xs := #[.tmp 35, .tmp 39]) rfl ?_); (try (refine gate_guard (by rfl) ?_; dsimp only)); at_builtin; refine Kd.R_append k54 (w0 := w) w.heap.size rfl (.tmp 35) (.tmp 39) 26 54 (.agg #[(.string ⟨#[]⟩), (.int .i64 0)]) 24 rfl Tryd.underlying26 info54 rfl (by decide) (by omega) u3 x3_2 (⟨rdOf ByteArray.empty ((rd_T33 l0 x11_1).f2) x31_2, x4_1⟩ : S54) [.string (rdOf ByteArray.empty ((rd_T33 l0 x11_1).f2) x31_2), .int .i64 x4_1] (fun _ => True) (fun _ => False) rfl rfl ?aP (fun _ hk => hk.elim) ?aF ?aO ?aB ?aS ?aL ?_; (case aP => exact k54_mkM _ _ _ (⟨rdOf ByteArray.empty ((rd_T33 l0 x11_1).f2) x31_2, x4_1⟩ : S54)); (case aB => exact (by repeat (first | (with_reducible first | exact HB.out | apply below_alloc | apply pw_below_drewN | apply below_drew1 | refine below_set ?_ GE158.out) | exact HB.out))); (case aF => exact (fun _ _ => trivial)); (case aO => exact (by (with_reducible repeat (first | apply Kd.R_alloc | apply Kd.R_drewN | apply Kd.R_drew)); exact HO_3.out)); (case aS => exact (below_size (by repeat (first | (with_reducible first | exact HB.out | apply below_alloc | apply pw_below_drewN | apply below_drew1 | refine below_set ?_ GE158.out) | exact HB.out)))); (case aL => have := LMc16.out; omega); intro v164 w17 ho hb hg hat; rw [← Ny163.out] at ho; have n0_ := Aside0.mk (blk_grown (g := gb158) (o := .cells #[.int .i64 ((rd_T33 l0 x11_1).f0), .string ((rd_T33 l0 x11_1).f1), .slice (some ad162) ((rd_T33 l0 x11_1).f2).length c157_2] 33 (0, 0)) (by (with_reducible repeat (first | refine blk_drewN ?_ _ | refine blk_drew ?_ | refine blk_alloc ?_ _)); exact BK158.out) hg (Kd.R_ne HO_3.out BK158.out (by decide))); have n1_ := Aside0.mk (hb); have n2_ := Aside0.mk (ho); clear BK158; clear HB; clear HO_3; have BK158 := n0_; have HB := n1_; have HO165 := n2_; clear n0_ n1_ n2_; clear ho hb hg hat))
                            go_roundg k2
                            case measure => have := HK1.out; have := HK2.out; omega
                            case rel => exact ⟨(y163), (wrap64 (x31_2 + 1)), (by first | rfl | (simp; done) | (simp [*]; done)), H', ⟨by have := HK1.out; have := HK2.out; omega⟩, ⟨by (with_reducible repeat (first | apply Kd.R_alloc | apply Kd.R_drewN | apply Kd.R_drew)); exact HO165.out⟩, ⟨by (with_reducible repeat (first | refine blk_drewN ?_ _ | refine blk_drew ?_ | refine blk_alloc ?_ _)); exact BK158.out⟩, ⟨by repeat (first | (with_reducible first | exact HB.out | apply below_alloc | apply pw_below_drewN | apply below_drew1 | refine below_set ?_ GE158.out) | exact HB.out)⟩⟩
                          · rw [if_neg c16] at H
                            exact absurd H (by simp)
                        · rw [if_neg c15] at H
                          exact absurd H (by simp)
                      · rw [if_neg c14] at H
                        exact absurd H (by simp)
                    · rw [if_neg c13] at H
                      have c13b0 : decide (x31_2 < (((rd_T33 l0 x11_1).f2).length : Int)) = false := decide_eq_false c13
                      clear c13
                      have H' := Aside0.mk H
                      clear H
                      go_wp2
                      go_roundg k2
                      case measure => have := HK1.out; have := HK2.out; omega
                      case rel => exact ⟨(x3_2), (x4_1), (wrap64 (x11_1 + 1)), (by first | rfl | (simp; done) | (simp [*]; done)), (by first | rfl | (simp; done) | (simp [*]; done)), H', ⟨by have := HK1.out; have := HK2.out; omega⟩, ⟨by (with_reducible repeat (first | apply Kd.R_alloc | apply Kd.R_drewN | apply Kd.R_drew)); exact HO_3.out⟩, ⟨by repeat (first | (with_reducible first | exact HB.out | apply below_alloc | apply pw_below_drewN | apply below_drew1 | refine below_set ?_ GE158.out) | exact HB.out)⟩⟩
              · rw [if_neg c10] at H
                have c10b0 : (((rd_T33 l0 x11_1).f0) == 1) = false := beq_eq_false_iff_ne.mpr c10
                have c10b1 : (((rd_T33 l0 x11_1).f0) != 1) = true := bne_iff_ne.mpr c10
                by_cases c18 : ((rd_T33 l0 x11_1).f0) = 2
                · rw [if_pos c18] at H
                  have c18b0 : (((rd_T33 l0 x11_1).f0) == 2) = true := beq_iff_eq.mpr c18
                  have c18b1 : (((rd_T33 l0 x11_1).f0) != 2) = false := bne_eq_false_iff_eq.mpr c18
                  clear c18
                  by_cases c19 : (x3_1.length : Int) > 0
                  · rw [if_pos c19] at H
                    have c19b0 : decide (0 < (x3_1.length : Int)) = true := decide_eq_true c19
                    have c19b1 : decide (0 < x3_1.length) = true := decide_eq_true (by omega)
                    clear c19
                    obtain ⟨ji20, hji20⟩ : ∃ j_ : Int, (wrap64 ((x3_1.length : Int) - 1)) = j_ := ⟨_, rfl⟩
                    replace H : (if 0 ≤ (ji20) then (if (ji20) < (x3_1.length : Int) then (if x4_1 ≤ ((rd_T54 x3_1 (ji20)).f1) then (spec_LtPlayed.l0 k1 x3_1 (wrap64 (x4_1 + 1)) l0 (l0.length : Int) (wrap64 (x11_1 + 1))) else (spec_LtPlayed.l0 k1 x3_1 x4_1 l0 (l0.length : Int) (wrap64 (x11_1 + 1)))) else (none)) else (none)) = some r := by first | (rw [hji20] at H; exact H) | (simp only [hji20] at H ⊢; exact H)
                    have hji20w : (IntKind.i64.wrap ((x3_1.length : Int) - 1)) = ji20 := (i64_w _).trans hji20
                    by_cases c21 : 0 ≤ (ji20)
                    · rw [if_pos c21] at H
                      have c21b0 : decide (0 ≤ (ji20)) = true := decide_eq_true c21
                      clear c21
                      by_cases c22 : (ji20) < (x3_1.length : Int)
                      · rw [if_pos c22] at H
                        have c22b0 : decide ((ji20) < (x3_1.length : Int)) = true := decide_eq_true c22
                        clear c22
                        by_cases c23 : x4_1 ≤ ((rd_T54 x3_1 (ji20)).f1)
                        · rw [if_pos c23] at H
                          have c23b0 : decide (x4_1 ≤ ((rd_T54 x3_1 (ji20)).f1)) = true := decide_eq_true c23
                          clear c23
                          have H' := Aside0.mk H
                          clear H
                          have p157 : 0 ≤ (x11_1 : Int) := of_decide_eq_true (by first | (with_reducible assumption) | assumption)
                          have q157 : x11_1 < (l0.length : Int) := of_decide_eq_true (by first | (with_reducible assumption) | assumption)
                          obtain ⟨ad157, A157_2, c157_2, e157, hx157_0, hx157_1, hx157_2, hl157_2, hi157_2⟩ := at_T33 HR0.out x11_1 p157 q157
                          cases e157
                          replace hx157_0 := (HB.out.cell (World.block_lt_of_cell? w _ hx157_0)).trans hx157_0
                          replace hx157_1 := (HB.out.cell (World.block_lt_of_cell? w _ hx157_1)).trans hx157_1
                          replace hx157_2 := (HB.out.cell (World.block_lt_of_cell? w _ hx157_2)).trans hx157_2
                          have HR157_2 := Aside0.mk hi157_2
                          have HC157_2 := Aside0.mk hl157_2
                          clear hi157_2 hl157_2
                          replace p157 := eq_true p157
                          replace q157 := eq_true q157
                          go_wp2_with (first | ((with_reducible refine gate_dst (N := 6) rfl ?_); (try (refine gate_guard (by rfl) ?_; dsimp only)); refine box_event ?hg (N := 6) ?hd (cs := #[.int .i64 0, .string (⟨#[]⟩ : ByteArray), .slice none 0 0]) (t := 33) ?hr ?_; (case hd => rfl); (case hg => rfl); (case hr => first | (go_simp; done) | (go_simp; rfl)); intro gb158 hg w24 hbox hb; have n0_ := Aside0.mk (Kd.R_below (by (with_reducible repeat (first | apply Kd.R_alloc | apply Kd.R_drewN | apply Kd.R_drew)); exact HO_3.out) hb); have n1_ := Aside0.mk (below_step (by repeat (first | (with_reducible first | exact HB.out | apply below_alloc | apply pw_below_drewN | apply below_drew1) | exact HB.out)) hb); have n2_ := Aside0.mk (hbox); have n3_ := Aside0.mk ((by rw [hg]; exact (below_size (by repeat (first | (with_reducible first | exact HB.out | apply below_alloc | apply pw_below_drewN | apply below_drew1) | exact HB.out))) : w.heap.size ≤ gb158)); have n4_ := Aside0.mk ((by rw [hg]; exact (below_size (by repeat (first | (with_reducible first | exact HB.out | apply below_alloc | apply pw_below_drewN | apply below_drew1) | exact HB.out))) : w.heap.size ≤ gb158)); clear HO_3; clear HB; have HO_3 := n0_; have HB := n1_; have BK158 := n2_; have GW158 := n3_; have GE158 := n4_; clear n0_ n1_ n2_ n3_ n4_; clear hb hbox hg; have hcz25_0 : w24.cell? ⟨gb158, 0, none⟩ = some (.int .i64 0) := (blk_cell BK158.out 0).trans rfl; have hcz25_1 : w24.cell? ⟨gb158, 1, none⟩ = some (.string (⟨#[]⟩ : ByteArray)) := (blk_cell BK158.out 1).trans rfl; have hcz25_2 : w24.cell? ⟨gb158, 2, none⟩ = some (.slice none 0 0) := (blk_cell BK158.out 2).trans rfl; have hfz25_0 := blk_frozen BK158.out 0; have hfz25_1 := blk_frozen BK158.out 1; have hfz25_2 := blk_frozen BK158.out 2; obtain ⟨Ao26, co26, eo26⟩ := Kd.R_slice HO_3.out; subst eo26; have p166 : 0 ≤ ((ji20) : Int) := of_decide_eq_true (by first | (with_reducible assumption) | assumption); have q166 : (ji20) < (x3_1.length : Int) := of_decide_eq_true (by first | (with_reducible assumption) | assumption); obtain ⟨ad166, e166, hx166_0, hx166_1⟩ := at_T54 (Kd.R_reads' HO_3.out).2.2 (ji20) p166 q166; cases e166; have hn166_0 : ad166.block ≠ gb158 := Kd.own_blk (Kd.R_ne HO_3.out BK158.out (by decide)); have hn166_1 : ad166.block ≠ gb158 := Kd.own_blk (Kd.R_ne HO_3.out BK158.out (by decide)); have hn166_2 : ad166.block ≠ gb158 := Kd.own_blk (Kd.R_ne HO_3.out BK158.out (by decide)); replace hx166_0 := (cell_far (p := ⟨gb158, 0, none⟩) (by first | (rw [add_block]; exact hn166_0) | (show (Addr.add _ _).block ≠ _; rw [add_block]; exact hn166_0) | exact hn166_0) (.int .i64 ((rd_T33 l0 x11_1).f0))).trans hx166_0; replace hx166_1 := (cell_far (p := ⟨gb158, 0, none⟩) (by first | (rw [add_block]; exact hn166_0) | (show (Addr.add _ _).block ≠ _; rw [add_block]; exact hn166_0) | exact hn166_0) (.int .i64 ((rd_T33 l0 x11_1).f0))).trans hx166_1; replace hx166_0 := (cell_far (p := ⟨gb158, 1, none⟩) (by first | (rw [add_block]; exact hn166_1) | (show (Addr.add _ _).block ≠ _; rw [add_block]; exact hn166_1) | exact hn166_1) (.string ((rd_T33 l0 x11_1).f1))).trans hx166_0; replace hx166_1 := (cell_far (p := ⟨gb158, 1, none⟩) (by first | (rw [add_block]; exact hn166_1) | (show (Addr.add _ _).block ≠ _; rw [add_block]; exact hn166_1) | exact hn166_1) (.string ((rd_T33 l0 x11_1).f1))).trans hx166_1; replace hx166_0 := (cell_far (p := ⟨gb158, 2, none⟩) (by first | (rw [add_block]; exact hn166_2) | (show (Addr.add _ _).block ≠ _; rw [add_block]; exact hn166_2) | exact hn166_2) (.slice A157_2 ((rd_T33 l0 x11_1).f2).length c157_2)).trans hx166_0; replace hx166_1 := (cell_far (p := ⟨gb158, 2, none⟩) (by first | (rw [add_block]; exact hn166_2) | (show (Addr.add _ _).block ≠ _; rw [add_block]; exact hn166_2) | exact hn166_2) (.slice A157_2 ((rd_T33 l0 x11_1).f2).length c157_2)).trans hx166_1; clear hn166_0; clear hn166_1; clear hn166_2; replace p166 := eq_true p166; replace q166 := eq_true q166))
                          go_roundg k1
                          case measure => have := HK1.out; omega
                          case rel => exact ⟨(x3_1), (wrap64 (x4_1 + 1)), (wrap64 (x11_1 + 1)), (by first | rfl | (simp; done) | (simp [*]; done)), (by first | rfl | (simp; done) | (simp [*]; done)), H', ⟨by have := HK1.out; omega⟩, ⟨by (with_reducible repeat (first | apply Kd.R_alloc | apply Kd.R_drewN | apply Kd.R_drew)); exact Kd.R_mono (Kd.R_far (p := ⟨gb158, 2, none⟩) (Kd.R_far (p := ⟨gb158, 1, none⟩) (Kd.R_far (p := ⟨gb158, 0, none⟩) (Kd.R_types HO_3.out BK158.out (by decide)) (fun _ hk => hk.2) (.int .i64 ((rd_T33 l0 x11_1).f0))) (fun _ hk => hk.2) (.string ((rd_T33 l0 x11_1).f1))) (fun _ hk => hk.2) (.slice A157_2 ((rd_T33 l0 x11_1).f2).length c157_2)) (fun _ hk => trivial)⟩, ⟨by repeat (first | (with_reducible first | exact HB.out | apply below_alloc | apply pw_below_drewN | apply below_drew1 | refine below_set ?_ GE158.out) | exact HB.out)⟩⟩
                        · rw [if_neg c23] at H
                          have c23b0 : decide (x4_1 ≤ ((rd_T54 x3_1 (ji20)).f1)) = false := decide_eq_false c23
                          clear c23
                          have H' := Aside0.mk H
                          clear H
                          have p157 : 0 ≤ (x11_1 : Int) := of_decide_eq_true (by first | (with_reducible assumption) | assumption)
                          have q157 : x11_1 < (l0.length : Int) := of_decide_eq_true (by first | (with_reducible assumption) | assumption)
                          obtain ⟨ad157, A157_2, c157_2, e157, hx157_0, hx157_1, hx157_2, hl157_2, hi157_2⟩ := at_T33 HR0.out x11_1 p157 q157
                          cases e157
                          replace hx157_0 := (HB.out.cell (World.block_lt_of_cell? w _ hx157_0)).trans hx157_0
                          replace hx157_1 := (HB.out.cell (World.block_lt_of_cell? w _ hx157_1)).trans hx157_1
                          replace hx157_2 := (HB.out.cell (World.block_lt_of_cell? w _ hx157_2)).trans hx157_2
                          have HR157_2 := Aside0.mk hi157_2
                          have HC157_2 := Aside0.mk hl157_2
                          clear hi157_2 hl157_2
                          replace p157 := eq_true p157
                          replace q157 := eq_true q157
                          go_wp2_with (first | ((with_reducible refine gate_dst (N := 6) rfl ?_); (try (refine gate_guard (by rfl) ?_; dsimp only)); refine box_event ?hg (N := 6) ?hd (cs := #[.int .i64 0, .string (⟨#[]⟩ : ByteArray), .slice none 0 0]) (t := 33) ?hr ?_; (case hd => rfl); (case hg => rfl); (case hr => first | (go_simp; done) | (go_simp; rfl)); intro gb158 hg w27 hbox hb; have n0_ := Aside0.mk (Kd.R_below (by (with_reducible repeat (first | apply Kd.R_alloc | apply Kd.R_drewN | apply Kd.R_drew)); exact HO_3.out) hb); have n1_ := Aside0.mk (below_step (by repeat (first | (with_reducible first | exact HB.out | apply below_alloc | apply pw_below_drewN | apply below_drew1) | exact HB.out)) hb); have n2_ := Aside0.mk (hbox); have n3_ := Aside0.mk ((by rw [hg]; exact (below_size (by repeat (first | (with_reducible first | exact HB.out | apply below_alloc | apply pw_below_drewN | apply below_drew1) | exact HB.out))) : w.heap.size ≤ gb158)); have n4_ := Aside0.mk ((by rw [hg]; exact (below_size (by repeat (first | (with_reducible first | exact HB.out | apply below_alloc | apply pw_below_drewN | apply below_drew1) | exact HB.out))) : w.heap.size ≤ gb158)); clear HO_3; clear HB; have HO_3 := n0_; have HB := n1_; have BK158 := n2_; have GW158 := n3_; have GE158 := n4_; clear n0_ n1_ n2_ n3_ n4_; clear hb hbox hg; have hcz28_0 : w27.cell? ⟨gb158, 0, none⟩ = some (.int .i64 0) := (blk_cell BK158.out 0).trans rfl; have hcz28_1 : w27.cell? ⟨gb158, 1, none⟩ = some (.string (⟨#[]⟩ : ByteArray)) := (blk_cell BK158.out 1).trans rfl; have hcz28_2 : w27.cell? ⟨gb158, 2, none⟩ = some (.slice none 0 0) := (blk_cell BK158.out 2).trans rfl; have hfz28_0 := blk_frozen BK158.out 0; have hfz28_1 := blk_frozen BK158.out 1; have hfz28_2 := blk_frozen BK158.out 2; obtain ⟨Ao29, co29, eo29⟩ := Kd.R_slice HO_3.out; subst eo29; have p166 : 0 ≤ ((ji20) : Int) := of_decide_eq_true (by first | (with_reducible assumption) | assumption); have q166 : (ji20) < (x3_1.length : Int) := of_decide_eq_true (by first | (with_reducible assumption) | assumption); obtain ⟨ad166, e166, hx166_0, hx166_1⟩ := at_T54 (Kd.R_reads' HO_3.out).2.2 (ji20) p166 q166; cases e166; have hn166_0 : ad166.block ≠ gb158 := Kd.own_blk (Kd.R_ne HO_3.out BK158.out (by decide)); have hn166_1 : ad166.block ≠ gb158 := Kd.own_blk (Kd.R_ne HO_3.out BK158.out (by decide)); have hn166_2 : ad166.block ≠ gb158 := Kd.own_blk (Kd.R_ne HO_3.out BK158.out (by decide)); replace hx166_0 := (cell_far (p := ⟨gb158, 0, none⟩) (by first | (rw [add_block]; exact hn166_0) | (show (Addr.add _ _).block ≠ _; rw [add_block]; exact hn166_0) | exact hn166_0) (.int .i64 ((rd_T33 l0 x11_1).f0))).trans hx166_0; replace hx166_1 := (cell_far (p := ⟨gb158, 0, none⟩) (by first | (rw [add_block]; exact hn166_0) | (show (Addr.add _ _).block ≠ _; rw [add_block]; exact hn166_0) | exact hn166_0) (.int .i64 ((rd_T33 l0 x11_1).f0))).trans hx166_1; replace hx166_0 := (cell_far (p := ⟨gb158, 1, none⟩) (by first | (rw [add_block]; exact hn166_1) | (show (Addr.add _ _).block ≠ _; rw [add_block]; exact hn166_1) | exact hn166_1) (.string ((rd_T33 l0 x11_1).f1))).trans hx166_0; replace hx166_1 := (cell_far (p := ⟨gb158, 1, none⟩) (by first | (rw [add_block]; exact hn166_1) | (show (Addr.add _ _).block ≠ _; rw [add_block]; exact hn166_1) | exact hn166_1) (.string ((rd_T33 l0 x11_1).f1))).trans hx166_1; replace hx166_0 := (cell_far (p := ⟨gb158, 2, none⟩) (by first | (rw [add_block]; exact hn166_2) | (show (Addr.add _ _).block ≠ _; rw [add_block]; exact hn166_2) | exact hn166_2) (.slice A157_2 ((rd_T33 l0 x11_1).f2).length c157_2)).trans hx166_0; replace hx166_1 := (cell_far (p := ⟨gb158, 2, none⟩) (by first | (rw [add_block]; exact hn166_2) | (show (Addr.add _ _).block ≠ _; rw [add_block]; exact hn166_2) | exact hn166_2) (.slice A157_2 ((rd_T33 l0 x11_1).f2).length c157_2)).trans hx166_1; clear hn166_0; clear hn166_1; clear hn166_2; replace p166 := eq_true p166; replace q166 := eq_true q166))
                          go_roundg k1
                          case measure => have := HK1.out; omega
                          case rel => exact ⟨(x3_1), (x4_1), (wrap64 (x11_1 + 1)), (by first | rfl | (simp; done) | (simp [*]; done)), (by first | rfl | (simp; done) | (simp [*]; done)), H', ⟨by have := HK1.out; omega⟩, ⟨by (with_reducible repeat (first | apply Kd.R_alloc | apply Kd.R_drewN | apply Kd.R_drew)); exact Kd.R_mono (Kd.R_far (p := ⟨gb158, 2, none⟩) (Kd.R_far (p := ⟨gb158, 1, none⟩) (Kd.R_far (p := ⟨gb158, 0, none⟩) (Kd.R_types HO_3.out BK158.out (by decide)) (fun _ hk => hk.2) (.int .i64 ((rd_T33 l0 x11_1).f0))) (fun _ hk => hk.2) (.string ((rd_T33 l0 x11_1).f1))) (fun _ hk => hk.2) (.slice A157_2 ((rd_T33 l0 x11_1).f2).length c157_2)) (fun _ hk => trivial)⟩, ⟨by repeat (first | (with_reducible first | exact HB.out | apply below_alloc | apply pw_below_drewN | apply below_drew1 | refine below_set ?_ GE158.out) | exact HB.out)⟩⟩
                      · rw [if_neg c22] at H
                        exact absurd H (by simp)
                    · rw [if_neg c21] at H
                      exact absurd H (by simp)
                  · rw [if_neg c19] at H
                    have c19b0 : decide (0 < (x3_1.length : Int)) = false := decide_eq_false c19
                    have c19b1 : decide (0 < x3_1.length) = false := decide_eq_false (by omega)
                    clear c19
                    have H' := Aside0.mk H
                    clear H
                    have p157 : 0 ≤ (x11_1 : Int) := of_decide_eq_true (by first | (with_reducible assumption) | assumption)
                    have q157 : x11_1 < (l0.length : Int) := of_decide_eq_true (by first | (with_reducible assumption) | assumption)
                    obtain ⟨ad157, A157_2, c157_2, e157, hx157_0, hx157_1, hx157_2, hl157_2, hi157_2⟩ := at_T33 HR0.out x11_1 p157 q157
                    cases e157
                    replace hx157_0 := (HB.out.cell (World.block_lt_of_cell? w _ hx157_0)).trans hx157_0
                    replace hx157_1 := (HB.out.cell (World.block_lt_of_cell? w _ hx157_1)).trans hx157_1
                    replace hx157_2 := (HB.out.cell (World.block_lt_of_cell? w _ hx157_2)).trans hx157_2
                    have HR157_2 := Aside0.mk hi157_2
                    have HC157_2 := Aside0.mk hl157_2
                    clear hi157_2 hl157_2
                    replace p157 := eq_true p157
                    replace q157 := eq_true q157
                    go_wp2_with (first | ((with_reducible refine gate_dst (N := 6) rfl ?_); (try (refine gate_guard (by rfl) ?_; dsimp only)); refine box_event ?hg (N := 6) ?hd (cs := #[.int .i64 0, .string (⟨#[]⟩ : ByteArray), .slice none 0 0]) (t := 33) ?hr ?_; (case hd => rfl); (case hg => rfl); (case hr => first | (go_simp; done) | (go_simp; rfl)); intro gb158 hg w30 hbox hb; have n0_ := Aside0.mk (Kd.R_below (by (with_reducible repeat (first | apply Kd.R_alloc | apply Kd.R_drewN | apply Kd.R_drew)); exact HO_3.out) hb); have n1_ := Aside0.mk (below_step (by repeat (first | (with_reducible first | exact HB.out | apply below_alloc | apply pw_below_drewN | apply below_drew1) | exact HB.out)) hb); have n2_ := Aside0.mk (hbox); have n3_ := Aside0.mk ((by rw [hg]; exact (below_size (by repeat (first | (with_reducible first | exact HB.out | apply below_alloc | apply pw_below_drewN | apply below_drew1) | exact HB.out))) : w.heap.size ≤ gb158)); have n4_ := Aside0.mk ((by rw [hg]; exact (below_size (by repeat (first | (with_reducible first | exact HB.out | apply below_alloc | apply pw_below_drewN | apply below_drew1) | exact HB.out))) : w.heap.size ≤ gb158)); clear HO_3; clear HB; have HO_3 := n0_; have HB := n1_; have BK158 := n2_; have GW158 := n3_; have GE158 := n4_; clear n0_ n1_ n2_ n3_ n4_; clear hb hbox hg; have hcz31_0 : w30.cell? ⟨gb158, 0, none⟩ = some (.int .i64 0) := (blk_cell BK158.out 0).trans rfl; have hcz31_1 : w30.cell? ⟨gb158, 1, none⟩ = some (.string (⟨#[]⟩ : ByteArray)) := (blk_cell BK158.out 1).trans rfl; have hcz31_2 : w30.cell? ⟨gb158, 2, none⟩ = some (.slice none 0 0) := (blk_cell BK158.out 2).trans rfl; have hfz31_0 := blk_frozen BK158.out 0; have hfz31_1 := blk_frozen BK158.out 1; have hfz31_2 := blk_frozen BK158.out 2; obtain ⟨Ao32, co32, eo32⟩ := Kd.R_slice HO_3.out; subst eo32))
                    go_roundg k1
                    case measure => have := HK1.out; omega
                    case rel => exact ⟨(x3_1), (x4_1), (wrap64 (x11_1 + 1)), (by first | rfl | (simp; done) | (simp [*]; done)), (by first | rfl | (simp; done) | (simp [*]; done)), H', ⟨by have := HK1.out; omega⟩, ⟨by (with_reducible repeat (first | apply Kd.R_alloc | apply Kd.R_drewN | apply Kd.R_drew)); exact Kd.R_mono (Kd.R_far (p := ⟨gb158, 2, none⟩) (Kd.R_far (p := ⟨gb158, 1, none⟩) (Kd.R_far (p := ⟨gb158, 0, none⟩) (Kd.R_types HO_3.out BK158.out (by decide)) (fun _ hk => hk.2) (.int .i64 ((rd_T33 l0 x11_1).f0))) (fun _ hk => hk.2) (.string ((rd_T33 l0 x11_1).f1))) (fun _ hk => hk.2) (.slice A157_2 ((rd_T33 l0 x11_1).f2).length c157_2)) (fun _ hk => trivial)⟩, ⟨by repeat (first | (with_reducible first | exact HB.out | apply below_alloc | apply pw_below_drewN | apply below_drew1 | refine below_set ?_ GE158.out) | exact HB.out)⟩⟩
                · rw [if_neg c18] at H
                  have c18b0 : (((rd_T33 l0 x11_1).f0) == 2) = false := beq_eq_false_iff_ne.mpr c18
                  have c18b1 : (((rd_T33 l0 x11_1).f0) != 2) = true := bne_iff_ne.mpr c18
                  by_cases c33 : ((rd_T33 l0 x11_1).f0) = 3
                  · rw [if_pos c33] at H
                    have c33b0 : (((rd_T33 l0 x11_1).f0) == 3) = true := beq_iff_eq.mpr c33
                    have c33b1 : (((rd_T33 l0 x11_1).f0) != 3) = false := bne_eq_false_iff_eq.mpr c33
                    clear c33
                    obtain ⟨ji34, hji34⟩ : ∃ j_ : Int, (mx (wrap64 (x4_1 - 1)) 0) = j_ := ⟨_, rfl⟩
                    replace H : (spec_LtPlayed.l0 k1 x3_1 ji34 l0 (l0.length : Int) (wrap64 (x11_1 + 1))) = some r := by first | (rw [hji34] at H; exact H) | (simp only [hji34] at H ⊢; exact H)
                    have hji34_ : (if (wrap64 (x4_1 - 1)) < 0 then 0 else (wrap64 (x4_1 - 1))) = ji34 := hji34
                    have H' := Aside0.mk H
                    clear H
                    have p157 : 0 ≤ (x11_1 : Int) := of_decide_eq_true (by first | (with_reducible assumption) | assumption)
                    have q157 : x11_1 < (l0.length : Int) := of_decide_eq_true (by first | (with_reducible assumption) | assumption)
                    obtain ⟨ad157, A157_2, c157_2, e157, hx157_0, hx157_1, hx157_2, hl157_2, hi157_2⟩ := at_T33 HR0.out x11_1 p157 q157
                    cases e157
                    replace hx157_0 := (HB.out.cell (World.block_lt_of_cell? w _ hx157_0)).trans hx157_0
                    replace hx157_1 := (HB.out.cell (World.block_lt_of_cell? w _ hx157_1)).trans hx157_1
                    replace hx157_2 := (HB.out.cell (World.block_lt_of_cell? w _ hx157_2)).trans hx157_2
                    have HR157_2 := Aside0.mk hi157_2
                    have HC157_2 := Aside0.mk hl157_2
                    clear hi157_2 hl157_2
                    replace p157 := eq_true p157
                    replace q157 := eq_true q157
                    go_wp2_with (first | ((with_reducible refine gate_dst (N := 6) rfl ?_); (try (refine gate_guard (by rfl) ?_; dsimp only)); refine box_event ?hg (N := 6) ?hd (cs := #[.int .i64 0, .string (⟨#[]⟩ : ByteArray), .slice none 0 0]) (t := 33) ?hr ?_; (case hd => rfl); (case hg => rfl); (case hr => first | (go_simp; done) | (go_simp; rfl)); intro gb158 hg w35 hbox hb; have n0_ := Aside0.mk (Kd.R_below (by (with_reducible repeat (first | apply Kd.R_alloc | apply Kd.R_drewN | apply Kd.R_drew)); exact HO_3.out) hb); have n1_ := Aside0.mk (below_step (by repeat (first | (with_reducible first | exact HB.out | apply below_alloc | apply pw_below_drewN | apply below_drew1) | exact HB.out)) hb); have n2_ := Aside0.mk (hbox); have n3_ := Aside0.mk ((by rw [hg]; exact (below_size (by repeat (first | (with_reducible first | exact HB.out | apply below_alloc | apply pw_below_drewN | apply below_drew1) | exact HB.out))) : w.heap.size ≤ gb158)); have n4_ := Aside0.mk ((by rw [hg]; exact (below_size (by repeat (first | (with_reducible first | exact HB.out | apply below_alloc | apply pw_below_drewN | apply below_drew1) | exact HB.out))) : w.heap.size ≤ gb158)); clear HO_3; clear HB; have HO_3 := n0_; have HB := n1_; have BK158 := n2_; have GW158 := n3_; have GE158 := n4_; clear n0_ n1_ n2_ n3_ n4_; clear hb hbox hg; have hcz36_0 : w35.cell? ⟨gb158, 0, none⟩ = some (.int .i64 0) := (blk_cell BK158.out 0).trans rfl; have hcz36_1 : w35.cell? ⟨gb158, 1, none⟩ = some (.string (⟨#[]⟩ : ByteArray)) := (blk_cell BK158.out 1).trans rfl; have hcz36_2 : w35.cell? ⟨gb158, 2, none⟩ = some (.slice none 0 0) := (blk_cell BK158.out 2).trans rfl; have hfz36_0 := blk_frozen BK158.out 0; have hfz36_1 := blk_frozen BK158.out 1; have hfz36_2 := blk_frozen BK158.out 2))
                    go_roundg k1
                    case measure => have := HK1.out; omega
                    case rel => exact ⟨(x3_1), (ji34), (wrap64 (x11_1 + 1)), (by first | rfl | (simp; done) | (simp only [← hji34] <;> (first | rfl | simp)) | (simp [*]; done)), (by first | rfl | (simp; done) | (simp [*]; done)), H', ⟨by have := HK1.out; omega⟩, ⟨by (with_reducible repeat (first | apply Kd.R_alloc | apply Kd.R_drewN | apply Kd.R_drew)); exact Kd.R_mono (Kd.R_far (p := ⟨gb158, 2, none⟩) (Kd.R_far (p := ⟨gb158, 1, none⟩) (Kd.R_far (p := ⟨gb158, 0, none⟩) (Kd.R_types HO_3.out BK158.out (by decide)) (fun _ hk => hk.2) (.int .i64 ((rd_T33 l0 x11_1).f0))) (fun _ hk => hk.2) (.string ((rd_T33 l0 x11_1).f1))) (fun _ hk => hk.2) (.slice A157_2 ((rd_T33 l0 x11_1).f2).length c157_2)) (fun _ hk => trivial)⟩, ⟨by repeat (first | (with_reducible first | exact HB.out | apply below_alloc | apply pw_below_drewN | apply below_drew1 | refine below_set ?_ GE158.out) | exact HB.out)⟩⟩
                  · rw [if_neg c33] at H
                    have c33b0 : (((rd_T33 l0 x11_1).f0) == 3) = false := beq_eq_false_iff_ne.mpr c33
                    have c33b1 : (((rd_T33 l0 x11_1).f0) != 3) = true := bne_iff_ne.mpr c33
                    by_cases c37 : ((rd_T33 l0 x11_1).f0) = 4
                    · rw [if_pos c37] at H
                      have c37b0 : (((rd_T33 l0 x11_1).f0) == 4) = true := beq_iff_eq.mpr c37
                      have c37b1 : (((rd_T33 l0 x11_1).f0) != 4) = false := bne_eq_false_iff_eq.mpr c37
                      clear c37
                      have H' := Aside0.mk H
                      clear H
                      have p157 : 0 ≤ (x11_1 : Int) := of_decide_eq_true (by first | (with_reducible assumption) | assumption)
                      have q157 : x11_1 < (l0.length : Int) := of_decide_eq_true (by first | (with_reducible assumption) | assumption)
                      obtain ⟨ad157, A157_2, c157_2, e157, hx157_0, hx157_1, hx157_2, hl157_2, hi157_2⟩ := at_T33 HR0.out x11_1 p157 q157
                      cases e157
                      replace hx157_0 := (HB.out.cell (World.block_lt_of_cell? w _ hx157_0)).trans hx157_0
                      replace hx157_1 := (HB.out.cell (World.block_lt_of_cell? w _ hx157_1)).trans hx157_1
                      replace hx157_2 := (HB.out.cell (World.block_lt_of_cell? w _ hx157_2)).trans hx157_2
                      have HR157_2 := Aside0.mk hi157_2
                      have HC157_2 := Aside0.mk hl157_2
                      clear hi157_2 hl157_2
                      replace p157 := eq_true p157
                      replace q157 := eq_true q157
                      go_wp2_with (first | ((with_reducible refine gate_dst (N := 6) rfl ?_); (try (refine gate_guard (by rfl) ?_; dsimp only)); refine box_event ?hg (N := 6) ?hd (cs := #[.int .i64 0, .string (⟨#[]⟩ : ByteArray), .slice none 0 0]) (t := 33) ?hr ?_; (case hd => rfl); (case hg => rfl); (case hr => first | (go_simp; done) | (go_simp; rfl)); intro gb158 hg w38 hbox hb; have n0_ := Aside0.mk (Kd.R_below (by (with_reducible repeat (first | apply Kd.R_alloc | apply Kd.R_drewN | apply Kd.R_drew)); exact HO_3.out) hb); have n1_ := Aside0.mk (below_step (by repeat (first | (with_reducible first | exact HB.out | apply below_alloc | apply pw_below_drewN | apply below_drew1) | exact HB.out)) hb); have n2_ := Aside0.mk (hbox); have n3_ := Aside0.mk ((by rw [hg]; exact (below_size (by repeat (first | (with_reducible first | exact HB.out | apply below_alloc | apply pw_below_drewN | apply below_drew1) | exact HB.out))) : w.heap.size ≤ gb158)); have n4_ := Aside0.mk ((by rw [hg]; exact (below_size (by repeat (first | (with_reducible first | exact HB.out | apply below_alloc | apply pw_below_drewN | apply below_drew1) | exact HB.out))) : w.heap.size ≤ gb158)); clear HO_3; clear HB; have HO_3 := n0_; have HB := n1_; have BK158 := n2_; have GW158 := n3_; have GE158 := n4_; clear n0_ n1_ n2_ n3_ n4_; clear hb hbox hg; have hcz39_0 : w38.cell? ⟨gb158, 0, none⟩ = some (.int .i64 0) := (blk_cell BK158.out 0).trans rfl; have hcz39_1 : w38.cell? ⟨gb158, 1, none⟩ = some (.string (⟨#[]⟩ : ByteArray)) := (blk_cell BK158.out 1).trans rfl; have hcz39_2 : w38.cell? ⟨gb158, 2, none⟩ = some (.slice none 0 0) := (blk_cell BK158.out 2).trans rfl; have hfz39_0 := blk_frozen BK158.out 0; have hfz39_1 := blk_frozen BK158.out 1; have hfz39_2 := blk_frozen BK158.out 2))
                      go_roundg k1
                      case measure => have := HK1.out; omega
                      case rel => exact ⟨(x3_1), (0), (wrap64 (x11_1 + 1)), (by first | rfl | (simp; done) | (simp [*]; done)), (by first | rfl | (simp; done) | (simp [*]; done)), H', ⟨by have := HK1.out; omega⟩, ⟨by (with_reducible repeat (first | apply Kd.R_alloc | apply Kd.R_drewN | apply Kd.R_drew)); exact Kd.R_mono (Kd.R_far (p := ⟨gb158, 2, none⟩) (Kd.R_far (p := ⟨gb158, 1, none⟩) (Kd.R_far (p := ⟨gb158, 0, none⟩) (Kd.R_types HO_3.out BK158.out (by decide)) (fun _ hk => hk.2) (.int .i64 ((rd_T33 l0 x11_1).f0))) (fun _ hk => hk.2) (.string ((rd_T33 l0 x11_1).f1))) (fun _ hk => hk.2) (.slice A157_2 ((rd_T33 l0 x11_1).f2).length c157_2)) (fun _ hk => trivial)⟩, ⟨by repeat (first | (with_reducible first | exact HB.out | apply below_alloc | apply pw_below_drewN | apply below_drew1 | refine below_set ?_ GE158.out) | exact HB.out)⟩⟩
                    · rw [if_neg c37] at H
                      have c37b0 : (((rd_T33 l0 x11_1).f0) == 4) = false := beq_eq_false_iff_ne.mpr c37
                      have c37b1 : (((rd_T33 l0 x11_1).f0) != 4) = true := bne_iff_ne.mpr c37
                      by_cases c40 : ((rd_T33 l0 x11_1).f0) = 5
                      · rw [if_pos c40] at H
                        have c40b0 : (((rd_T33 l0 x11_1).f0) == 5) = true := beq_iff_eq.mpr c40
                        have c40b1 : (((rd_T33 l0 x11_1).f0) != 5) = false := bne_eq_false_iff_eq.mpr c40
                        clear c40
                        have H' := Aside0.mk H
                        clear H
                        have p157 : 0 ≤ (x11_1 : Int) := of_decide_eq_true (by first | (with_reducible assumption) | assumption)
                        have q157 : x11_1 < (l0.length : Int) := of_decide_eq_true (by first | (with_reducible assumption) | assumption)
                        obtain ⟨ad157, A157_2, c157_2, e157, hx157_0, hx157_1, hx157_2, hl157_2, hi157_2⟩ := at_T33 HR0.out x11_1 p157 q157
                        cases e157
                        replace hx157_0 := (HB.out.cell (World.block_lt_of_cell? w _ hx157_0)).trans hx157_0
                        replace hx157_1 := (HB.out.cell (World.block_lt_of_cell? w _ hx157_1)).trans hx157_1
                        replace hx157_2 := (HB.out.cell (World.block_lt_of_cell? w _ hx157_2)).trans hx157_2
                        have HR157_2 := Aside0.mk hi157_2
                        have HC157_2 := Aside0.mk hl157_2
                        clear hi157_2 hl157_2
                        replace p157 := eq_true p157
                        replace q157 := eq_true q157
                        go_wp2_with (first | ((with_reducible refine gate_dst (N := 6) rfl ?_); (try (refine gate_guard (by rfl) ?_; dsimp only)); refine box_event ?hg (N := 6) ?hd (cs := #[.int .i64 0, .string (⟨#[]⟩ : ByteArray), .slice none 0 0]) (t := 33) ?hr ?_; (case hd => rfl); (case hg => rfl); (case hr => first | (go_simp; done) | (go_simp; rfl)); intro gb158 hg w41 hbox hb; have n0_ := Aside0.mk (Kd.R_below (by (with_reducible repeat (first | apply Kd.R_alloc | apply Kd.R_drewN | apply Kd.R_drew)); exact HO_3.out) hb); have n1_ := Aside0.mk (below_step (by repeat (first | (with_reducible first | exact HB.out | apply below_alloc | apply pw_below_drewN | apply below_drew1) | exact HB.out)) hb); have n2_ := Aside0.mk (hbox); have n3_ := Aside0.mk ((by rw [hg]; exact (below_size (by repeat (first | (with_reducible first | exact HB.out | apply below_alloc | apply pw_below_drewN | apply below_drew1) | exact HB.out))) : w.heap.size ≤ gb158)); have n4_ := Aside0.mk ((by rw [hg]; exact (below_size (by repeat (first | (with_reducible first | exact HB.out | apply below_alloc | apply pw_below_drewN | apply below_drew1) | exact HB.out))) : w.heap.size ≤ gb158)); clear HO_3; clear HB; have HO_3 := n0_; have HB := n1_; have BK158 := n2_; have GW158 := n3_; have GE158 := n4_; clear n0_ n1_ n2_ n3_ n4_; clear hb hbox hg; have hcz42_0 : w41.cell? ⟨gb158, 0, none⟩ = some (.int .i64 0) := (blk_cell BK158.out 0).trans rfl; have hcz42_1 : w41.cell? ⟨gb158, 1, none⟩ = some (.string (⟨#[]⟩ : ByteArray)) := (blk_cell BK158.out 1).trans rfl; have hcz42_2 : w41.cell? ⟨gb158, 2, none⟩ = some (.slice none 0 0) := (blk_cell BK158.out 2).trans rfl; have hfz42_0 := blk_frozen BK158.out 0; have hfz42_1 := blk_frozen BK158.out 1; have hfz42_2 := blk_frozen BK158.out 2))
                        go_roundg k1
                        case measure => have := HK1.out; omega
                        case rel => exact ⟨(([] : List (S54))), (0), (wrap64 (x11_1 + 1)), (by first | rfl | (simp; done) | (simp [*]; done)), (by first | rfl | (simp; done) | (simp [*]; done)), H', ⟨by have := HK1.out; omega⟩, ⟨by first | exact Kd.R_nil _ _ _ _ _ | exact Kd.N_nil _ _ _ _ _ | exact Kd.V_nil _ _ _ _ _ | exact Kd.Q_nil _ _ _ _ _ | exact Kd.S_nil _ _ _ _ _⟩, ⟨by repeat (first | (with_reducible first | exact HB.out | apply below_alloc | apply pw_below_drewN | apply below_drew1 | refine below_set ?_ GE158.out) | exact HB.out)⟩⟩
                      · rw [if_neg c40] at H
                        have c40b0 : (((rd_T33 l0 x11_1).f0) == 5) = false := beq_eq_false_iff_ne.mpr c40
                        have c40b1 : (((rd_T33 l0 x11_1).f0) != 5) = true := bne_iff_ne.mpr c40
                        have H' := Aside0.mk H
                        clear H
                        have p157 : 0 ≤ (x11_1 : Int) := of_decide_eq_true (by first | (with_reducible assumption) | assumption)
                        have q157 : x11_1 < (l0.length : Int) := of_decide_eq_true (by first | (with_reducible assumption) | assumption)
                        obtain ⟨ad157, A157_2, c157_2, e157, hx157_0, hx157_1, hx157_2, hl157_2, hi157_2⟩ := at_T33 HR0.out x11_1 p157 q157
                        cases e157
                        replace hx157_0 := (HB.out.cell (World.block_lt_of_cell? w _ hx157_0)).trans hx157_0
                        replace hx157_1 := (HB.out.cell (World.block_lt_of_cell? w _ hx157_1)).trans hx157_1
                        replace hx157_2 := (HB.out.cell (World.block_lt_of_cell? w _ hx157_2)).trans hx157_2
                        have HR157_2 := Aside0.mk hi157_2
                        have HC157_2 := Aside0.mk hl157_2
                        clear hi157_2 hl157_2
                        replace p157 := eq_true p157
                        replace q157 := eq_true q157
                        go_wp2_with (first | ((with_reducible refine gate_dst (N := 6) rfl ?_); (try (refine gate_guard (by rfl) ?_; dsimp only)); refine box_event ?hg (N := 6) ?hd (cs := #[.int .i64 0, .string (⟨#[]⟩ : ByteArray), .slice none 0 0]) (t := 33) ?hr ?_; (case hd => rfl); (case hg => rfl); (case hr => first | (go_simp; done) | (go_simp; rfl)); intro gb158 hg w43 hbox hb; have n0_ := Aside0.mk (Kd.R_below (by (with_reducible repeat (first | apply Kd.R_alloc | apply Kd.R_drewN | apply Kd.R_drew)); exact HO_3.out) hb); have n1_ := Aside0.mk (below_step (by repeat (first | (with_reducible first | exact HB.out | apply below_alloc | apply pw_below_drewN | apply below_drew1) | exact HB.out)) hb); have n2_ := Aside0.mk (hbox); have n3_ := Aside0.mk ((by rw [hg]; exact (below_size (by repeat (first | (with_reducible first | exact HB.out | apply below_alloc | apply pw_below_drewN | apply below_drew1) | exact HB.out))) : w.heap.size ≤ gb158)); have n4_ := Aside0.mk ((by rw [hg]; exact (below_size (by repeat (first | (with_reducible first | exact HB.out | apply below_alloc | apply pw_below_drewN | apply below_drew1) | exact HB.out))) : w.heap.size ≤ gb158)); clear HO_3; clear HB; have HO_3 := n0_; have HB := n1_; have BK158 := n2_; have GW158 := n3_; have GE158 := n4_; clear n0_ n1_ n2_ n3_ n4_; clear hb hbox hg; have hcz44_0 : w43.cell? ⟨gb158, 0, none⟩ = some (.int .i64 0) := (blk_cell BK158.out 0).trans rfl; have hcz44_1 : w43.cell? ⟨gb158, 1, none⟩ = some (.string (⟨#[]⟩ : ByteArray)) := (blk_cell BK158.out 1).trans rfl; have hcz44_2 : w43.cell? ⟨gb158, 2, none⟩ = some (.slice none 0 0) := (blk_cell BK158.out 2).trans rfl; have hfz44_0 := blk_frozen BK158.out 0; have hfz44_1 := blk_frozen BK158.out 1; have hfz44_2 := blk_frozen BK158.out 2))
                        go_roundg k1
                        case measure => have := HK1.out; omega
                        case rel => exact ⟨(x3_1), (x4_1), (wrap64 (x11_1 + 1)), (by first | rfl | (simp; done) | (simp [*]; done)), (by first | rfl | (simp; done) | (simp [*]; done)), H', ⟨by have := HK1.out; omega⟩, ⟨by (with_reducible repeat (first | apply Kd.R_alloc | apply Kd.R_drewN | apply Kd.R_drew)); exact Kd.R_mono (Kd.R_far (p := ⟨gb158, 2, none⟩) (Kd.R_far (p := ⟨gb158, 1, none⟩) (Kd.R_far (p := ⟨gb158, 0, none⟩) (Kd.R_types HO_3.out BK158.out (by decide)) (fun _ hk => hk.2) (.int .i64 ((rd_T33 l0 x11_1).f0))) (fun _ hk => hk.2) (.string ((rd_T33 l0 x11_1).f1))) (fun _ hk => hk.2) (.slice A157_2 ((rd_T33 l0 x11_1).f2).length c157_2)) (fun _ hk => trivial)⟩, ⟨by repeat (first | (with_reducible first | exact HB.out | apply below_alloc | apply pw_below_drewN | apply below_drew1 | refine below_set ?_ GE158.out) | exact HB.out)⟩⟩
          · rw [if_neg c4] at H
            exact absurd H (by simp)
        · rw [if_neg c3] at H
          exact absurd H (by simp)
      · rw [if_neg c2] at H
        have c2b0 : decide (x11_1 < (l0.length : Int)) = false := decide_eq_false c2
        clear c2
        obtain rfl := Option.some.inj H
        go_wp2
        go_ret
        exact ⟨_, by first | rfl | (simp [errW_none, errW_some] <;> rfl) | (simp [*, errW_none, errW_some] <;> rfl), by (with_reducible repeat (first | apply Kd.R_alloc | apply Kd.R_drewN | apply Kd.R_drew)); exact HO_3.out, by repeat (first | (with_reducible first | exact HB.out | apply below_alloc | apply pw_below_drewN | apply below_drew1) | exact HB.out)⟩

/-! ### spec_LtStar: function 13 -/
def spec_LtStar.f (a0 : ByteArray) (a1 : ByteArray) : Option (Int × ByteArray × ByteArray × ByteArray × ByteArray × ByteArray × ByteArray × ByteArray × ByteArray) := some (0, (⟨#[42]⟩ : ByteArray), (⟨#[42]⟩ : ByteArray), (⟨#[42]⟩ : ByteArray), (⟨#[42]⟩ : ByteArray), (⟨#[32, 32]⟩ : ByteArray), (⟨#[42]⟩ : ByteArray), a1, a0)
set_option maxHeartbeats 8000000 in
set_option maxRecDepth 100000 in
theorem spec_LtStar.calls (a0 : ByteArray) (a1 : ByteArray) (r1 : Int) (r2 : ByteArray) (r3 : ByteArray) (r4 : ByteArray) (r5 : ByteArray) (r6 : ByteArray) (r7 : ByteArray) (r8 : ByteArray) (r9 : ByteArray) (w : World) (h : spec_LtStar.f a0 a1 = some (r1, r2, r3, r4, r5, r6, r7, r8, r9)) :
    Calls Tryd.prog 13 #[.string a0, .string a1] w fun e w' => e = .returned (.agg #[.int .i64 r1, .string r2, .string r3, .string r4, .string r5, .string r6, .string r7, .string r8, .string r9]) ∧ Below w.heap.size w w' := by
  have hu29 := Tryd.underlying29
  have HB := Aside0.mk (Below.refl w.heap.size w)
  have H : (some (0, (⟨#[42]⟩ : ByteArray), (⟨#[42]⟩ : ByteArray), (⟨#[42]⟩ : ByteArray), (⟨#[42]⟩ : ByteArray), (⟨#[32, 32]⟩ : ByteArray), (⟨#[42]⟩ : ByteArray), a1, a0)) = some (r1, r2, r3, r4, r5, r6, r7, r8, r9) := h
  clear h
  simp only [Option.some.injEq, Prod.mk.injEq] at H
  obtain ⟨rfl, rfl, rfl, rfl, rfl, rfl, rfl, rfl, rfl⟩ := H
  go_enter Tryd.func13, Tryd.ntmps13
  go_wp2_with (first | ((with_reducible refine gate_dst (N := 4) rfl ?_); refine box_event ?hg (N := 4) ?hd (cs := #[.int .i64 0, .string (⟨#[]⟩ : ByteArray), .string (⟨#[]⟩ : ByteArray), .string (⟨#[]⟩ : ByteArray), .string (⟨#[]⟩ : ByteArray), .string (⟨#[]⟩ : ByteArray), .string (⟨#[]⟩ : ByteArray), .string (⟨#[]⟩ : ByteArray), .string (⟨#[]⟩ : ByteArray)]) (t := 29) ?hr ?_; (case hd => rfl); (case hg => rfl); (case hr => first | (go_simp; done) | (go_simp; rfl)); intro gb167 hg w3 hbox hb; have n0_ := Aside0.mk (below_step (by repeat (first | (with_reducible first | exact HB.out | apply below_alloc | apply pw_below_drewN | apply below_drew1) | exact HB.out)) hb); have n1_ := Aside0.mk (hbox); have n2_ := Aside0.mk ((by rw [hg]; exact (below_size (by repeat (first | (with_reducible first | exact HB.out | apply below_alloc | apply pw_below_drewN | apply below_drew1) | exact HB.out))) : w.heap.size ≤ gb167)); have n3_ := Aside0.mk ((by rw [hg]; exact (below_size (by repeat (first | (with_reducible first | exact HB.out | apply below_alloc | apply pw_below_drewN | apply below_drew1) | exact HB.out))) : w.heap.size ≤ gb167)); clear HB; have HB := n0_; have BK167 := n1_; have GW167 := n2_; have GE167 := n3_; clear n0_ n1_ n2_ n3_; clear hb hbox hg; have hcz4_0 : w3.cell? ⟨gb167, 0, none⟩ = some (.int .i64 0) := (blk_cell BK167.out 0).trans rfl; have hcz4_1 : w3.cell? ⟨gb167, 1, none⟩ = some (.string (⟨#[]⟩ : ByteArray)) := (blk_cell BK167.out 1).trans rfl; have hcz4_2 : w3.cell? ⟨gb167, 2, none⟩ = some (.string (⟨#[]⟩ : ByteArray)) := (blk_cell BK167.out 2).trans rfl; have hcz4_3 : w3.cell? ⟨gb167, 3, none⟩ = some (.string (⟨#[]⟩ : ByteArray)) := (blk_cell BK167.out 3).trans rfl; have hcz4_4 : w3.cell? ⟨gb167, 4, none⟩ = some (.string (⟨#[]⟩ : ByteArray)) := (blk_cell BK167.out 4).trans rfl; have hcz4_5 : w3.cell? ⟨gb167, 5, none⟩ = some (.string (⟨#[]⟩ : ByteArray)) := (blk_cell BK167.out 5).trans rfl; have hcz4_6 : w3.cell? ⟨gb167, 6, none⟩ = some (.string (⟨#[]⟩ : ByteArray)) := (blk_cell BK167.out 6).trans rfl; have hcz4_7 : w3.cell? ⟨gb167, 7, none⟩ = some (.string (⟨#[]⟩ : ByteArray)) := (blk_cell BK167.out 7).trans rfl; have hcz4_8 : w3.cell? ⟨gb167, 8, none⟩ = some (.string (⟨#[]⟩ : ByteArray)) := (blk_cell BK167.out 8).trans rfl; have hfz4_0 := blk_frozen BK167.out 0; have hfz4_1 := blk_frozen BK167.out 1; have hfz4_2 := blk_frozen BK167.out 2; have hfz4_3 := blk_frozen BK167.out 3; have hfz4_4 := blk_frozen BK167.out 4; have hfz4_5 := blk_frozen BK167.out 5; have hfz4_6 := blk_frozen BK167.out 6; have hfz4_7 := blk_frozen BK167.out 7; have hfz4_8 := blk_frozen BK167.out 8))
  refine bodyPost_ret (results_cell_row rfl _ _ gb167 29 #[.int .i64 0, .string (⟨#[42]⟩ : ByteArray), .string (⟨#[42]⟩ : ByteArray), .string (⟨#[42]⟩ : ByteArray), .string (⟨#[42]⟩ : ByteArray), .string (⟨#[32, 32]⟩ : ByteArray), .string (⟨#[42]⟩ : ByteArray), .string a1, .string a0] (0, 0) _ rfl (by (with_reducible repeat (first | refine blk_drewN ?_ _ | refine blk_drew ?_ | refine blk_alloc ?_ _)); refine blk_put (cs := #[.int .i64 0, .string (⟨#[42]⟩ : ByteArray), .string (⟨#[42]⟩ : ByteArray), .string (⟨#[42]⟩ : ByteArray), .string (⟨#[42]⟩ : ByteArray), .string (⟨#[32, 32]⟩ : ByteArray), .string (⟨#[42]⟩ : ByteArray), .string a1, .string (⟨#[]⟩ : ByteArray)]) ?_ 8 _ rfl; (with_reducible repeat (first | refine blk_drewN ?_ _ | refine blk_drew ?_ | refine blk_alloc ?_ _)); refine blk_put (cs := #[.int .i64 0, .string (⟨#[42]⟩ : ByteArray), .string (⟨#[42]⟩ : ByteArray), .string (⟨#[42]⟩ : ByteArray), .string (⟨#[42]⟩ : ByteArray), .string (⟨#[32, 32]⟩ : ByteArray), .string (⟨#[42]⟩ : ByteArray), .string (⟨#[]⟩ : ByteArray), .string (⟨#[]⟩ : ByteArray)]) ?_ 7 _ rfl; (with_reducible repeat (first | refine blk_drewN ?_ _ | refine blk_drew ?_ | refine blk_alloc ?_ _)); refine blk_put (cs := #[.int .i64 0, .string (⟨#[42]⟩ : ByteArray), .string (⟨#[42]⟩ : ByteArray), .string (⟨#[42]⟩ : ByteArray), .string (⟨#[42]⟩ : ByteArray), .string (⟨#[32, 32]⟩ : ByteArray), .string (⟨#[]⟩ : ByteArray), .string (⟨#[]⟩ : ByteArray), .string (⟨#[]⟩ : ByteArray)]) ?_ 6 _ rfl; (with_reducible repeat (first | refine blk_drewN ?_ _ | refine blk_drew ?_ | refine blk_alloc ?_ _)); refine blk_put (cs := #[.int .i64 0, .string (⟨#[42]⟩ : ByteArray), .string (⟨#[42]⟩ : ByteArray), .string (⟨#[42]⟩ : ByteArray), .string (⟨#[42]⟩ : ByteArray), .string (⟨#[]⟩ : ByteArray), .string (⟨#[]⟩ : ByteArray), .string (⟨#[]⟩ : ByteArray), .string (⟨#[]⟩ : ByteArray)]) ?_ 5 _ rfl; (with_reducible repeat (first | refine blk_drewN ?_ _ | refine blk_drew ?_ | refine blk_alloc ?_ _)); refine blk_put (cs := #[.int .i64 0, .string (⟨#[42]⟩ : ByteArray), .string (⟨#[42]⟩ : ByteArray), .string (⟨#[42]⟩ : ByteArray), .string (⟨#[]⟩ : ByteArray), .string (⟨#[]⟩ : ByteArray), .string (⟨#[]⟩ : ByteArray), .string (⟨#[]⟩ : ByteArray), .string (⟨#[]⟩ : ByteArray)]) ?_ 4 _ rfl; (with_reducible repeat (first | refine blk_drewN ?_ _ | refine blk_drew ?_ | refine blk_alloc ?_ _)); refine blk_put (cs := #[.int .i64 0, .string (⟨#[42]⟩ : ByteArray), .string (⟨#[42]⟩ : ByteArray), .string (⟨#[]⟩ : ByteArray), .string (⟨#[]⟩ : ByteArray), .string (⟨#[]⟩ : ByteArray), .string (⟨#[]⟩ : ByteArray), .string (⟨#[]⟩ : ByteArray), .string (⟨#[]⟩ : ByteArray)]) ?_ 3 _ rfl; (with_reducible repeat (first | refine blk_drewN ?_ _ | refine blk_drew ?_ | refine blk_alloc ?_ _)); refine blk_put (cs := #[.int .i64 0, .string (⟨#[42]⟩ : ByteArray), .string (⟨#[]⟩ : ByteArray), .string (⟨#[]⟩ : ByteArray), .string (⟨#[]⟩ : ByteArray), .string (⟨#[]⟩ : ByteArray), .string (⟨#[]⟩ : ByteArray), .string (⟨#[]⟩ : ByteArray), .string (⟨#[]⟩ : ByteArray)]) ?_ 2 _ rfl; (with_reducible repeat (first | refine blk_drewN ?_ _ | refine blk_drew ?_ | refine blk_alloc ?_ _)); refine blk_put (cs := #[.int .i64 0, .string (⟨#[]⟩ : ByteArray), .string (⟨#[]⟩ : ByteArray), .string (⟨#[]⟩ : ByteArray), .string (⟨#[]⟩ : ByteArray), .string (⟨#[]⟩ : ByteArray), .string (⟨#[]⟩ : ByteArray), .string (⟨#[]⟩ : ByteArray), .string (⟨#[]⟩ : ByteArray)]) ?_ 1 _ rfl; (with_reducible repeat (first | refine blk_drewN ?_ _ | refine blk_drew ?_ | refine blk_alloc ?_ _)); refine blk_put (cs := #[.int .i64 0, .string (⟨#[]⟩ : ByteArray), .string (⟨#[]⟩ : ByteArray), .string (⟨#[]⟩ : ByteArray), .string (⟨#[]⟩ : ByteArray), .string (⟨#[]⟩ : ByteArray), .string (⟨#[]⟩ : ByteArray), .string (⟨#[]⟩ : ByteArray), .string (⟨#[]⟩ : ByteArray)]) ?_ 0 _ rfl; (with_reducible repeat (first | refine blk_drewN ?_ _ | refine blk_drew ?_ | refine blk_alloc ?_ _)); exact BK167.out) Tryd.underlying29 rfl (by kernel_rfl)) rfl ?_
  exact ⟨by first | rfl | (simp [errW_none, errW_some] <;> rfl) | (have e_ : ∀ l_ : List UInt8, (l_ != []) = !l_.isEmpty := fun l_ => (by cases l_ <;> rfl); simp [errW_none, errW_some, e_]; done) | (simp [*, errW_none, errW_some] <;> rfl), by repeat (first | (with_reducible first | exact HB.out | apply below_alloc | apply pw_below_drewN | apply below_drew1 | refine below_set ?_ GE167.out) | exact HB.out)⟩

/-! ### laws_FnListsPlain: function 3 -/
def laws_FnListsPlain.f (k : Nat) (l0 : List (S33)) : Option (Bool) := (laws_zzFits11.f k l0).bind fun t168 => (if t168 = true then ((spec_LtRight.f k l0).bind fun t169 => (if t169 = true then ((impl_ListPlain.f l0).bind fun t170 => ((spec_LtPlayed.f k l0).bind fun t171 => ((spec_LtStar.f (⟨#[]⟩ : ByteArray) (⟨#[10]⟩ : ByteArray)).bind fun bt174 => ((spec_LtDrawn.f k t171 bt174.1 bt174.2.1 bt174.2.2.1 bt174.2.2.2.1 bt174.2.2.2.2.1 bt174.2.2.2.2.2.1 bt174.2.2.2.2.2.2.1 bt174.2.2.2.2.2.2.2.1 bt174.2.2.2.2.2.2.2.2).bind fun t183 => (if t170.toList = t183.toList then ((impl_ListPlain.f (([(⟨0, (⟨#[97]⟩ : ByteArray), ([] : List ByteArray)⟩ : S33)] : List (S33)))).bind fun t187 => (some (t187.toList == ([42, 32, 97] : List UInt8)))) else (some false)))))) else (some true))) else (some true))
theorem laws_FnListsPlain.mono : ∀ a0 k, LeO (laws_FnListsPlain.f k a0) (laws_FnListsPlain.f (k + 1) a0) := by
  intro a0 k
  unfold laws_FnListsPlain.f
  repeat' first
      | (with_reducible exact laws_zzFits11.mono _ _)
      | (with_reducible exact spec_LtDrawn.mono _ _ _ _ _ _ _ _ _ _ _)
      | (with_reducible exact spec_LtPlayed.mono _ _)
      | (with_reducible exact spec_LtRight.mono _ _)
      | (with_reducible exact LeO.refl _)
      | (with_reducible exact LeO.none _)
      | (with_reducible refine LeO.ite ?_ ?_)
      | (with_reducible refine LeO.bind ?_ (fun _ => ?_))
      | exact laws_zzFits11.mono _ _
      | exact spec_LtDrawn.mono _ _ _ _ _ _ _ _ _ _ _
      | exact spec_LtPlayed.mono _ _
      | exact spec_LtRight.mono _ _
      | exact LeO.none _
      | refine LeO.ite ?_ ?_
      | refine LeO.bind ?_ (fun _ => ?_)
set_option maxHeartbeats 8000000 in
set_option maxRecDepth 100000 in
theorem laws_FnListsPlain.calls (k : Nat) (A0 : Option Addr) (c0 : Nat) (l0 : List (S33)) (r : Bool) (w : World) (hr0 : Kd.C k33 w A0 l0.length l0) (hc0 : l0.length ≤ c0) (h : laws_FnListsPlain.f k l0 = some r) :
    Calls Tryd.prog 3 #[.slice A0 l0.length c0] w fun e w' => e = .returned (.bool r) ∧ Below w.heap.size w w' := by
  have hu33 := Tryd.underlying33
  have HR0 := Aside0.mk hr0
  have HC0 := Aside0.mk hc0
  clear hr0 hc0
  have HB := Aside0.mk (Below.refl w.heap.size w)
  have H : ((laws_zzFits11.f k l0).bind fun t168 => (if t168 = true then ((spec_LtRight.f k l0).bind fun t169 => (if t169 = true then ((impl_ListPlain.f l0).bind fun t170 => ((spec_LtPlayed.f k l0).bind fun t171 => ((spec_LtStar.f (⟨#[]⟩ : ByteArray) (⟨#[10]⟩ : ByteArray)).bind fun bt174 => ((spec_LtDrawn.f k t171 bt174.1 bt174.2.1 bt174.2.2.1 bt174.2.2.2.1 bt174.2.2.2.2.1 bt174.2.2.2.2.2.1 bt174.2.2.2.2.2.2.1 bt174.2.2.2.2.2.2.2.1 bt174.2.2.2.2.2.2.2.2).bind fun t183 => (if t170.toList = t183.toList then ((impl_ListPlain.f (([(⟨0, (⟨#[97]⟩ : ByteArray), ([] : List ByteArray)⟩ : S33)] : List (S33)))).bind fun t187 => (some (t187.toList == ([42, 32, 97] : List UInt8)))) else (some false)))))) else (some true))) else (some true))) = some r := h
  clear h
  replace H := Option.bind_eq_some_iff.mp H
  obtain ⟨t168, A20, H⟩ := H
  replace H : (if t168 = true then ((spec_LtRight.f k l0).bind fun t169 => (if t169 = true then ((impl_ListPlain.f l0).bind fun t170 => ((spec_LtPlayed.f k l0).bind fun t171 => ((spec_LtStar.f (⟨#[]⟩ : ByteArray) (⟨#[10]⟩ : ByteArray)).bind fun bt174 => ((spec_LtDrawn.f k t171 bt174.1 bt174.2.1 bt174.2.2.1 bt174.2.2.2.1 bt174.2.2.2.2.1 bt174.2.2.2.2.2.1 bt174.2.2.2.2.2.2.1 bt174.2.2.2.2.2.2.2.1 bt174.2.2.2.2.2.2.2.2).bind fun t183 => (if t170.toList = t183.toList then ((impl_ListPlain.f (([(⟨0, (⟨#[97]⟩ : ByteArray), ([] : List ByteArray)⟩ : S33)] : List (S33)))).bind fun t187 => (some (t187.toList == ([42, 32, 97] : List UInt8)))) else (some false)))))) else (some true))) else (some true)) = some r := H
  have A2 := Aside0.mk A20
  clear A20
  by_cases c3 : t168 = true
  · subst c3
    have H1 : ((spec_LtRight.f k l0).bind fun t169 => (if t169 = true then ((impl_ListPlain.f l0).bind fun t170 => ((spec_LtPlayed.f k l0).bind fun t171 => ((spec_LtStar.f (⟨#[]⟩ : ByteArray) (⟨#[10]⟩ : ByteArray)).bind fun bt174 => ((spec_LtDrawn.f k t171 bt174.1 bt174.2.1 bt174.2.2.1 bt174.2.2.2.1 bt174.2.2.2.2.1 bt174.2.2.2.2.2.1 bt174.2.2.2.2.2.2.1 bt174.2.2.2.2.2.2.2.1 bt174.2.2.2.2.2.2.2.2).bind fun t183 => (if t170.toList = t183.toList then ((impl_ListPlain.f (([(⟨0, (⟨#[97]⟩ : ByteArray), ([] : List ByteArray)⟩ : S33)] : List (S33)))).bind fun t187 => (some (t187.toList == ([42, 32, 97] : List UInt8)))) else (some false)))))) else (some true))) = some r := by rw [if_pos rfl] at H; exact H
    clear H
    have H := H1
    clear H1
    replace H := Option.bind_eq_some_iff.mp H
    obtain ⟨t169, A40, H⟩ := H
    replace H : (if t169 = true then ((impl_ListPlain.f l0).bind fun t170 => ((spec_LtPlayed.f k l0).bind fun t171 => ((spec_LtStar.f (⟨#[]⟩ : ByteArray) (⟨#[10]⟩ : ByteArray)).bind fun bt174 => ((spec_LtDrawn.f k t171 bt174.1 bt174.2.1 bt174.2.2.1 bt174.2.2.2.1 bt174.2.2.2.2.1 bt174.2.2.2.2.2.1 bt174.2.2.2.2.2.2.1 bt174.2.2.2.2.2.2.2.1 bt174.2.2.2.2.2.2.2.2).bind fun t183 => (if t170.toList = t183.toList then ((impl_ListPlain.f (([(⟨0, (⟨#[97]⟩ : ByteArray), ([] : List ByteArray)⟩ : S33)] : List (S33)))).bind fun t187 => (some (t187.toList == ([42, 32, 97] : List UInt8)))) else (some false)))))) else (some true)) = some r := H
    have A4 := Aside0.mk A40
    clear A40
    by_cases c5 : t169 = true
    · subst c5
      have H1 : ((impl_ListPlain.f l0).bind fun t170 => ((spec_LtPlayed.f k l0).bind fun t171 => ((spec_LtStar.f (⟨#[]⟩ : ByteArray) (⟨#[10]⟩ : ByteArray)).bind fun bt174 => ((spec_LtDrawn.f k t171 bt174.1 bt174.2.1 bt174.2.2.1 bt174.2.2.2.1 bt174.2.2.2.2.1 bt174.2.2.2.2.2.1 bt174.2.2.2.2.2.2.1 bt174.2.2.2.2.2.2.2.1 bt174.2.2.2.2.2.2.2.2).bind fun t183 => (if t170.toList = t183.toList then ((impl_ListPlain.f (([(⟨0, (⟨#[97]⟩ : ByteArray), ([] : List ByteArray)⟩ : S33)] : List (S33)))).bind fun t187 => (some (t187.toList == ([42, 32, 97] : List UInt8)))) else (some false)))))) = some r := by rw [if_pos rfl] at H; exact H
      clear H
      have H := H1
      clear H1
      replace H := Option.bind_eq_some_iff.mp H
      obtain ⟨t170, A60, H⟩ := H
      replace H : ((spec_LtPlayed.f k l0).bind fun t171 => ((spec_LtStar.f (⟨#[]⟩ : ByteArray) (⟨#[10]⟩ : ByteArray)).bind fun bt174 => ((spec_LtDrawn.f k t171 bt174.1 bt174.2.1 bt174.2.2.1 bt174.2.2.2.1 bt174.2.2.2.2.1 bt174.2.2.2.2.2.1 bt174.2.2.2.2.2.2.1 bt174.2.2.2.2.2.2.2.1 bt174.2.2.2.2.2.2.2.2).bind fun t183 => (if t170.toList = t183.toList then ((impl_ListPlain.f (([(⟨0, (⟨#[97]⟩ : ByteArray), ([] : List ByteArray)⟩ : S33)] : List (S33)))).bind fun t187 => (some (t187.toList == ([42, 32, 97] : List UInt8)))) else (some false))))) = some r := H
      have A6 := Aside0.mk A60
      clear A60
      replace H := Option.bind_eq_some_iff.mp H
      obtain ⟨t171, A70, H⟩ := H
      replace H : ((spec_LtStar.f (⟨#[]⟩ : ByteArray) (⟨#[10]⟩ : ByteArray)).bind fun bt174 => ((spec_LtDrawn.f k t171 bt174.1 bt174.2.1 bt174.2.2.1 bt174.2.2.2.1 bt174.2.2.2.2.1 bt174.2.2.2.2.2.1 bt174.2.2.2.2.2.2.1 bt174.2.2.2.2.2.2.2.1 bt174.2.2.2.2.2.2.2.2).bind fun t183 => (if t170.toList = t183.toList then ((impl_ListPlain.f (([(⟨0, (⟨#[97]⟩ : ByteArray), ([] : List ByteArray)⟩ : S33)] : List (S33)))).bind fun t187 => (some (t187.toList == ([42, 32, 97] : List UInt8)))) else (some false)))) = some r := H
      have A7 := Aside0.mk A70
      clear A70
      replace H := Option.bind_eq_some_iff.mp H
      obtain ⟨⟨t174, t175, t176, t177, t178, t179, t180, t181, t182⟩, A80, H⟩ := H
      replace H : ((spec_LtDrawn.f k t171 t174 t175 t176 t177 t178 t179 t180 t181 t182).bind fun t183 => (if t170.toList = t183.toList then ((impl_ListPlain.f (([(⟨0, (⟨#[97]⟩ : ByteArray), ([] : List ByteArray)⟩ : S33)] : List (S33)))).bind fun t187 => (some (t187.toList == ([42, 32, 97] : List UInt8)))) else (some false))) = some r := H
      have A8 := Aside0.mk A80
      clear A80
      replace H := Option.bind_eq_some_iff.mp H
      obtain ⟨t183, A90, H⟩ := H
      replace H : (if t170.toList = t183.toList then ((impl_ListPlain.f (([(⟨0, (⟨#[97]⟩ : ByteArray), ([] : List ByteArray)⟩ : S33)] : List (S33)))).bind fun t187 => (some (t187.toList == ([42, 32, 97] : List UInt8)))) else (some false)) = some r := H
      have A9 := Aside0.mk A90
      clear A90
      by_cases c10 : t170.toList = t183.toList
      · rw [if_pos c10] at H
        have c10b0 : (t170.toList == t183.toList) = true := beq_iff_eq.mpr c10
        have c10b1 : (t170.toList != t183.toList) = false := bne_eq_false_iff_eq.mpr c10
        clear c10
        obtain ⟨y184, hy184⟩ : ∃ y_ : List (S33), y_ = (([(⟨0, (⟨#[97]⟩ : ByteArray), ([] : List ByteArray)⟩ : S33)] : List (S33))) := ⟨_, rfl⟩
        replace H : ((impl_ListPlain.f y184).bind fun t187 => (some (t187.toList == ([42, 32, 97] : List UInt8)))) = some r := by first | (rw [hy184]; with_reducible exact H) | (have H2_ := (Option.bind_some _ _).symm.trans H; rw [hy184]; with_reducible exact H2_) | (have H2_ := (Option.bind_some _ _).symm.trans H; with_reducible exact H2_) | with_reducible exact H | (rw [hy184]; exact H) | exact H
        have Ny184 := Aside0.mk hy184
        clear hy184
        replace H := Option.bind_eq_some_iff.mp H
        obtain ⟨t187, A110, H⟩ := H
        replace H : (some (t187.toList == ([42, 32, 97] : List UInt8))) = some r := H
        have A11 := Aside0.mk A110
        clear A110
        obtain rfl := Option.some.inj H
        go_enter Tryd.func3, Tryd.ntmps3
        go_wp2_with (first | ((with_reducible refine gate_callee (f := 8) rfl ?_); refine goesL_ (some 4) rfl rfl Tryd.func8 (by kernel_rfl) rfl #[.slice A0 l0.length c0] rfl (by (try simp only [List.map_toArray, List.map_cons, List.map_nil]); first | done | rfl | (simp only [List.length_drop, List.length_take]; rfl)) ?_; (with_reducible refine (laws_zzFits11.calls k _ _ l0 true _ ?side1 ?side2 A2.out).mono ?_); (case side1 => repeat (first | exact HR0.out | (with_reducible refine Kd.C_alloc ?_ _) | (with_reducible refine Kd.C_drewN ?_ _) | (with_reducible refine Kd.C_drew ?_))); (case side2 => exact HC0.out); rintro e w12 ⟨rfl, hb⟩; refine ⟨_, rfl, ?_⟩; have n0_ := Aside0.mk (below_step (by repeat (first | (with_reducible first | exact HB.out | apply below_alloc | apply pw_below_drewN | apply below_drew1) | exact HB.out)) hb); clear HB; have HB := n0_; clear n0_; (try clear hb); (try clear hb2); (try clear hk); (try clear hi)) | ((with_reducible refine gate_callee (f := 9) rfl ?_); refine goesL_ (some 7) rfl rfl Tryd.func9 (by kernel_rfl) rfl #[.slice A0 l0.length c0] rfl (by (try simp only [List.map_toArray, List.map_cons, List.map_nil]); first | done | rfl | (simp only [List.length_drop, List.length_take]; rfl)) ?_; (with_reducible refine (spec_LtRight.calls k _ _ l0 true _ ?side1 ?side2 A4.out).mono ?_); (case side1 => repeat (first | exact (Kd.C_below HR0.out HB.out) | (with_reducible refine Kd.C_alloc ?_ _) | (with_reducible refine Kd.C_drewN ?_ _) | (with_reducible refine Kd.C_drew ?_))); (case side2 => exact HC0.out); rintro e w13 ⟨rfl, hb⟩; refine ⟨_, rfl, ?_⟩; have n0_ := Aside0.mk (below_step (by repeat (first | (with_reducible first | exact HB.out | apply below_alloc | apply pw_below_drewN | apply below_drew1) | exact HB.out)) hb); clear HB; have HB := n0_; clear n0_; (try clear hb); (try clear hb2); (try clear hk); (try clear hi)) | (go_at_call 10; (with_reducible refine (impl_ListPlain.calls _ _ l0 t170 _ ?side1 ?side2 A6.out).mono ?_); (case side1 => repeat (first | exact (Kd.C_below HR0.out HB.out) | (with_reducible refine Kd.C_alloc ?_ _) | (with_reducible refine Kd.C_drewN ?_ _) | (with_reducible refine Kd.C_drew ?_))); (case side2 => exact HC0.out); rintro e w14 ⟨rfl, hb⟩; have n0_ := Aside0.mk (below_step (by repeat (first | (with_reducible first | exact HB.out | apply below_alloc | apply pw_below_drewN | apply below_drew1) | exact HB.out)) hb); clear HB; have HB := n0_; clear n0_; (try clear hb); (try clear hb2); (try clear hk); (try clear hi)) | (go_at_call 12; (with_reducible refine (spec_LtPlayed.calls k _ _ l0 t171 _ ?side1 ?side2 A7.out).mono ?_); (case side1 => repeat (first | exact (Kd.C_below HR0.out HB.out) | (with_reducible refine Kd.C_alloc ?_ _) | (with_reducible refine Kd.C_drewN ?_ _) | (with_reducible refine Kd.C_drew ?_))); (case side2 => exact HC0.out); rintro e w15 ⟨v172, rfl, ho0, hb⟩; have n0_ := Aside0.mk (Kd.R_lower ho0 (below_size (by repeat (first | (with_reducible first | exact HB.out | apply below_alloc | apply pw_below_drewN | apply below_drew1) | exact HB.out)))); have n1_ := Aside0.mk (below_step (by repeat (first | (with_reducible first | exact HB.out | apply below_alloc | apply pw_below_drewN | apply below_drew1) | exact HB.out)) hb); clear HB; have HO173 := n0_; have HB := n1_; clear n0_ n1_; (try clear hb); (try clear hb2); (try clear hk); (try clear hi); (try clear ho0)) | (go_at_call 13; (with_reducible refine (spec_LtStar.calls (⟨#[]⟩ : ByteArray) (⟨#[10]⟩ : ByteArray) t174 t175 t176 t177 t178 t179 t180 t181 t182 _ A8.out).mono ?_); rintro e w16 ⟨rfl, hb⟩; have n0_ := Aside0.mk (Kd.R_below (by (with_reducible repeat (first | apply Kd.R_alloc | apply Kd.R_drewN | apply Kd.R_drew)); exact HO173.out) hb); have n1_ := Aside0.mk (below_step (by repeat (first | (with_reducible first | exact HB.out | apply below_alloc | apply pw_below_drewN | apply below_drew1) | exact HB.out)) hb); clear HO173; clear HB; have HO173 := n0_; have HB := n1_; clear n0_ n1_; (try clear hb); (try clear hb2); (try clear hk); (try clear hi); obtain ⟨Ao17, co17, eo17⟩ := Kd.R_slice HO173.out; subst eo17) | (go_at_call 11; (with_reducible refine (spec_LtDrawn.calls k _ _ t171 t174 t175 t176 t177 t178 t179 t180 t181 t182 t183 _ ?side1 ?side2 A9.out).mono ?_); (case side1 => repeat (first | exact (Kd.R_reads' HO173.out).2.2 | (with_reducible refine Kd.C_alloc ?_ _) | (with_reducible refine Kd.C_drewN ?_ _) | (with_reducible refine Kd.C_drew ?_))); (case side2 => exact (Kd.R_reads' HO173.out).2.1); rintro e w18 ⟨rfl, hb⟩; have n0_ := Aside0.mk (Kd.R_below (by (with_reducible repeat (first | apply Kd.R_alloc | apply Kd.R_drewN | apply Kd.R_drew)); exact HO173.out) hb); have n1_ := Aside0.mk (below_step (by repeat (first | (with_reducible first | exact HB.out | apply below_alloc | apply pw_below_drewN | apply below_drew1) | exact HB.out)) hb); clear HO173; clear HB; have HO173 := n0_; have HB := n1_; clear n0_ n1_; (try clear hb); (try clear hb2); (try clear hk); (try clear hi)) | ((with_reducible refine gate_dst (N := 19) rfl ?_); (try (refine gate_guard (by rfl) ?_; dsimp only)); refine Kd.S_lit k33 _ 33 ?hg (N := 19) ?hd (xs := ([(⟨0, (⟨#[97]⟩ : ByteArray), ([] : List ByteArray)⟩ : S33)] : List (S33))) (inner := [.int .i64 0, .string (⟨#[97]⟩ : ByteArray), .slice none 0 0]) (ok := fun _ => True) (okp := fun _ => True) ?hr ?hp (fun _ hk => hk) trivial (Below.refl _ _) (Nat.le_refl _) (by simp) ?_; (case hd => rfl); (case hg => rfl); (case hr => first | (go_simp; done) | (go_simp; rfl)); (case hp => exact (Reps.c3 (show Kd.M k33 _ _ _ (⟨0, (⟨#[97]⟩ : ByteArray), ([] : List ByteArray)⟩ : S33) [.int .i64 0, .string (⟨#[97]⟩ : ByteArray), .slice none 0 0] from (k33_mkM _ _ _ (⟨0, (⟨#[97]⟩ : ByteArray), ([] : List ByteArray)⟩ : S33) (Kd.R_nil _ _ _ _ _))) (Reps.none _ _))); intro v185 w19 ho20 hb hg_ hnew_; clear hg_ hnew_; (first | rw [← Ny184.out] at ho20 | (simp only [Int.reduceToNat] at ho20; rw [← Ny184.out] at ho20)); have n0_ := Aside0.mk (Kd.R_below (by (with_reducible repeat (first | apply Kd.R_alloc | apply Kd.R_drewN | apply Kd.R_drew)); exact HO173.out) hb); have n1_ := Aside0.mk (Kd.S_lower ho20 (below_size (by repeat (first | (with_reducible first | exact HB.out | apply below_alloc | apply pw_below_drewN | apply below_drew1) | exact HB.out)))); have n2_ := Aside0.mk (below_step (by repeat (first | (with_reducible first | exact HB.out | apply below_alloc | apply pw_below_drewN | apply below_drew1) | exact HB.out)) hb); clear HO173; clear HB; have HO173 := n0_; have HO186 := n1_; have HB := n2_; clear n0_ n1_ n2_; clear hb ho20; obtain ⟨Ao21, co21, eo21⟩ := Kd.S_slice HO186.out; subst eo21) | (go_at_call 10; (with_reducible refine (impl_ListPlain.calls _ _ y184 t187 _ ?side1 ?side2 A11.out).mono ?_); (case side1 => repeat (first | exact (Kd.S_reads' HO186.out).2.2 | (with_reducible refine Kd.C_alloc ?_ _) | (with_reducible refine Kd.C_drewN ?_ _) | (with_reducible refine Kd.C_drew ?_))); (case side2 => exact (Kd.S_reads' HO186.out).2.1); rintro e w22 ⟨rfl, hb⟩; have n0_ := Aside0.mk (Kd.R_below (by (with_reducible repeat (first | apply Kd.R_alloc | apply Kd.R_drewN | apply Kd.R_drew)); exact HO173.out) hb); have n1_ := Aside0.mk (Kd.S_below (by (with_reducible repeat (first | apply Kd.S_alloc | apply Kd.S_drewN | apply Kd.S_drew)); exact HO186.out) hb); have n2_ := Aside0.mk (below_step (by repeat (first | (with_reducible first | exact HB.out | apply below_alloc | apply pw_below_drewN | apply below_drew1) | exact HB.out)) hb); clear HO173; clear HO186; clear HB; have HO173 := n0_; have HO186 := n1_; have HB := n2_; clear n0_ n1_ n2_; (try clear hb); (try clear hb2); (try clear hk); (try clear hi)))
        go_ret
        exact ⟨by first | rfl | (simp [errW_none, errW_some] <;> rfl) | (have e_ : ∀ l_ : List UInt8, (l_ != []) = !l_.isEmpty := fun l_ => (by cases l_ <;> rfl); simp [errW_none, errW_some, e_]; done) | (simp [*, errW_none, errW_some] <;> rfl), by repeat (first | (with_reducible first | exact HB.out | apply below_alloc | apply pw_below_drewN | apply below_drew1) | exact HB.out)⟩
      · rw [if_neg c10] at H
        have c10b0 : (t170.toList == t183.toList) = false := beq_eq_false_iff_ne.mpr c10
        have c10b1 : (t170.toList != t183.toList) = true := bne_iff_ne.mpr c10
        obtain rfl := Option.some.inj H
        go_enter Tryd.func3, Tryd.ntmps3
        go_wp2_with (first | ((with_reducible refine gate_callee (f := 8) rfl ?_); refine goesL_ (some 4) rfl rfl Tryd.func8 (by kernel_rfl) rfl #[.slice A0 l0.length c0] rfl (by (try simp only [List.map_toArray, List.map_cons, List.map_nil]); first | done | rfl | (simp only [List.length_drop, List.length_take]; rfl)) ?_; (with_reducible refine (laws_zzFits11.calls k _ _ l0 true _ ?side1 ?side2 A2.out).mono ?_); (case side1 => repeat (first | exact HR0.out | (with_reducible refine Kd.C_alloc ?_ _) | (with_reducible refine Kd.C_drewN ?_ _) | (with_reducible refine Kd.C_drew ?_))); (case side2 => exact HC0.out); rintro e w23 ⟨rfl, hb⟩; refine ⟨_, rfl, ?_⟩; have n0_ := Aside0.mk (below_step (by repeat (first | (with_reducible first | exact HB.out | apply below_alloc | apply pw_below_drewN | apply below_drew1) | exact HB.out)) hb); clear HB; have HB := n0_; clear n0_; (try clear hb); (try clear hb2); (try clear hk); (try clear hi)) | ((with_reducible refine gate_callee (f := 9) rfl ?_); refine goesL_ (some 7) rfl rfl Tryd.func9 (by kernel_rfl) rfl #[.slice A0 l0.length c0] rfl (by (try simp only [List.map_toArray, List.map_cons, List.map_nil]); first | done | rfl | (simp only [List.length_drop, List.length_take]; rfl)) ?_; (with_reducible refine (spec_LtRight.calls k _ _ l0 true _ ?side1 ?side2 A4.out).mono ?_); (case side1 => repeat (first | exact (Kd.C_below HR0.out HB.out) | (with_reducible refine Kd.C_alloc ?_ _) | (with_reducible refine Kd.C_drewN ?_ _) | (with_reducible refine Kd.C_drew ?_))); (case side2 => exact HC0.out); rintro e w24 ⟨rfl, hb⟩; refine ⟨_, rfl, ?_⟩; have n0_ := Aside0.mk (below_step (by repeat (first | (with_reducible first | exact HB.out | apply below_alloc | apply pw_below_drewN | apply below_drew1) | exact HB.out)) hb); clear HB; have HB := n0_; clear n0_; (try clear hb); (try clear hb2); (try clear hk); (try clear hi)) | (go_at_call 10; (with_reducible refine (impl_ListPlain.calls _ _ l0 t170 _ ?side1 ?side2 A6.out).mono ?_); (case side1 => repeat (first | exact (Kd.C_below HR0.out HB.out) | (with_reducible refine Kd.C_alloc ?_ _) | (with_reducible refine Kd.C_drewN ?_ _) | (with_reducible refine Kd.C_drew ?_))); (case side2 => exact HC0.out); rintro e w25 ⟨rfl, hb⟩; have n0_ := Aside0.mk (below_step (by repeat (first | (with_reducible first | exact HB.out | apply below_alloc | apply pw_below_drewN | apply below_drew1) | exact HB.out)) hb); clear HB; have HB := n0_; clear n0_; (try clear hb); (try clear hb2); (try clear hk); (try clear hi)) | (go_at_call 12; (with_reducible refine (spec_LtPlayed.calls k _ _ l0 t171 _ ?side1 ?side2 A7.out).mono ?_); (case side1 => repeat (first | exact (Kd.C_below HR0.out HB.out) | (with_reducible refine Kd.C_alloc ?_ _) | (with_reducible refine Kd.C_drewN ?_ _) | (with_reducible refine Kd.C_drew ?_))); (case side2 => exact HC0.out); rintro e w26 ⟨v172, rfl, ho0, hb⟩; have n0_ := Aside0.mk (Kd.R_lower ho0 (below_size (by repeat (first | (with_reducible first | exact HB.out | apply below_alloc | apply pw_below_drewN | apply below_drew1) | exact HB.out)))); have n1_ := Aside0.mk (below_step (by repeat (first | (with_reducible first | exact HB.out | apply below_alloc | apply pw_below_drewN | apply below_drew1) | exact HB.out)) hb); clear HB; have HO173 := n0_; have HB := n1_; clear n0_ n1_; (try clear hb); (try clear hb2); (try clear hk); (try clear hi); (try clear ho0)) | (go_at_call 13; (with_reducible refine (spec_LtStar.calls (⟨#[]⟩ : ByteArray) (⟨#[10]⟩ : ByteArray) t174 t175 t176 t177 t178 t179 t180 t181 t182 _ A8.out).mono ?_); rintro e w27 ⟨rfl, hb⟩; have n0_ := Aside0.mk (Kd.R_below (by (with_reducible repeat (first | apply Kd.R_alloc | apply Kd.R_drewN | apply Kd.R_drew)); exact HO173.out) hb); have n1_ := Aside0.mk (below_step (by repeat (first | (with_reducible first | exact HB.out | apply below_alloc | apply pw_below_drewN | apply below_drew1) | exact HB.out)) hb); clear HO173; clear HB; have HO173 := n0_; have HB := n1_; clear n0_ n1_; (try clear hb); (try clear hb2); (try clear hk); (try clear hi); obtain ⟨Ao28, co28, eo28⟩ := Kd.R_slice HO173.out; subst eo28) | (go_at_call 11; (with_reducible refine (spec_LtDrawn.calls k _ _ t171 t174 t175 t176 t177 t178 t179 t180 t181 t182 t183 _ ?side1 ?side2 A9.out).mono ?_); (case side1 => repeat (first | exact (Kd.R_reads' HO173.out).2.2 | (with_reducible refine Kd.C_alloc ?_ _) | (with_reducible refine Kd.C_drewN ?_ _) | (with_reducible refine Kd.C_drew ?_))); (case side2 => exact (Kd.R_reads' HO173.out).2.1); rintro e w29 ⟨rfl, hb⟩; have n0_ := Aside0.mk (Kd.R_below (by (with_reducible repeat (first | apply Kd.R_alloc | apply Kd.R_drewN | apply Kd.R_drew)); exact HO173.out) hb); have n1_ := Aside0.mk (below_step (by repeat (first | (with_reducible first | exact HB.out | apply below_alloc | apply pw_below_drewN | apply below_drew1) | exact HB.out)) hb); clear HO173; clear HB; have HO173 := n0_; have HB := n1_; clear n0_ n1_; (try clear hb); (try clear hb2); (try clear hk); (try clear hi)))
        go_ret
        exact ⟨by first | rfl | (simp [errW_none, errW_some] <;> rfl) | (have e_ : ∀ l_ : List UInt8, (l_ != []) = !l_.isEmpty := fun l_ => (by cases l_ <;> rfl); simp [errW_none, errW_some, e_]; done) | (simp [*, errW_none, errW_some] <;> rfl), by repeat (first | (with_reducible first | exact HB.out | apply below_alloc | apply pw_below_drewN | apply below_drew1) | exact HB.out)⟩
    · replace c5 := Bool.eq_false_iff.mpr c5
      subst c5
      have H1 : (some true) = some r := by rw [if_neg (show ¬ (false = true) by decide)] at H; exact H
      clear H
      have H := H1
      clear H1
      obtain rfl := Option.some.inj H
      go_enter Tryd.func3, Tryd.ntmps3
      go_wp2_with (first | ((with_reducible refine gate_callee (f := 8) rfl ?_); refine goesL_ (some 4) rfl rfl Tryd.func8 (by kernel_rfl) rfl #[.slice A0 l0.length c0] rfl (by (try simp only [List.map_toArray, List.map_cons, List.map_nil]); first | done | rfl | (simp only [List.length_drop, List.length_take]; rfl)) ?_; (with_reducible refine (laws_zzFits11.calls k _ _ l0 true _ ?side1 ?side2 A2.out).mono ?_); (case side1 => repeat (first | exact HR0.out | (with_reducible refine Kd.C_alloc ?_ _) | (with_reducible refine Kd.C_drewN ?_ _) | (with_reducible refine Kd.C_drew ?_))); (case side2 => exact HC0.out); rintro e w30 ⟨rfl, hb⟩; refine ⟨_, rfl, ?_⟩; have n0_ := Aside0.mk (below_step (by repeat (first | (with_reducible first | exact HB.out | apply below_alloc | apply pw_below_drewN | apply below_drew1) | exact HB.out)) hb); clear HB; have HB := n0_; clear n0_; (try clear hb); (try clear hb2); (try clear hk); (try clear hi)) | ((with_reducible refine gate_callee (f := 9) rfl ?_); refine goesL_ (some 7) rfl rfl Tryd.func9 (by kernel_rfl) rfl #[.slice A0 l0.length c0] rfl (by (try simp only [List.map_toArray, List.map_cons, List.map_nil]); first | done | rfl | (simp only [List.length_drop, List.length_take]; rfl)) ?_; (with_reducible refine (spec_LtRight.calls k _ _ l0 false _ ?side1 ?side2 A4.out).mono ?_); (case side1 => repeat (first | exact (Kd.C_below HR0.out HB.out) | (with_reducible refine Kd.C_alloc ?_ _) | (with_reducible refine Kd.C_drewN ?_ _) | (with_reducible refine Kd.C_drew ?_))); (case side2 => exact HC0.out); rintro e w31 ⟨rfl, hb⟩; refine ⟨_, rfl, ?_⟩; have n0_ := Aside0.mk (below_step (by repeat (first | (with_reducible first | exact HB.out | apply below_alloc | apply pw_below_drewN | apply below_drew1) | exact HB.out)) hb); clear HB; have HB := n0_; clear n0_; (try clear hb); (try clear hb2); (try clear hk); (try clear hi)))
      go_ret
      exact ⟨by first | rfl | (simp [errW_none, errW_some] <;> rfl) | (have e_ : ∀ l_ : List UInt8, (l_ != []) = !l_.isEmpty := fun l_ => (by cases l_ <;> rfl); simp [errW_none, errW_some, e_]; done) | (simp [*, errW_none, errW_some] <;> rfl), by repeat (first | (with_reducible first | exact HB.out | apply below_alloc | apply pw_below_drewN | apply below_drew1) | exact HB.out)⟩
  · replace c3 := Bool.eq_false_iff.mpr c3
    subst c3
    have H1 : (some true) = some r := by rw [if_neg (show ¬ (false = true) by decide)] at H; exact H
    clear H
    have H := H1
    clear H1
    obtain rfl := Option.some.inj H
    go_enter Tryd.func3, Tryd.ntmps3
    go_wp2_with (first | ((with_reducible refine gate_callee (f := 8) rfl ?_); refine goesL_ (some 4) rfl rfl Tryd.func8 (by kernel_rfl) rfl #[.slice A0 l0.length c0] rfl (by (try simp only [List.map_toArray, List.map_cons, List.map_nil]); first | done | rfl | (simp only [List.length_drop, List.length_take]; rfl)) ?_; (with_reducible refine (laws_zzFits11.calls k _ _ l0 false _ ?side1 ?side2 A2.out).mono ?_); (case side1 => repeat (first | exact HR0.out | (with_reducible refine Kd.C_alloc ?_ _) | (with_reducible refine Kd.C_drewN ?_ _) | (with_reducible refine Kd.C_drew ?_))); (case side2 => exact HC0.out); rintro e w32 ⟨rfl, hb⟩; refine ⟨_, rfl, ?_⟩; have n0_ := Aside0.mk (below_step (by repeat (first | (with_reducible first | exact HB.out | apply below_alloc | apply pw_below_drewN | apply below_drew1) | exact HB.out)) hb); clear HB; have HB := n0_; clear n0_; (try clear hb); (try clear hb2); (try clear hk); (try clear hi)))
    go_ret
    exact ⟨by first | rfl | (simp [errW_none, errW_some] <;> rfl) | (have e_ : ∀ l_ : List UInt8, (l_ != []) = !l_.isEmpty := fun l_ => (by cases l_ <;> rfl); simp [errW_none, errW_some, e_]; done) | (simp [*, errW_none, errW_some] <;> rfl), by repeat (first | (with_reducible first | exact HB.out | apply below_alloc | apply pw_below_drewN | apply below_drew1) | exact HB.out)⟩

end Go.Proofs.YteenhipldfdkaaaDoor.P
