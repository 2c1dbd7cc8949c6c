/- Printed by a program of this session (pf.sh): Go functions as Lean functions, with their contracts. -/
import Derived.Test.YteenhipldfdkaaaDoorPx0
import Derived.Test.YteenhipldfdkaaaDoorFf
namespace Go.Proofs.YteenhipldfdkaaaDoor.P
open Go.RowKit Go.Proofs.YteenhipldfdkaaaDoorW.PrintWords Go.Proofs.YteenhipldfdkaaaDoorW.PrintLast Go.Proofs.YteenhipldfdkaaaDoorW.PrintMore
attribute [local go_sem] max2_int min2_int max_two min_two max_three min_three max_four min_four   -- for this text's walks alone
set_option linter.unusedVariables false
set_option linter.unusedSimpArgs false

/-! ### spec_LsMore: function 77 -/
def spec_LsMore.l0 : Nat → Int → List (S54) → Int → Int → Option (Bool)
  | 0, _, _, _, _ => none
  | k + 1, x2, x12, x13, x14 => if x14 < x13 then (if 0 ≤ x14 then (if x14 < (x12.length : Int) then (if ((rd_T54 x12 x14).f1) ≤ x2 then (some (((rd_T54 x12 x14).f1) == x2)) else (spec_LsMore.l0 k x2 x12 x13 (wrap64 (x14 + 1)))) else (none)) else (none)) else (some false)
def spec_LsMore.f (k : Nat) (l0 : List (S54)) (a1 : Int) (a2 : Int) : Option (Bool) := if 0 ≤ (wrap64 (a1 + 1)) then (if (wrap64 (a1 + 1)) ≤ (l0.length : Int) then ((some (l0.drop ((wrap64 (a1 + 1)) : Int).toNat : List (S54))).bind fun y112 => (spec_LsMore.l0 k a2 y112 (y112.length : Int) 0)) else (none)) else (none)
theorem spec_LsMore.mono_l : ∀ k, (∀ y0 y1 y2 y3, LeO (spec_LsMore.l0 k y0 y1 y2 y3) (spec_LsMore.l0 (k + 1) y0 y1 y2 y3))
  | 0 => fun _ _ _ _ r h => by simp [spec_LsMore.l0] at h
  | k + 1 => by
    have ih0 := spec_LsMore.mono_l k
    · intro y0 y1 y2 y3
      unfold spec_LsMore.l0
      repeat' first
      | (with_reducible exact ih0 _ _ _ _)
      | (with_reducible exact LeO.refl _)
      | (with_reducible exact LeO.none _)
      | (with_reducible refine LeO.ite ?_ ?_)
      | (with_reducible refine LeO.bind ?_ (fun _ => ?_))
      | exact ih0 _ _ _ _
      | exact LeO.none _
      | refine LeO.ite ?_ ?_
      | refine LeO.bind ?_ (fun _ => ?_)
theorem spec_LsMore.mono : ∀ a0 a1 a2 k, LeO (spec_LsMore.f k a0 a1 a2) (spec_LsMore.f (k + 1) a0 a1 a2) := by
  intro a0 a1 a2 k
  have ih0 := spec_LsMore.mono_l k
  unfold spec_LsMore.f
  repeat' first
      | (with_reducible exact ih0 _ _ _ _)
      | (with_reducible exact LeO.refl _)
      | (with_reducible exact LeO.none _)
      | (with_reducible refine LeO.ite ?_ ?_)
      | (with_reducible refine LeO.bind ?_ (fun _ => ?_))
      | exact ih0 _ _ _ _
      | exact LeO.none _
      | refine LeO.ite ?_ ?_
      | refine LeO.bind ?_ (fun _ => ?_)
set_option maxHeartbeats 8000000 in
set_option maxRecDepth 100000 in
theorem spec_LsMore.calls (k : Nat) (A0 : Option Addr) (c0 : Nat) (l0 : List (S54)) (a1 : Int) (a2 : Int) (r : Bool) (w : World) (hr0 : Kd.C k54 w A0 l0.length l0) (hc0 : l0.length ≤ c0) (h : spec_LsMore.f k l0 a1 a2 = some r) :
    Calls Tryd.prog 77 #[.slice A0 l0.length c0, .int .i64 a1, .int .i64 a2] w fun e w' => e = .returned (.bool r) ∧ Below w.heap.size w w' := by
  have hu54 := Tryd.underlying54
  have HR0 := Aside0.mk hr0
  have HC0 := Aside0.mk hc0
  clear hr0 hc0
  have HB := Aside0.mk (Below.refl w.heap.size w)
  have H : (if 0 ≤ (wrap64 (a1 + 1)) then (if (wrap64 (a1 + 1)) ≤ (l0.length : Int) then ((some (l0.drop ((wrap64 (a1 + 1)) : Int).toNat : List (S54))).bind fun y112 => (spec_LsMore.l0 k a2 y112 (y112.length : Int) 0)) else (none)) else (none)) = some r := h
  clear h
  obtain ⟨ji4, hji4⟩ : ∃ j_ : Int, (wrap64 (a1 + 1)) = j_ := ⟨_, rfl⟩
  replace H : (if 0 ≤ (ji4) then (if (ji4) ≤ (l0.length : Int) then ((some (l0.drop ((ji4) : Int).toNat : List (S54))).bind fun y112 => (spec_LsMore.l0 k a2 y112 (y112.length : Int) 0)) else (none)) else (none)) = some r := by first | (rw [hji4] at H; exact H) | (simp only [hji4] at H ⊢; exact H)
  have hji4w : (IntKind.i64.wrap (a1 + 1)) = ji4 := (i64_w _).trans hji4
  by_cases c5 : 0 ≤ (ji4)
  · rw [if_pos c5] at H
    have c5b0 := eq_true c5
    have c5b1 : decide (0 ≤ (ji4)) = true := decide_eq_true c5
    clear c5
    by_cases c6 : (ji4) ≤ (l0.length : Int)
    · rw [if_pos c6] at H
      have c6b0 := eq_true c6
      have c6b1 : decide ((ji4) ≤ (l0.length : Int)) = true := decide_eq_true c6
      clear c6
      obtain ⟨y112, hy112⟩ : ∃ y_ : List (S54), y_ = (l0.drop ((ji4) : Int).toNat) := ⟨_, rfl⟩
      replace H : (spec_LsMore.l0 k a2 y112 (y112.length : Int) 0) = some r := by first | (rw [hy112]; with_reducible exact H) | (have H2_ := (Option.bind_some _ _).symm.trans H; rw [hy112]; with_reducible exact H2_) | (have H2_ := (Option.bind_some _ _).symm.trans H; with_reducible exact H2_) | with_reducible exact H | (rw [hy112]; exact H) | exact H
      have Ny112 := Aside0.mk hy112
      clear hy112
      have H' := Aside0.mk H
      clear H
      have q7 : ((ji4) : Int) ≤ ((l0.length : Int) : Int) := of_decide_eq_true (by first | (with_reducible assumption) | assumption)
      obtain ⟨i07, hi07, _, hsz7, _⟩ := info_parts info54
      have hroom7 : l0.length ≤ c0 := HC0.out
      have hC7 : Kd.C k54 _ A0 l0.length l0 := HR0.out
      have q07 : (0 : Int) ≤ ((ji4) : Int) := of_decide_eq_true (by first | (with_reducible assumption) | assumption)
      have hcut7 := cut_from (P := Tryd.prog) 26 54 .i64 Tryd.underlying26 hi07 2 hsz7 A0 l0.length c0 (ji4) q07 q7
      have hr7 := Kd.C_drop (m := ((ji4) : Int).toNat) (c := c0) hC7 (by omega) hroom7
      obtain ⟨A7, hA7⟩ : ∃ A1, A1 = (if c0 = ((ji4) : Int).toNat then A0 else (A0 : Option Addr).map (·.add (((ji4) : Int).toNat * 2))) := ⟨_, rfl⟩
      obtain ⟨c7, hc7⟩ : ∃ c1, c1 = c0 - ((ji4) : Int).toNat := ⟨_, rfl⟩
      have hy7 : y112.length = l0.length - ((ji4) : Int).toNat := (by rw [Ny112.out, List.length_drop] <;> omega)
      rw [show (l0).drop ((ji4) : Int).toNat = y112 from Ny112.out.symm] at hr7
      replace hr7 : Kd.C k54 _ A7 y112.length y112 := (by rw [hA7]; exact hr7)
      rw [← hy7, ← hA7, ← hc7] at hcut7
      have HR115 := Aside0.mk hr7
      have HC115 := Aside0.mk (show y112.length ≤ c7 from by rw [hy7, hc7]; exact Nat.sub_le_sub_right hroom7 _)
      clear hr7 hC7 hroom7 hi07 hsz7 hc7
      have KY7 := Aside0.mk hy7
      have KA7 := Aside0.mk hA7
      clear hy7 hA7
      replace q7 := eq_true q7
      go_enter Tryd.func77, Tryd.ntmps77
      go_wp2
      go_loopg [14] k (fun kq v14 w' => ∃ (x14_1 : Int), v14 = .int .i64 x14_1 ∧ Aside0 (spec_LsMore.l0 kq a2 y112 (y112.length : Int) x14_1 = some r) ∧ Aside0 (kq ≤ k) ∧ Aside0 (Below w.heap.size w w'))
      case atStart => exact ⟨(0), (by first | rfl | (simp; done) | (simp [*]; done)), H', ⟨Nat.le_refl _⟩, ⟨by repeat (first | (with_reducible first | exact HB.out | apply below_alloc | apply pw_below_drewN | apply below_drew1) | exact HB.out)⟩⟩
      case round =>
        clear H'
        try clear c1
        try clear p2
        try clear c5
        try clear c5b0
        try clear c5b1
        try clear c6
        try clear c6b0
        try clear c6b1
        try clear p6
        try clear c7
        try clear q7
        try clear q07
        try clear q7
        obtain ⟨x14_1, rfl, HA, HK1, HB⟩ := hrel
        cases gk with
        | zero => exact absurd HA.out (by simp [spec_LsMore.l0])
        | succ k1 =>
          have H := HA.out
          clear HA
          simp only [spec_LsMore.l0] at H
          by_cases c8 : x14_1 < (y112.length : Int)
          · rw [if_pos c8] at H
            have c8b0 : decide (x14_1 < (y112.length : Int)) = true := decide_eq_true c8
            clear c8
            by_cases c9 : 0 ≤ x14_1
            · rw [if_pos c9] at H
              have c9b0 : decide (0 ≤ x14_1) = true := decide_eq_true c9
              clear c9
              by_cases c10 : x14_1 < (y112.length : Int)
              · rw [if_pos c10] at H
                have c10b0 : decide (x14_1 < (y112.length : Int)) = true := decide_eq_true c10
                clear c10
                by_cases c11 : ((rd_T54 y112 x14_1).f1) ≤ a2
                · rw [if_pos c11] at H
                  have c11b0 : decide (((rd_T54 y112 x14_1).f1) ≤ a2) = true := decide_eq_true c11
                  clear c11
                  obtain rfl := Option.some.inj H
                  have p116 : 0 ≤ (x14_1 : Int) := of_decide_eq_true (by first | (with_reducible assumption) | assumption)
                  have q116 : x14_1 < (y112.length : Int) := of_decide_eq_true (by first | (with_reducible assumption) | assumption)
                  obtain ⟨ad116, e116, hx116_0, hx116_1⟩ := at_T54 HR115.out x14_1 p116 q116
                  cases e116
                  replace hx116_0 := (HB.out.cell (World.block_lt_of_cell? w _ hx116_0)).trans hx116_0
                  replace hx116_1 := (HB.out.cell (World.block_lt_of_cell? w _ hx116_1)).trans hx116_1
                  replace p116 := eq_true p116
                  replace q116 := eq_true q116
                  go_wp2_with (first | ((with_reducible refine gate_dst (N := 8) rfl ?_); refine box_event ?hg (N := 8) ?hd (cs := #[.string (⟨#[]⟩ : ByteArray), .int .i64 0]) (t := 54) ?hr ?_; (case hd => rfl); (case hg => rfl); (case hr => first | (go_simp; done) | (go_simp; rfl)); intro gb117 hg w12 hbox hb; have n0_ := Aside0.mk (below_step (by repeat (first | (with_reducible first | exact HB.out | apply below_alloc | apply pw_below_drewN | apply below_drew1) | exact HB.out)) hb); have n1_ := Aside0.mk (hbox); have n2_ := Aside0.mk ((by rw [hg]; exact (below_size (by repeat (first | (with_reducible first | exact HB.out | apply below_alloc | apply pw_below_drewN | apply below_drew1) | exact HB.out))) : w.heap.size ≤ gb117)); have n3_ := Aside0.mk ((by rw [hg]; exact (below_size (by repeat (first | (with_reducible first | exact HB.out | apply below_alloc | apply pw_below_drewN | apply below_drew1) | exact HB.out))) : w.heap.size ≤ gb117)); clear HB; have HB := n0_; have BK117 := n1_; have GW117 := n2_; have GE117 := n3_; clear n0_ n1_ n2_ n3_; clear hb hbox hg; have hcz13_0 : w12.cell? ⟨gb117, 0, none⟩ = some (.string (⟨#[]⟩ : ByteArray)) := (blk_cell BK117.out 0).trans rfl; have hcz13_1 : w12.cell? ⟨gb117, 1, none⟩ = some (.int .i64 0) := (blk_cell BK117.out 1).trans rfl; have hfz13_0 := blk_frozen BK117.out 0; have hfz13_1 := blk_frozen BK117.out 1))
                  go_ret
                  exact ⟨by first | rfl | (simp [errW_none, errW_some] <;> rfl) | (simp only [← hji4]; first | rfl | (simp [errW_none, errW_some] <;> rfl)) | (simp [*, errW_none, errW_some] <;> rfl), by repeat (first | (with_reducible first | exact HB.out | apply below_alloc | apply pw_below_drewN | apply below_drew1 | refine below_set ?_ GE117.out) | exact HB.out)⟩
                · rw [if_neg c11] at H
                  have c11b0 : decide (((rd_T54 y112 x14_1).f1) ≤ a2) = false := decide_eq_false c11
                  clear c11
                  have H' := Aside0.mk H
                  clear H
                  have p116 : 0 ≤ (x14_1 : Int) := of_decide_eq_true (by first | (with_reducible assumption) | assumption)
                  have q116 : x14_1 < (y112.length : Int) := of_decide_eq_true (by first | (with_reducible assumption) | assumption)
                  obtain ⟨ad116, e116, hx116_0, hx116_1⟩ := at_T54 HR115.out x14_1 p116 q116
                  cases e116
                  replace hx116_0 := (HB.out.cell (World.block_lt_of_cell? w _ hx116_0)).trans hx116_0
                  replace hx116_1 := (HB.out.cell (World.block_lt_of_cell? w _ hx116_1)).trans hx116_1
                  replace p116 := eq_true p116
                  replace q116 := eq_true q116
                  go_wp2_with (first | ((with_reducible refine gate_dst (N := 8) rfl ?_); refine box_event ?hg (N := 8) ?hd (cs := #[.string (⟨#[]⟩ : ByteArray), .int .i64 0]) (t := 54) ?hr ?_; (case hd => rfl); (case hg => rfl); (case hr => first | (go_simp; done) | (go_simp; rfl)); intro gb117 hg w14 hbox hb; have n0_ := Aside0.mk (below_step (by repeat (first | (with_reducible first | exact HB.out | apply below_alloc | apply pw_below_drewN | apply below_drew1) | exact HB.out)) hb); have n1_ := Aside0.mk (hbox); have n2_ := Aside0.mk ((by rw [hg]; exact (below_size (by repeat (first | (with_reducible first | exact HB.out | apply below_alloc | apply pw_below_drewN | apply below_drew1) | exact HB.out))) : w.heap.size ≤ gb117)); have n3_ := Aside0.mk ((by rw [hg]; exact (below_size (by repeat (first | (with_reducible first | exact HB.out | apply below_alloc | apply pw_below_drewN | apply below_drew1) | exact HB.out))) : w.heap.size ≤ gb117)); clear HB; have HB := n0_; have BK117 := n1_; have GW117 := n2_; have GE117 := n3_; clear n0_ n1_ n2_ n3_; clear hb hbox hg; have hcz15_0 : w14.cell? ⟨gb117, 0, none⟩ = some (.string (⟨#[]⟩ : ByteArray)) := (blk_cell BK117.out 0).trans rfl; have hcz15_1 : w14.cell? ⟨gb117, 1, none⟩ = some (.int .i64 0) := (blk_cell BK117.out 1).trans rfl; have hfz15_0 := blk_frozen BK117.out 0; have hfz15_1 := blk_frozen BK117.out 1))
                  go_roundg k1
                  case measure => have := HK1.out; omega
                  case rel => exact ⟨(wrap64 (x14_1 + 1)), (by first | rfl | (simp; done) | (simp [*]; done)), H', ⟨by have := HK1.out; omega⟩, ⟨by repeat (first | (with_reducible first | exact HB.out | apply below_alloc | apply pw_below_drewN | apply below_drew1 | refine below_set ?_ GE117.out) | exact HB.out)⟩⟩
              · rw [if_neg c10] at H
                exact absurd H (by simp)
            · rw [if_neg c9] at H
              exact absurd H (by simp)
          · rw [if_neg c8] at H
            have c8b0 : decide (x14_1 < (y112.length : Int)) = false := decide_eq_false c8
            clear c8
            obtain rfl := Option.some.inj H
            go_wp2
            go_ret
            exact ⟨by first | rfl | (simp [errW_none, errW_some] <;> rfl) | (simp only [← hji4]; first | rfl | (simp [errW_none, errW_some] <;> rfl)) | (simp [*, errW_none, errW_some] <;> rfl), by repeat (first | (with_reducible first | exact HB.out | apply below_alloc | apply pw_below_drewN | apply below_drew1) | exact HB.out)⟩
    · rw [if_neg c6] at H
      exact absurd H (by simp)
  · rw [if_neg c5] at H
    exact absurd H (by simp)

-- FOREIGN: function 79 (spec_TxTimes)

-- FOREIGN: function 80 (spec_TxWidth)

/-! ### spec_ltLink: function 55 -/
def spec_ltLink.f (k : Nat) (l0 : List (S54)) (a1 : Int) (a2 : Int) (a3_0 : Int) (a3_1 : ByteArray) (a3_2 : ByteArray) (a3_3 : ByteArray) (a3_4 : ByteArray) (a3_5 : ByteArray) (a3_6 : ByteArray) (a3_7 : ByteArray) (a3_8 : ByteArray) : Option (ByteArray) := (spec_LsMore.f k l0 a1 a2).bind fun t119 => (if t119 = true then (some a3_5) else ((spec_TxWidth.f a3_5).bind fun t120 => ((spec_TxTimes.f (⟨#[32]⟩ : ByteArray) t120).bind fun t121 => (some t121))))
theorem spec_ltLink.mono : ∀ a0 a1 a2 a3 a4 a5 a6 a7 a8 a9 a10 a11 k, LeO (spec_ltLink.f k a0 a1 a2 a3 a4 a5 a6 a7 a8 a9 a10 a11) (spec_ltLink.f (k + 1) a0 a1 a2 a3 a4 a5 a6 a7 a8 a9 a10 a11) := by
  intro a0 a1 a2 a3 a4 a5 a6 a7 a8 a9 a10 a11 k
  unfold spec_ltLink.f
  repeat' first
      | (with_reducible exact spec_LsMore.mono _ _ _ _)
      | (with_reducible exact LeO.refl _)
      | (with_reducible exact LeO.none _)
      | (with_reducible refine LeO.ite ?_ ?_)
      | (with_reducible refine LeO.bind ?_ (fun _ => ?_))
      | exact spec_LsMore.mono _ _ _ _
      | exact LeO.none _
      | refine LeO.ite ?_ ?_
      | refine LeO.bind ?_ (fun _ => ?_)
set_option maxHeartbeats 8000000 in
set_option maxRecDepth 100000 in
theorem spec_ltLink.calls (k : Nat) (A0 : Option Addr) (c0 : Nat) (l0 : List (S54)) (a1 : Int) (a2 : Int) (a3_0 : Int) (a3_1 : ByteArray) (a3_2 : ByteArray) (a3_3 : ByteArray) (a3_4 : ByteArray) (a3_5 : ByteArray) (a3_6 : ByteArray) (a3_7 : ByteArray) (a3_8 : ByteArray) (r : ByteArray) (w : World) (hr0 : Kd.C k54 w A0 l0.length l0) (hc0 : l0.length ≤ c0) (h : spec_ltLink.f k l0 a1 a2 a3_0 a3_1 a3_2 a3_3 a3_4 a3_5 a3_6 a3_7 a3_8 = some r) :
    Calls Tryd.prog 55 #[.slice A0 l0.length c0, .int .i64 a1, .int .i64 a2, .agg #[.int .i64 a3_0, .string a3_1, .string a3_2, .string a3_3, .string a3_4, .string a3_5, .string a3_6, .string a3_7, .string a3_8]] w fun e w' => e = .returned (.string r) ∧ Below w.heap.size w w' := by
  have hu29 := Tryd.underlying29
  have HR0 := Aside0.mk hr0
  have HC0 := Aside0.mk hc0
  clear hr0 hc0
  have HB := Aside0.mk (Below.refl w.heap.size w)
  have H : ((spec_LsMore.f k l0 a1 a2).bind fun t119 => (if t119 = true then (some a3_5) else ((spec_TxWidth.f a3_5).bind fun t120 => ((spec_TxTimes.f (⟨#[32]⟩ : ByteArray) t120).bind fun t121 => (some t121))))) = some r := h
  clear h
  replace H := Option.bind_eq_some_iff.mp H
  obtain ⟨t119, A50, H⟩ := H
  replace H : (if t119 = true then (some a3_5) else ((spec_TxWidth.f a3_5).bind fun t120 => ((spec_TxTimes.f (⟨#[32]⟩ : ByteArray) t120).bind fun t121 => (some t121)))) = some r := H
  have A5 := Aside0.mk A50
  clear A50
  by_cases c6 : t119 = true
  · subst c6
    have H1 : (some a3_5) = some r := by rw [if_pos rfl] at H; exact H
    clear H
    have H := H1
    clear H1
    obtain rfl := Option.some.inj H
    go_enter Tryd.func55, Tryd.ntmps55
    go_wp2_with (first | ((with_reducible refine gate_dst (N := 7) rfl ?_); refine box_event ?hg (N := 7) ?hd (cs := #[.int .i64 a3_0, .string a3_1, .string a3_2, .string a3_3, .string a3_4, .string a3_5, .string a3_6, .string a3_7, .string a3_8]) (t := 29) ?hr ?_; (case hd => rfl); (case hg => rfl); (case hr => first | (go_simp; done) | (go_simp; rfl)); intro gb118 hg w7 hbox hb; have n0_ := Aside0.mk (below_step (by repeat (first | (with_reducible first | exact HB.out | apply below_alloc | apply pw_below_drewN | apply below_drew1) | exact HB.out)) hb); have n1_ := Aside0.mk (hbox); have n2_ := Aside0.mk ((by rw [hg]; exact (below_size (by repeat (first | (with_reducible first | exact HB.out | apply below_alloc | apply pw_below_drewN | apply below_drew1) | exact HB.out))) : w.heap.size ≤ gb118)); have n3_ := Aside0.mk ((by rw [hg]; exact (below_size (by repeat (first | (with_reducible first | exact HB.out | apply below_alloc | apply pw_below_drewN | apply below_drew1) | exact HB.out))) : w.heap.size ≤ gb118)); clear HB; have HB := n0_; have BK118 := n1_; have GW118 := n2_; have GE118 := n3_; clear n0_ n1_ n2_ n3_; clear hb hbox hg) | ((with_reducible refine gate_callee (f := 77) rfl ?_); refine goesL_ (some 12) rfl rfl Tryd.func77 (by kernel_rfl) rfl #[.slice A0 l0.length c0, .int .i64 a1, .int .i64 a2] rfl (by (try simp only [List.map_toArray, List.map_cons, List.map_nil]); first | done | rfl | (simp only [List.length_drop, List.length_take]; rfl)) ?_; (with_reducible refine (spec_LsMore.calls k _ _ l0 a1 a2 true _ ?side1 ?side2 A5.out).mono ?_); (case side1 => repeat (first | exact (Kd.C_below HR0.out HB.out) | (with_reducible refine Kd.C_alloc ?_ _) | (with_reducible refine Kd.C_drewN ?_ _) | (with_reducible refine Kd.C_drew ?_))); (case side2 => exact HC0.out); rintro e w8 ⟨rfl, hb⟩; refine ⟨_, rfl, ?_⟩; have n0_ := Aside0.mk (blk_below (g := gb118) (o := .cells #[.int .i64 a3_0, .string a3_1, .string a3_2, .string a3_3, .string a3_4, .string a3_5, .string a3_6, .string a3_7, .string a3_8] 29 (0, 0)) (by (with_reducible repeat (first | refine blk_drewN ?_ _ | refine blk_drew ?_ | refine blk_alloc ?_ _)); exact BK118.out) hb); have n1_ := Aside0.mk (below_step (by repeat (first | (with_reducible first | exact HB.out | apply below_alloc | apply pw_below_drewN | apply below_drew1 | refine below_set ?_ GE118.out) | exact HB.out)) hb); clear BK118; clear HB; have BK118 := n0_; have HB := n1_; clear n0_ n1_; (try clear hb); (try clear hb2); (try clear hk); (try clear hi); have hcz9_0 : w8.cell? ⟨gb118, 0, none⟩ = some (.int .i64 a3_0) := (blk_cell BK118.out 0).trans rfl; have hcz9_1 : w8.cell? ⟨gb118, 1, none⟩ = some (.string a3_1) := (blk_cell BK118.out 1).trans rfl; have hcz9_2 : w8.cell? ⟨gb118, 2, none⟩ = some (.string a3_2) := (blk_cell BK118.out 2).trans rfl; have hcz9_3 : w8.cell? ⟨gb118, 3, none⟩ = some (.string a3_3) := (blk_cell BK118.out 3).trans rfl; have hcz9_4 : w8.cell? ⟨gb118, 4, none⟩ = some (.string a3_4) := (blk_cell BK118.out 4).trans rfl; have hcz9_5 : w8.cell? ⟨gb118, 5, none⟩ = some (.string a3_5) := (blk_cell BK118.out 5).trans rfl; have hcz9_6 : w8.cell? ⟨gb118, 6, none⟩ = some (.string a3_6) := (blk_cell BK118.out 6).trans rfl; have hcz9_7 : w8.cell? ⟨gb118, 7, none⟩ = some (.string a3_7) := (blk_cell BK118.out 7).trans rfl; have hcz9_8 : w8.cell? ⟨gb118, 8, none⟩ = some (.string a3_8) := (blk_cell BK118.out 8).trans rfl; have hfz9_0 := blk_frozen BK118.out 0; have hfz9_1 := blk_frozen BK118.out 1; have hfz9_2 := blk_frozen BK118.out 2; have hfz9_3 := blk_frozen BK118.out 3; have hfz9_4 := blk_frozen BK118.out 4; have hfz9_5 := blk_frozen BK118.out 5; have hfz9_6 := blk_frozen BK118.out 6; have hfz9_7 := blk_frozen BK118.out 7; have hfz9_8 := blk_frozen BK118.out 8))
    go_ret
    exact ⟨by first | rfl | (simp [errW_none, errW_some] <;> rfl) | (have e_ : ∀ l_ : List UInt8, (l_ != []) = !l_.isEmpty := fun l_ => (by cases l_ <;> rfl); simp [errW_none, errW_some, e_]; done) | (simp [*, errW_none, errW_some] <;> rfl), by repeat (first | (with_reducible first | exact HB.out | apply below_alloc | apply pw_below_drewN | apply below_drew1 | refine below_set ?_ GE118.out) | exact HB.out)⟩
  · replace c6 := Bool.eq_false_iff.mpr c6
    subst c6
    have H1 : ((spec_TxWidth.f a3_5).bind fun t120 => ((spec_TxTimes.f (⟨#[32]⟩ : ByteArray) t120).bind fun t121 => (some t121))) = some r := by rw [if_neg (show ¬ (false = true) by decide)] at H; exact H
    clear H
    have H := H1
    clear H1
    replace H := Option.bind_eq_some_iff.mp H
    obtain ⟨t120, A100, H⟩ := H
    replace H : ((spec_TxTimes.f (⟨#[32]⟩ : ByteArray) t120).bind fun t121 => (some t121)) = some r := H
    have A10 := Aside0.mk A100
    clear A100
    replace H := Option.bind_eq_some_iff.mp H
    obtain ⟨t121, A110, H⟩ := H
    replace H : (some t121) = some r := H
    have A11 := Aside0.mk A110
    clear A110
    obtain rfl := Option.some.inj H
    go_enter Tryd.func55, Tryd.ntmps55
    go_wp2_with (first | ((with_reducible refine gate_dst (N := 7) rfl ?_); refine box_event ?hg (N := 7) ?hd (cs := #[.int .i64 a3_0, .string a3_1, .string a3_2, .string a3_3, .string a3_4, .string a3_5, .string a3_6, .string a3_7, .string a3_8]) (t := 29) ?hr ?_; (case hd => rfl); (case hg => rfl); (case hr => first | (go_simp; done) | (go_simp; rfl)); intro gb118 hg w12 hbox hb; have n0_ := Aside0.mk (below_step (by repeat (first | (with_reducible first | exact HB.out | apply below_alloc | apply pw_below_drewN | apply below_drew1) | exact HB.out)) hb); have n1_ := Aside0.mk (hbox); have n2_ := Aside0.mk ((by rw [hg]; exact (below_size (by repeat (first | (with_reducible first | exact HB.out | apply below_alloc | apply pw_below_drewN | apply below_drew1) | exact HB.out))) : w.heap.size ≤ gb118)); have n3_ := Aside0.mk ((by rw [hg]; exact (below_size (by repeat (first | (with_reducible first | exact HB.out | apply below_alloc | apply pw_below_drewN | apply below_drew1) | exact HB.out))) : w.heap.size ≤ gb118)); clear HB; have HB := n0_; have BK118 := n1_; have GW118 := n2_; have GE118 := n3_; clear n0_ n1_ n2_ n3_; clear hb hbox hg) | ((with_reducible refine gate_callee (f := 77) rfl ?_); refine goesL_ (some 12) rfl rfl Tryd.func77 (by kernel_rfl) rfl #[.slice A0 l0.length c0, .int .i64 a1, .int .i64 a2] rfl (by (try simp only [List.map_toArray, List.map_cons, List.map_nil]); first | done | rfl | (simp only [List.length_drop, List.length_take]; rfl)) ?_; (with_reducible refine (spec_LsMore.calls k _ _ l0 a1 a2 false _ ?side1 ?side2 A5.out).mono ?_); (case side1 => repeat (first | exact (Kd.C_below HR0.out HB.out) | (with_reducible refine Kd.C_alloc ?_ _) | (with_reducible refine Kd.C_drewN ?_ _) | (with_reducible refine Kd.C_drew ?_))); (case side2 => exact HC0.out); rintro e w13 ⟨rfl, hb⟩; refine ⟨_, rfl, ?_⟩; have n0_ := Aside0.mk (blk_below (g := gb118) (o := .cells #[.int .i64 a3_0, .string a3_1, .string a3_2, .string a3_3, .string a3_4, .string a3_5, .string a3_6, .string a3_7, .string a3_8] 29 (0, 0)) (by (with_reducible repeat (first | refine blk_drewN ?_ _ | refine blk_drew ?_ | refine blk_alloc ?_ _)); exact BK118.out) hb); have n1_ := Aside0.mk (below_step (by repeat (first | (with_reducible first | exact HB.out | apply below_alloc | apply pw_below_drewN | apply below_drew1 | refine below_set ?_ GE118.out) | exact HB.out)) hb); clear BK118; clear HB; have BK118 := n0_; have HB := n1_; clear n0_ n1_; (try clear hb); (try clear hb2); (try clear hk); (try clear hi); have hcz14_0 : w13.cell? ⟨gb118, 0, none⟩ = some (.int .i64 a3_0) := (blk_cell BK118.out 0).trans rfl; have hcz14_1 : w13.cell? ⟨gb118, 1, none⟩ = some (.string a3_1) := (blk_cell BK118.out 1).trans rfl; have hcz14_2 : w13.cell? ⟨gb118, 2, none⟩ = some (.string a3_2) := (blk_cell BK118.out 2).trans rfl; have hcz14_3 : w13.cell? ⟨gb118, 3, none⟩ = some (.string a3_3) := (blk_cell BK118.out 3).trans rfl; have hcz14_4 : w13.cell? ⟨gb118, 4, none⟩ = some (.string a3_4) := (blk_cell BK118.out 4).trans rfl; have hcz14_5 : w13.cell? ⟨gb118, 5, none⟩ = some (.string a3_5) := (blk_cell BK118.out 5).trans rfl; have hcz14_6 : w13.cell? ⟨gb118, 6, none⟩ = some (.string a3_6) := (blk_cell BK118.out 6).trans rfl; have hcz14_7 : w13.cell? ⟨gb118, 7, none⟩ = some (.string a3_7) := (blk_cell BK118.out 7).trans rfl; have hcz14_8 : w13.cell? ⟨gb118, 8, none⟩ = some (.string a3_8) := (blk_cell BK118.out 8).trans rfl; have hfz14_0 := blk_frozen BK118.out 0; have hfz14_1 := blk_frozen BK118.out 1; have hfz14_2 := blk_frozen BK118.out 2; have hfz14_3 := blk_frozen BK118.out 3; have hfz14_4 := blk_frozen BK118.out 4; have hfz14_5 := blk_frozen BK118.out 5; have hfz14_6 := blk_frozen BK118.out 6; have hfz14_7 := blk_frozen BK118.out 7; have hfz14_8 := blk_frozen BK118.out 8) | ((with_reducible refine gate_callee (f := 80) rfl ?_); refine goesL_ (some 17) rfl rfl Tryd.func80 (by kernel_rfl) rfl #[.string a3_5] rfl (by (try simp only [List.map_toArray, List.map_cons, List.map_nil]); first | done | rfl | (simp only [List.length_drop, List.length_take]; rfl)) ?_; (with_reducible refine (spec_TxWidth.calls a3_5 t120 _ A10.out).mono ?_); rintro e w15 ⟨rfl, hb⟩; refine ⟨_, rfl, ?_⟩; have n0_ := Aside0.mk (blk_below (g := gb118) (o := .cells #[.int .i64 a3_0, .string a3_1, .string a3_2, .string a3_3, .string a3_4, .string a3_5, .string a3_6, .string a3_7, .string a3_8] 29 (0, 0)) (by (with_reducible repeat (first | refine blk_drewN ?_ _ | refine blk_drew ?_ | refine blk_alloc ?_ _)); exact BK118.out) hb); have n1_ := Aside0.mk (below_step (by repeat (first | (with_reducible first | exact HB.out | apply below_alloc | apply pw_below_drewN | apply below_drew1 | refine below_set ?_ GE118.out) | exact HB.out)) hb); clear BK118; clear HB; have BK118 := n0_; have HB := n1_; clear n0_ n1_; (try clear hb); (try clear hb2); (try clear hk); (try clear hi)) | ((with_reducible refine gate_callee (f := 79) rfl ?_); refine goesL_ (some 18) rfl rfl Tryd.func79 (by kernel_rfl) rfl #[.string (⟨#[32]⟩ : ByteArray), .int .i64 t120] rfl (by (try simp only [List.map_toArray, List.map_cons, List.map_nil]); first | done | rfl | (simp only [List.length_drop, List.length_take]; rfl)) ?_; (with_reducible refine (spec_TxTimes.calls (⟨#[32]⟩ : ByteArray) t120 t121 _ A11.out).mono ?_); rintro e w16 ⟨rfl, hb⟩; refine ⟨_, rfl, ?_⟩; have n0_ := Aside0.mk (blk_below (g := gb118) (o := .cells #[.int .i64 a3_0, .string a3_1, .string a3_2, .string a3_3, .string a3_4, .string a3_5, .string a3_6, .string a3_7, .string a3_8] 29 (0, 0)) (by (with_reducible repeat (first | refine blk_drewN ?_ _ | refine blk_drew ?_ | refine blk_alloc ?_ _)); exact BK118.out) hb); have n1_ := Aside0.mk (below_step (by repeat (first | (with_reducible first | exact HB.out | apply below_alloc | apply pw_below_drewN | apply below_drew1 | refine below_set ?_ GE118.out) | exact HB.out)) hb); clear BK118; clear HB; have BK118 := n0_; have HB := n1_; clear n0_ n1_; (try clear hb); (try clear hb2); (try clear hk); (try clear hi)))
    go_ret
    exact ⟨by first | rfl | (simp [errW_none, errW_some] <;> rfl) | (have e_ : ∀ l_ : List UInt8, (l_ != []) = !l_.isEmpty := fun l_ => (by cases l_ <;> rfl); simp [errW_none, errW_some, e_]; done) | (simp [*, errW_none, errW_some] <;> rfl), by repeat (first | (with_reducible first | exact HB.out | apply below_alloc | apply pw_below_drewN | apply below_drew1 | refine below_set ?_ GE118.out) | exact HB.out)⟩

/-! ### spec_LtAhead: function 53 -/
def spec_LtAhead.l0 : Nat → List (S54) → Int → ByteArray → Int → Int → Int → ByteArray → ByteArray → ByteArray → ByteArray → ByteArray → ByteArray → ByteArray → ByteArray → Option (ByteArray)
  | 0, _, _, _, _, _, _, _, _, _, _, _, _, _, _ => none
  | k + 1, x0, x1, x7, x15, x16, x123000, x123001, x123002, x123003, x123004, x123005, x123006, x123007, x123008 => if x16 < x15 then ((spec_ltLink.f k x0 x1 x16 x123000 x123001 x123002 x123003 x123004 x123005 x123006 x123007 x123008).bind fun t124 => (if x7.size + t124.size ≤ 9223372036854775807 then (spec_LtAhead.l0 k x0 x1 (x7 ++ t124) x15 (wrap64 (x16 + 1)) x123000 x123001 x123002 x123003 x123004 x123005 x123006 x123007 x123008) else (none))) else (some x7)
def spec_LtAhead.f (k : Nat) (l0 : List (S54)) (a1 : Int) (a2_0 : Int) (a2_1 : ByteArray) (a2_2 : ByteArray) (a2_3 : ByteArray) (a2_4 : ByteArray) (a2_5 : ByteArray) (a2_6 : ByteArray) (a2_7 : ByteArray) (a2_8 : ByteArray) : Option (ByteArray) := if 0 ≤ a1 then (if a1 < (l0.length : Int) then (spec_LtAhead.l0 k l0 a1 a2_8 ((rd_T54 l0 a1).f1) 0 a2_0 a2_1 a2_2 a2_3 a2_4 a2_5 a2_6 a2_7 a2_8) else (none)) else (none)
theorem spec_LtAhead.mono_l : ∀ k, (∀ y0 y1 y2 y3 y4 y5 y6 y7 y8 y9 y10 y11 y12 y13, LeO (spec_LtAhead.l0 k y0 y1 y2 y3 y4 y5 y6 y7 y8 y9 y10 y11 y12 y13) (spec_LtAhead.l0 (k + 1) y0 y1 y2 y3 y4 y5 y6 y7 y8 y9 y10 y11 y12 y13))
  | 0 => fun _ _ _ _ _ _ _ _ _ _ _ _ _ _ r h => by simp [spec_LtAhead.l0] at h
  | k + 1 => by
    have ih0 := spec_LtAhead.mono_l k
    · intro y0 y1 y2 y3 y4 y5 y6 y7 y8 y9 y10 y11 y12 y13
      unfold spec_LtAhead.l0
      repeat' first
      | (with_reducible exact ih0 _ _ _ _ _ _ _ _ _ _ _ _ _ _)
      | (with_reducible exact spec_ltLink.mono _ _ _ _ _ _ _ _ _ _ _ _ _)
      | (with_reducible exact LeO.refl _)
      | (with_reducible exact LeO.none _)
      | (with_reducible refine LeO.ite ?_ ?_)
      | (with_reducible refine LeO.bind ?_ (fun _ => ?_))
      | exact ih0 _ _ _ _ _ _ _ _ _ _ _ _ _ _
      | exact spec_ltLink.mono _ _ _ _ _ _ _ _ _ _ _ _ _
      | exact LeO.none _
      | refine LeO.ite ?_ ?_
      | refine LeO.bind ?_ (fun _ => ?_)
theorem spec_LtAhead.mono : ∀ a0 a1 a2 a3 a4 a5 a6 a7 a8 a9 a10 k, LeO (spec_LtAhead.f k a0 a1 a2 a3 a4 a5 a6 a7 a8 a9 a10) (spec_LtAhead.f (k + 1) a0 a1 a2 a3 a4 a5 a6 a7 a8 a9 a10) := by
  intro a0 a1 a2 a3 a4 a5 a6 a7 a8 a9 a10 k
  have ih0 := spec_LtAhead.mono_l k
  unfold spec_LtAhead.f
  repeat' first
      | (with_reducible exact ih0 _ _ _ _ _ _ _ _ _ _ _ _ _ _)
      | (with_reducible exact spec_ltLink.mono _ _ _ _ _ _ _ _ _ _ _ _ _)
      | (with_reducible exact LeO.refl _)
      | (with_reducible exact LeO.none _)
      | (with_reducible refine LeO.ite ?_ ?_)
      | (with_reducible refine LeO.bind ?_ (fun _ => ?_))
      | exact ih0 _ _ _ _ _ _ _ _ _ _ _ _ _ _
      | exact spec_ltLink.mono _ _ _ _ _ _ _ _ _ _ _ _ _
      | exact LeO.none _
      | refine LeO.ite ?_ ?_
      | refine LeO.bind ?_ (fun _ => ?_)
set_option maxHeartbeats 8000000 in
set_option maxRecDepth 100000 in
theorem spec_LtAhead.calls (k : Nat) (A0 : Option Addr) (c0 : Nat) (l0 : List (S54)) (a1 : Int) (a2_0 : Int) (a2_1 : ByteArray) (a2_2 : ByteArray) (a2_3 : ByteArray) (a2_4 : ByteArray) (a2_5 : ByteArray) (a2_6 : ByteArray) (a2_7 : ByteArray) (a2_8 : ByteArray) (r : ByteArray) (w : World) (hr0 : Kd.C k54 w A0 l0.length l0) (hc0 : l0.length ≤ c0) (h : spec_LtAhead.f k l0 a1 a2_0 a2_1 a2_2 a2_3 a2_4 a2_5 a2_6 a2_7 a2_8 = some r) :
    Calls Tryd.prog 53 #[.slice A0 l0.length c0, .int .i64 a1, .agg #[.int .i64 a2_0, .string a2_1, .string a2_2, .string a2_3, .string a2_4, .string a2_5, .string a2_6, .string a2_7, .string a2_8]] w fun e w' => e = .returned (.string r) ∧ Below w.heap.size w w' := by
  have hu29 := Tryd.underlying29
  have HR0 := Aside0.mk hr0
  have HC0 := Aside0.mk hc0
  clear hr0 hc0
  have HB := Aside0.mk (Below.refl w.heap.size w)
  have H : (if 0 ≤ a1 then (if a1 < (l0.length : Int) then (spec_LtAhead.l0 k l0 a1 a2_8 ((rd_T54 l0 a1).f1) 0 a2_0 a2_1 a2_2 a2_3 a2_4 a2_5 a2_6 a2_7 a2_8) else (none)) else (none)) = some r := h
  clear h
  by_cases c4 : 0 ≤ a1
  · rw [if_pos c4] at H
    have c4b0 : decide (0 ≤ a1) = true := decide_eq_true c4
    clear c4
    by_cases c5 : a1 < (l0.length : Int)
    · rw [if_pos c5] at H
      have c5b0 : decide (a1 < (l0.length : Int)) = true := decide_eq_true c5
      clear c5
      have H' := Aside0.mk H
      clear H
      go_enter Tryd.func53, Tryd.ntmps53
      go_wp2_with (first | ((with_reducible refine gate_dst (N := 5) rfl ?_); refine box_event ?hg (N := 5) ?hd (cs := #[.int .i64 a2_0, .string a2_1, .string a2_2, .string a2_3, .string a2_4, .string a2_5, .string a2_6, .string a2_7, .string a2_8]) (t := 29) ?hr ?_; (case hd => rfl); (case hg => rfl); (case hr => first | (go_simp; done) | (go_simp; rfl)); intro gb122 hg w6 hbox hb; have n0_ := Aside0.mk (below_step (by repeat (first | (with_reducible first | exact HB.out | apply below_alloc | apply pw_below_drewN | apply below_drew1) | exact HB.out)) hb); have n1_ := Aside0.mk (hbox); have n2_ := Aside0.mk ((by rw [hg]; exact (below_size (by repeat (first | (with_reducible first | exact HB.out | apply below_alloc | apply pw_below_drewN | apply below_drew1) | exact HB.out))) : w.heap.size ≤ gb122)); have n3_ := Aside0.mk ((by rw [hg]; exact (below_size (by repeat (first | (with_reducible first | exact HB.out | apply below_alloc | apply pw_below_drewN | apply below_drew1) | exact HB.out))) : w.heap.size ≤ gb122)); clear HB; have HB := n0_; have BK122 := n1_; have GW122 := n2_; have GE122 := n3_; clear n0_ n1_ n2_ n3_; clear hb hbox hg; have hcz7_0 : w6.cell? ⟨gb122, 0, none⟩ = some (.int .i64 a2_0) := (blk_cell BK122.out 0).trans rfl; have hcz7_1 : w6.cell? ⟨gb122, 1, none⟩ = some (.string a2_1) := (blk_cell BK122.out 1).trans rfl; have hcz7_2 : w6.cell? ⟨gb122, 2, none⟩ = some (.string a2_2) := (blk_cell BK122.out 2).trans rfl; have hcz7_3 : w6.cell? ⟨gb122, 3, none⟩ = some (.string a2_3) := (blk_cell BK122.out 3).trans rfl; have hcz7_4 : w6.cell? ⟨gb122, 4, none⟩ = some (.string a2_4) := (blk_cell BK122.out 4).trans rfl; have hcz7_5 : w6.cell? ⟨gb122, 5, none⟩ = some (.string a2_5) := (blk_cell BK122.out 5).trans rfl; have hcz7_6 : w6.cell? ⟨gb122, 6, none⟩ = some (.string a2_6) := (blk_cell BK122.out 6).trans rfl; have hcz7_7 : w6.cell? ⟨gb122, 7, none⟩ = some (.string a2_7) := (blk_cell BK122.out 7).trans rfl; have hcz7_8 : w6.cell? ⟨gb122, 8, none⟩ = some (.string a2_8) := (blk_cell BK122.out 8).trans rfl; have hfz7_0 := blk_frozen BK122.out 0; have hfz7_1 := blk_frozen BK122.out 1; have hfz7_2 := blk_frozen BK122.out 2; have hfz7_3 := blk_frozen BK122.out 3; have hfz7_4 := blk_frozen BK122.out 4; have hfz7_5 := blk_frozen BK122.out 5; have hfz7_6 := blk_frozen BK122.out 6; have hfz7_7 := blk_frozen BK122.out 7; have hfz7_8 := blk_frozen BK122.out 8; have p123 : 0 ≤ (a1 : Int) := of_decide_eq_true (by first | (with_reducible assumption) | assumption); have q123 : a1 < (l0.length : Int) := of_decide_eq_true (by first | (with_reducible assumption) | assumption); obtain ⟨ad123, e123, hx123_0, hx123_1⟩ := at_T54 HR0.out a1 p123 q123; cases e123; replace hx123_0 := (HB.out.cell (World.block_lt_of_cell? w _ hx123_0)).trans hx123_0; replace hx123_1 := (HB.out.cell (World.block_lt_of_cell? w _ hx123_1)).trans hx123_1; replace p123 := eq_true p123; replace q123 := eq_true q123))
      go_loopg [7, 16] k (fun kq v7 v16 w' => ∃ (x7_1 : ByteArray) (x16_1 : Int), v7 = .string x7_1 ∧ v16 = .int .i64 x16_1 ∧ Aside0 (spec_LtAhead.l0 kq l0 a1 x7_1 ((rd_T54 l0 a1).f1) x16_1 a2_0 a2_1 a2_2 a2_3 a2_4 a2_5 a2_6 a2_7 a2_8 = some r) ∧ Aside0 (kq ≤ k) ∧ Aside0 (w'.heap[gb122]? = some (.cells #[.int .i64 a2_0, .string a2_1, .string a2_2, .string a2_3, .string a2_4, .string a2_5, .string a2_6, .string a2_7, .string a2_8] 29 (0, 0))) ∧ Aside0 (Below w.heap.size w w'))
      case atStart => exact ⟨(a2_8), (0), (by first | rfl | (simp; done) | (simp [*]; done)), (by first | rfl | (simp; done) | (simp [*]; done)), H', ⟨Nat.le_refl _⟩, ⟨by (with_reducible repeat (first | refine blk_drewN ?_ _ | refine blk_drew ?_ | refine blk_alloc ?_ _)); exact BK122.out⟩, ⟨by repeat (first | (with_reducible first | exact HB.out | apply below_alloc | apply pw_below_drewN | apply below_drew1 | refine below_set ?_ GE122.out) | exact HB.out)⟩⟩
      case round =>
        clear H'
        try clear p1
        try clear q1
        try clear hx1
        try clear p2
        try clear c4
        try clear c4b0
        try clear c5
        try clear c5b0
        try clear hcz7_0
        try clear hcz7_1
        try clear hcz7_2
        try clear hcz7_3
        try clear hcz7_4
        try clear hcz7_5
        try clear hcz7_6
        try clear hcz7_7
        try clear hcz7_8
        try clear hfz7_0
        try clear hfz7_1
        try clear hfz7_2
        try clear hfz7_3
        try clear hfz7_4
        try clear hfz7_5
        try clear hfz7_6
        try clear hfz7_7
        try clear hfz7_8
        try clear hx123_0
        try clear hx123_1
        try clear p123
        try clear q123
        obtain ⟨x7_1, x16_1, rfl, rfl, HA, HK1, BK122, HB⟩ := hrel
        cases gk with
        | zero => exact absurd HA.out (by simp [spec_LtAhead.l0])
        | succ k1 =>
          have H := HA.out
          clear HA
          simp only [spec_LtAhead.l0] at H
          by_cases c8 : x16_1 < ((rd_T54 l0 a1).f1)
          · rw [if_pos c8] at H
            have c8b0 : decide (x16_1 < ((rd_T54 l0 a1).f1)) = true := decide_eq_true c8
            clear c8
            replace H := Option.bind_eq_some_iff.mp H
            obtain ⟨t124, A90, H⟩ := H
            replace H : (if x7_1.size + t124.size ≤ 9223372036854775807 then (spec_LtAhead.l0 k1 l0 a1 (x7_1 ++ t124) ((rd_T54 l0 a1).f1) (wrap64 (x16_1 + 1)) a2_0 a2_1 a2_2 a2_3 a2_4 a2_5 a2_6 a2_7 a2_8) else (none)) = some r := H
            have A9 := Aside0.mk A90
            clear A90
            by_cases c10 : x7_1.size + t124.size ≤ 9223372036854775807
            · rw [if_pos c10] at H
              have c10b0 := eq_true c10
              have c10b1 : decide (x7_1.size + t124.size ≤ 9223372036854775807) = true := decide_eq_true c10
              try have c10b2 : (9223372036854775807 < x7_1.size + t124.size) = False := eq_false (Nat.not_lt.2 c10)
              have H' := Aside0.mk H
              clear H
              have hcz11_0 : wr.cell? ⟨gb122, 0, none⟩ = some (.int .i64 a2_0) := (blk_cell BK122.out 0).trans rfl
              have hcz11_1 : wr.cell? ⟨gb122, 1, none⟩ = some (.string a2_1) := (blk_cell BK122.out 1).trans rfl
              have hcz11_2 : wr.cell? ⟨gb122, 2, none⟩ = some (.string a2_2) := (blk_cell BK122.out 2).trans rfl
              have hcz11_3 : wr.cell? ⟨gb122, 3, none⟩ = some (.string a2_3) := (blk_cell BK122.out 3).trans rfl
              have hcz11_4 : wr.cell? ⟨gb122, 4, none⟩ = some (.string a2_4) := (blk_cell BK122.out 4).trans rfl
              have hcz11_5 : wr.cell? ⟨gb122, 5, none⟩ = some (.string a2_5) := (blk_cell BK122.out 5).trans rfl
              have hcz11_6 : wr.cell? ⟨gb122, 6, none⟩ = some (.string a2_6) := (blk_cell BK122.out 6).trans rfl
              have hcz11_7 : wr.cell? ⟨gb122, 7, none⟩ = some (.string a2_7) := (blk_cell BK122.out 7).trans rfl
              have hcz11_8 : wr.cell? ⟨gb122, 8, none⟩ = some (.string a2_8) := (blk_cell BK122.out 8).trans rfl
              have hfz11_0 := blk_frozen BK122.out 0
              have hfz11_1 := blk_frozen BK122.out 1
              have hfz11_2 := blk_frozen BK122.out 2
              have hfz11_3 := blk_frozen BK122.out 3
              have hfz11_4 := blk_frozen BK122.out 4
              have hfz11_5 := blk_frozen BK122.out 5
              have hfz11_6 := blk_frozen BK122.out 6
              have hfz11_7 := blk_frozen BK122.out 7
              have hfz11_8 := blk_frozen BK122.out 8
              go_wp2_with (first | ((with_reducible refine gate_callee (f := 55) rfl ?_); refine goesL_ (some 24) rfl rfl Tryd.func55 (by kernel_rfl) rfl #[.slice (some ad123) l0.length c0, .int .i64 a1, .int .i64 x16_1, .agg #[.int .i64 a2_0, .string a2_1, .string a2_2, .string a2_3, .string a2_4, .string a2_5, .string a2_6, .string a2_7, .string a2_8]] rfl (by (try simp only [List.map_toArray, List.map_cons, List.map_nil]); first | done | rfl | (simp only [List.length_drop, List.length_take]; rfl)) ?_; (with_reducible refine (spec_ltLink.calls k1 _ _ l0 a1 x16_1 a2_0 a2_1 a2_2 a2_3 a2_4 a2_5 a2_6 a2_7 a2_8 t124 _ ?side1 ?side2 A9.out).mono ?_); (case side1 => repeat (first | exact (Kd.C_below HR0.out HB.out) | (with_reducible refine Kd.C_alloc ?_ _) | (with_reducible refine Kd.C_drewN ?_ _) | (with_reducible refine Kd.C_drew ?_))); (case side2 => exact HC0.out); rintro e w12 ⟨rfl, hb⟩; refine ⟨_, rfl, ?_⟩; have n0_ := Aside0.mk (blk_below (g := gb122) (o := .cells #[.int .i64 a2_0, .string a2_1, .string a2_2, .string a2_3, .string a2_4, .string a2_5, .string a2_6, .string a2_7, .string a2_8] 29 (0, 0)) (by (with_reducible repeat (first | refine blk_drewN ?_ _ | refine blk_drew ?_ | refine blk_alloc ?_ _)); exact BK122.out) hb); have n1_ := Aside0.mk (below_step (by repeat (first | (with_reducible first | exact HB.out | apply below_alloc | apply pw_below_drewN | apply below_drew1 | refine below_set ?_ GE122.out) | exact HB.out)) hb); clear BK122; clear HB; have BK122 := n0_; have HB := n1_; clear n0_ n1_; (try clear hb); (try clear hb2); (try clear hk); (try clear hi)))
              go_roundg k1
              case measure => have := HK1.out; omega
              case rel => exact ⟨(x7_1 ++ t124), (wrap64 (x16_1 + 1)), (by first | rfl | (simp; done) | (simp [*]; done)), (by first | rfl | (simp; done) | (simp [*]; done)), H', ⟨by have := HK1.out; omega⟩, ⟨by (with_reducible repeat (first | refine blk_drewN ?_ _ | refine blk_drew ?_ | refine blk_alloc ?_ _)); exact BK122.out⟩, ⟨by repeat (first | (with_reducible first | exact HB.out | apply below_alloc | apply pw_below_drewN | apply below_drew1 | refine below_set ?_ GE122.out) | exact HB.out)⟩⟩
            · rw [if_neg c10] at H
              exact absurd H (by simp)
          · rw [if_neg c8] at H
            have c8b0 : decide (x16_1 < ((rd_T54 l0 a1).f1)) = false := decide_eq_false c8
            clear c8
            obtain rfl := Option.some.inj H
            go_wp2
            go_ret
            exact ⟨by first | rfl | (simp [errW_none, errW_some] <;> rfl) | (have e_ : ∀ l_ : List UInt8, (l_ != []) = !l_.isEmpty := fun l_ => (by cases l_ <;> rfl); simp [errW_none, errW_some, e_]; done) | (simp [*, errW_none, errW_some] <;> rfl), by repeat (first | (with_reducible first | exact HB.out | apply below_alloc | apply pw_below_drewN | apply below_drew1 | refine below_set ?_ GE122.out) | exact HB.out)⟩
    · rw [if_neg c5] at H
      exact absurd H (by simp)
  · rw [if_neg c4] at H
    exact absurd H (by simp)

/-! ### spec_LsFirst: function 78 -/
def spec_LsFirst.f (l0 : List (S54)) (a1 : Int) : Option (Bool) := if a1 = 0 then (some true) else (if 0 ≤ (wrap64 (a1 - 1)) then (if (wrap64 (a1 - 1)) < (l0.length : Int) then (if 0 ≤ a1 then (if a1 < (l0.length : Int) then (some (decide (((rd_T54 l0 (wrap64 (a1 - 1))).f1) < ((rd_T54 l0 a1).f1)))) else (none)) else (none)) else (none)) else (none))
set_option maxHeartbeats 8000000 in
set_option maxRecDepth 100000 in
theorem spec_LsFirst.calls (A0 : Option Addr) (c0 : Nat) (l0 : List (S54)) (a1 : Int) (r : Bool) (w : World) (hr0 : Kd.C k54 w A0 l0.length l0) (hc0 : l0.length ≤ c0) (h : spec_LsFirst.f l0 a1 = some r) :
    Calls Tryd.prog 78 #[.slice A0 l0.length c0, .int .i64 a1] w fun e w' => e = .returned (.bool r) ∧ Drawn0 w w' := by
  have HR0 := Aside0.mk hr0
  have HC0 := Aside0.mk hc0
  clear hr0 hc0
  have H : (if a1 = 0 then (some true) else (if 0 ≤ (wrap64 (a1 - 1)) then (if (wrap64 (a1 - 1)) < (l0.length : Int) then (if 0 ≤ a1 then (if a1 < (l0.length : Int) then (some (decide (((rd_T54 l0 (wrap64 (a1 - 1))).f1) < ((rd_T54 l0 a1).f1)))) else (none)) else (none)) else (none)) else (none))) = some r := h
  clear h
  by_cases c3 : a1 = 0
  · rw [if_pos c3] at H
    have c3b0 : (a1 == 0) = true := beq_iff_eq.mpr c3
    have c3b1 : (a1 != 0) = false := bne_eq_false_iff_eq.mpr c3
    clear c3
    obtain rfl := Option.some.inj H
    go_enter Tryd.func78, Tryd.ntmps78
    go_wp2
    repeat (go_quiet (fail); try go_wp2)
    go_ret
    exact ⟨by first | rfl | (simp; done) | (simp [*]; done), by repeat (first | exact Drawn0.refl _ | apply Drawn0.step)⟩
  · rw [if_neg c3] at H
    have c3b0 : (a1 == 0) = false := beq_eq_false_iff_ne.mpr c3
    have c3b1 : (a1 != 0) = true := bne_iff_ne.mpr c3
    obtain ⟨ji4, hji4⟩ : ∃ j_ : Int, (wrap64 (a1 - 1)) = j_ := ⟨_, rfl⟩
    replace H : (if 0 ≤ (ji4) then (if (ji4) < (l0.length : Int) then (if 0 ≤ a1 then (if a1 < (l0.length : Int) then (some (decide (((rd_T54 l0 (ji4)).f1) < ((rd_T54 l0 a1).f1)))) else (none)) else (none)) else (none)) else (none)) = some r := by first | (rw [hji4] at H; exact H) | (simp only [hji4] at H ⊢; exact H)
    have hji4w : (IntKind.i64.wrap (a1 - 1)) = ji4 := (i64_w _).trans hji4
    by_cases c5 : 0 ≤ (ji4)
    · rw [if_pos c5] at H
      have c5b0 : decide (0 ≤ (ji4)) = true := decide_eq_true c5
      clear c5
      by_cases c6 : (ji4) < (l0.length : Int)
      · rw [if_pos c6] at H
        have c6b0 : decide ((ji4) < (l0.length : Int)) = true := decide_eq_true c6
        clear c6
        by_cases c7 : 0 ≤ a1
        · rw [if_pos c7] at H
          have c7b0 : decide (0 ≤ a1) = true := decide_eq_true c7
          clear c7
          by_cases c8 : a1 < (l0.length : Int)
          · rw [if_pos c8] at H
            have c8b0 : decide (a1 < (l0.length : Int)) = true := decide_eq_true c8
            clear c8
            obtain rfl := Option.some.inj H
            have p125 : 0 ≤ ((ji4) : Int) := of_decide_eq_true (by first | (with_reducible assumption) | assumption)
            have q125 : (ji4) < (l0.length : Int) := of_decide_eq_true (by first | (with_reducible assumption) | assumption)
            obtain ⟨ad125, e125, hx125_0, hx125_1⟩ := at_T54 HR0.out (ji4) p125 q125
            cases e125
            replace p125 := eq_true p125
            replace q125 := eq_true q125
            have p126 : 0 ≤ (a1 : Int) := of_decide_eq_true (by first | (with_reducible assumption) | assumption)
            have q126 : a1 < (l0.length : Int) := of_decide_eq_true (by first | (with_reducible assumption) | assumption)
            obtain ⟨ad126, e126, hx126_0, hx126_1⟩ := at_T54 HR0.out a1 p126 q126
            obtain rfl : ad125 = ad126 := (by injection e126)
            replace p126 := eq_true p126
            replace q126 := eq_true q126
            go_enter Tryd.func78, Tryd.ntmps78
            go_wp2
            repeat (go_quiet (fail); try go_wp2)
            go_ret
            exact ⟨by first | rfl | (simp; done) | (simp only [← hji4] <;> (first | rfl | simp)) | (simp [*]; done), by repeat (first | exact Drawn0.refl _ | apply Drawn0.step)⟩
          · rw [if_neg c8] at H
            exact absurd H (by simp)
        · rw [if_neg c7] at H
          exact absurd H (by simp)
      · rw [if_neg c6] at H
        exact absurd H (by simp)
    · rw [if_neg c5] at H
      exact absurd H (by simp)

/-! ### spec_LtBullet: function 54 -/
def spec_LtBullet.j0 : Nat → Int → Bool → Bool → Bool → Int → ByteArray → ByteArray → ByteArray → ByteArray → ByteArray → ByteArray → ByteArray → ByteArray → Option (ByteArray)
  | 0, _, _, _, _, _, _, _, _, _, _, _, _, _ => none
  | k + 1, x1, x7, x8, x20, x128000, x128001, x128002, x128003, x128004, x128005, x128006, x128007, x128008 => if x20 = true then (some x128001) else (if x1 = 0 then (some x128002) else (if x7 = true then (if x8 = true then (some x128003) else (some x128004)) else (some x128006)))
def spec_LtBullet.f (k : Nat) (l0 : List (S54)) (a1 : Int) (a2_0 : Int) (a2_1 : ByteArray) (a2_2 : ByteArray) (a2_3 : ByteArray) (a2_4 : ByteArray) (a2_5 : ByteArray) (a2_6 : ByteArray) (a2_7 : ByteArray) (a2_8 : ByteArray) : Option (ByteArray) := if 0 ≤ a1 then (if a1 < (l0.length : Int) then ((spec_LsMore.f k l0 a1 ((rd_T54 l0 a1).f1)).bind fun t129 => ((spec_LsFirst.f l0 a1).bind fun t130 => (if t130 = true then (if t129 = true then (spec_LtBullet.j0 k a1 t129 t130 false a2_0 a2_1 a2_2 a2_3 a2_4 a2_5 a2_6 a2_7 a2_8) else (spec_LtBullet.j0 k a1 t129 t130 (a1 == 0) a2_0 a2_1 a2_2 a2_3 a2_4 a2_5 a2_6 a2_7 a2_8)) else (spec_LtBullet.j0 k a1 t129 t130 false a2_0 a2_1 a2_2 a2_3 a2_4 a2_5 a2_6 a2_7 a2_8)))) else (none)) else (none)
theorem spec_LtBullet.mono_l : ∀ k, (∀ y0 y1 y2 y3 y4 y5 y6 y7 y8 y9 y10 y11 y12, LeO (spec_LtBullet.j0 k y0 y1 y2 y3 y4 y5 y6 y7 y8 y9 y10 y11 y12) (spec_LtBullet.j0 (k + 1) y0 y1 y2 y3 y4 y5 y6 y7 y8 y9 y10 y11 y12))
  | 0 => fun _ _ _ _ _ _ _ _ _ _ _ _ _ r h => by simp [spec_LtBullet.j0] at h
  | k + 1 => by
    have ih0 := spec_LtBullet.mono_l k
    · intro y0 y1 y2 y3 y4 y5 y6 y7 y8 y9 y10 y11 y12
      unfold spec_LtBullet.j0
      repeat' first
      | (with_reducible exact ih0 _ _ _ _ _ _ _ _ _ _ _ _ _)
      | (with_reducible exact spec_LsMore.mono _ _ _ _)
      | (with_reducible exact LeO.refl _)
      | (with_reducible exact LeO.none _)
      | (with_reducible refine LeO.ite ?_ ?_)
      | (with_reducible refine LeO.bind ?_ (fun _ => ?_))
      | exact ih0 _ _ _ _ _ _ _ _ _ _ _ _ _
      | exact spec_LsMore.mono _ _ _ _
      | exact LeO.none _
      | refine LeO.ite ?_ ?_
      | refine LeO.bind ?_ (fun _ => ?_)
theorem spec_LtBullet.mono : ∀ a0 a1 a2 a3 a4 a5 a6 a7 a8 a9 a10 k, LeO (spec_LtBullet.f k a0 a1 a2 a3 a4 a5 a6 a7 a8 a9 a10) (spec_LtBullet.f (k + 1) a0 a1 a2 a3 a4 a5 a6 a7 a8 a9 a10) := by
  intro a0 a1 a2 a3 a4 a5 a6 a7 a8 a9 a10 k
  have ih0 := spec_LtBullet.mono_l k
  unfold spec_LtBullet.f
  repeat' first
      | (with_reducible exact ih0 _ _ _ _ _ _ _ _ _ _ _ _ _)
      | (with_reducible exact spec_LsMore.mono _ _ _ _)
      | (with_reducible exact LeO.refl _)
      | (with_reducible exact LeO.none _)
      | (with_reducible refine LeO.ite ?_ ?_)
      | (with_reducible refine LeO.bind ?_ (fun _ => ?_))
      | exact ih0 _ _ _ _ _ _ _ _ _ _ _ _ _
      | exact spec_LsMore.mono _ _ _ _
      | exact LeO.none _
      | refine LeO.ite ?_ ?_
      | refine LeO.bind ?_ (fun _ => ?_)
set_option maxHeartbeats 8000000 in
set_option maxRecDepth 100000 in
theorem spec_LtBullet.calls (k : Nat) (A0 : Option Addr) (c0 : Nat) (l0 : List (S54)) (a1 : Int) (a2_0 : Int) (a2_1 : ByteArray) (a2_2 : ByteArray) (a2_3 : ByteArray) (a2_4 : ByteArray) (a2_5 : ByteArray) (a2_6 : ByteArray) (a2_7 : ByteArray) (a2_8 : ByteArray) (r : ByteArray) (w : World) (hr0 : Kd.C k54 w A0 l0.length l0) (hc0 : l0.length ≤ c0) (h : spec_LtBullet.f k l0 a1 a2_0 a2_1 a2_2 a2_3 a2_4 a2_5 a2_6 a2_7 a2_8 = some r) :
    Calls Tryd.prog 54 #[.slice A0 l0.length c0, .int .i64 a1, .agg #[.int .i64 a2_0, .string a2_1, .string a2_2, .string a2_3, .string a2_4, .string a2_5, .string a2_6, .string a2_7, .string a2_8]] w fun e w' => e = .returned (.string r) ∧ Below w.heap.size w w' := by
  have hu29 := Tryd.underlying29
  have HR0 := Aside0.mk hr0
  have HC0 := Aside0.mk hc0
  clear hr0 hc0
  have HB := Aside0.mk (Below.refl w.heap.size w)
  have H : (if 0 ≤ a1 then (if a1 < (l0.length : Int) then ((spec_LsMore.f k l0 a1 ((rd_T54 l0 a1).f1)).bind fun t129 => ((spec_LsFirst.f l0 a1).bind fun t130 => (if t130 = true then (if t129 = true then (spec_LtBullet.j0 k a1 t129 t130 false a2_0 a2_1 a2_2 a2_3 a2_4 a2_5 a2_6 a2_7 a2_8) else (spec_LtBullet.j0 k a1 t129 t130 (a1 == 0) a2_0 a2_1 a2_2 a2_3 a2_4 a2_5 a2_6 a2_7 a2_8)) else (spec_LtBullet.j0 k a1 t129 t130 false a2_0 a2_1 a2_2 a2_3 a2_4 a2_5 a2_6 a2_7 a2_8)))) else (none)) else (none)) = some r := h
  clear h
  by_cases c4 : 0 ≤ a1
  · rw [if_pos c4] at H
    have c4b0 : decide (0 ≤ a1) = true := decide_eq_true c4
    clear c4
    by_cases c5 : a1 < (l0.length : Int)
    · rw [if_pos c5] at H
      have c5b0 : decide (a1 < (l0.length : Int)) = true := decide_eq_true c5
      clear c5
      replace H := Option.bind_eq_some_iff.mp H
      obtain ⟨t129, A60, H⟩ := H
      replace H : ((spec_LsFirst.f l0 a1).bind fun t130 => (if t130 = true then (if t129 = true then (spec_LtBullet.j0 k a1 t129 t130 false a2_0 a2_1 a2_2 a2_3 a2_4 a2_5 a2_6 a2_7 a2_8) else (spec_LtBullet.j0 k a1 t129 t130 (a1 == 0) a2_0 a2_1 a2_2 a2_3 a2_4 a2_5 a2_6 a2_7 a2_8)) else (spec_LtBullet.j0 k a1 t129 t130 false a2_0 a2_1 a2_2 a2_3 a2_4 a2_5 a2_6 a2_7 a2_8))) = some r := H
      have A6 := Aside0.mk A60
      clear A60
      replace H := Option.bind_eq_some_iff.mp H
      obtain ⟨t130, A70, H⟩ := H
      replace H : (if t130 = true then (if t129 = true then (spec_LtBullet.j0 k a1 t129 t130 false a2_0 a2_1 a2_2 a2_3 a2_4 a2_5 a2_6 a2_7 a2_8) else (spec_LtBullet.j0 k a1 t129 t130 (a1 == 0) a2_0 a2_1 a2_2 a2_3 a2_4 a2_5 a2_6 a2_7 a2_8)) else (spec_LtBullet.j0 k a1 t129 t130 false a2_0 a2_1 a2_2 a2_3 a2_4 a2_5 a2_6 a2_7 a2_8)) = some r := H
      have A7 := Aside0.mk A70
      clear A70
      have HC8 := Aside0.mk H
      clear H
      go_enter Tryd.func54, Tryd.ntmps54
      go_upto_region 2 with (first | ((with_reducible refine gate_dst (N := 5) rfl ?_); refine box_event ?hg (N := 5) ?hd (cs := #[.int .i64 a2_0, .string a2_1, .string a2_2, .string a2_3, .string a2_4, .string a2_5, .string a2_6, .string a2_7, .string a2_8]) (t := 29) ?hr ?_; (case hd => rfl); (case hg => rfl); (case hr => first | (go_simp; done) | (go_simp; rfl)); intro gb127 hg w9 hbox hb; have n0_ := Aside0.mk (below_step (by repeat (first | (with_reducible first | exact HB.out | apply below_alloc | apply pw_below_drewN | apply below_drew1) | exact HB.out)) hb); have n1_ := Aside0.mk (hbox); have n2_ := Aside0.mk ((by rw [hg]; exact (below_size (by repeat (first | (with_reducible first | exact HB.out | apply below_alloc | apply pw_below_drewN | apply below_drew1) | exact HB.out))) : w.heap.size ≤ gb127)); have n3_ := Aside0.mk ((by rw [hg]; exact (below_size (by repeat (first | (with_reducible first | exact HB.out | apply below_alloc | apply pw_below_drewN | apply below_drew1) | exact HB.out))) : w.heap.size ≤ gb127)); clear HB; have HB := n0_; have BK127 := n1_; have GW127 := n2_; have GE127 := n3_; clear n0_ n1_ n2_ n3_; clear hb hbox hg; have p128 : 0 ≤ (a1 : Int) := of_decide_eq_true (by first | (with_reducible assumption) | assumption); have q128 : a1 < (l0.length : Int) := of_decide_eq_true (by first | (with_reducible assumption) | assumption); obtain ⟨ad128, e128, hx128_0, hx128_1⟩ := at_T54 HR0.out a1 p128 q128; cases e128; replace hx128_0 := (HB.out.cell (World.block_lt_of_cell? w _ hx128_0)).trans hx128_0; replace hx128_1 := (HB.out.cell (World.block_lt_of_cell? w _ hx128_1)).trans hx128_1; replace p128 := eq_true p128; replace q128 := eq_true q128) | ((with_reducible refine gate_callee (f := 77) rfl ?_); refine goesL_ (some 16) rfl rfl Tryd.func77 (by kernel_rfl) rfl #[.slice (some ad128) l0.length c0, .int .i64 a1, .int .i64 ((rd_T54 l0 a1).f1)] rfl (by (try simp only [List.map_toArray, List.map_cons, List.map_nil]); first | done | rfl | (simp only [List.length_drop, List.length_take]; rfl)) ?_; (with_reducible refine (spec_LsMore.calls k _ _ l0 a1 ((rd_T54 l0 a1).f1) t129 _ ?side1 ?side2 A6.out).mono ?_); (case side1 => repeat (first | exact (Kd.C_below HR0.out HB.out) | (with_reducible refine Kd.C_alloc ?_ _) | (with_reducible refine Kd.C_drewN ?_ _) | (with_reducible refine Kd.C_drew ?_))); (case side2 => exact HC0.out); rintro e w10 ⟨rfl, hb⟩; refine ⟨_, rfl, ?_⟩; have n0_ := Aside0.mk (blk_below (g := gb127) (o := .cells #[.int .i64 a2_0, .string a2_1, .string a2_2, .string a2_3, .string a2_4, .string a2_5, .string a2_6, .string a2_7, .string a2_8] 29 (0, 0)) (by (with_reducible repeat (first | refine blk_drewN ?_ _ | refine blk_drew ?_ | refine blk_alloc ?_ _)); exact BK127.out) hb); have n1_ := Aside0.mk (below_step (by repeat (first | (with_reducible first | exact HB.out | apply below_alloc | apply pw_below_drewN | apply below_drew1 | refine below_set ?_ GE127.out) | exact HB.out)) hb); clear BK127; clear HB; have BK127 := n0_; have HB := n1_; clear n0_ n1_; (try clear hb); (try clear hb2); (try clear hk); (try clear hi)) | ((with_reducible refine gate_callee (f := 78) rfl ?_); refine goesL_ (some 19) rfl rfl Tryd.func78 (by kernel_rfl) rfl #[.slice (some ad128) l0.length c0, .int .i64 a1] rfl (by (try simp only [List.map_toArray, List.map_cons, List.map_nil]); first | done | rfl | (simp only [List.length_drop, List.length_take]; rfl)) ?_; (with_reducible refine (spec_LsFirst.calls _ _ l0 a1 t130 _ ?side1 ?side2 A7.out).mono ?_); (case side1 => repeat (first | exact (Kd.C_below HR0.out HB.out) | (with_reducible refine Kd.C_alloc ?_ _) | (with_reducible refine Kd.C_drewN ?_ _) | (with_reducible refine Kd.C_drew ?_))); (case side2 => exact HC0.out); rintro e w' ⟨rfl, ⟨nd, rfl⟩⟩; refine ⟨_, rfl, ?_⟩))
      (try simp only [Act.put, List.setIfInBounds_toArray, List.set_cons_zero, List.set_cons_succ])
      go_cut [20] (fun v20 wc => ∃ (kq : Nat) (x20_7 : Bool), v20 = .bool x20_7 ∧ Aside0 (spec_LtBullet.j0 kq a1 t129 t130 x20_7 a2_0 a2_1 a2_2 a2_3 a2_4 a2_5 a2_6 a2_7 a2_8 = some r) ∧ Aside0 (kq ≤ k) ∧ Aside0 (wc.heap[gb127]? = some (.cells #[.int .i64 a2_0, .string a2_1, .string a2_2, .string a2_3, .string a2_4, .string a2_5, .string a2_6, .string a2_7, .string a2_8] 29 (0, 0))) ∧ Aside0 (Below w.heap.size w wc))
      case first =>
        have H := HC8.out
        clear HC8
        by_cases c11 : t130 = true
        · subst c11
          have H1 : (if t129 = true then (spec_LtBullet.j0 k a1 t129 true false a2_0 a2_1 a2_2 a2_3 a2_4 a2_5 a2_6 a2_7 a2_8) else (spec_LtBullet.j0 k a1 t129 true (a1 == 0) a2_0 a2_1 a2_2 a2_3 a2_4 a2_5 a2_6 a2_7 a2_8)) = some r := by rw [if_pos rfl] at H; exact H
          clear H
          have H := H1
          clear H1
          by_cases c12 : t129 = true
          · subst c12
            have H1 : (spec_LtBullet.j0 k a1 true true false a2_0 a2_1 a2_2 a2_3 a2_4 a2_5 a2_6 a2_7 a2_8) = some r := by rw [if_pos rfl] at H; exact H
            clear H
            have H := H1
            clear H1
            have H' := Aside0.mk H
            clear H
            go_wp2
            go_meet
            case rel => exact ⟨_, (false), (by first | rfl | (simp; done) | (simp [*]; done)), H', ⟨by first | omega | exact Nat.le_refl _⟩, ⟨by (with_reducible repeat (first | refine blk_drewN ?_ _ | refine blk_drew ?_ | refine blk_alloc ?_ _)); exact BK127.out⟩, ⟨by repeat (first | (with_reducible first | exact HB.out | apply below_alloc | apply pw_below_drewN | apply below_drew1 | refine below_set ?_ GE127.out) | exact HB.out)⟩⟩
          · replace c12 := Bool.eq_false_iff.mpr c12
            subst c12
            have H1 : (spec_LtBullet.j0 k a1 false true (a1 == 0) a2_0 a2_1 a2_2 a2_3 a2_4 a2_5 a2_6 a2_7 a2_8) = some r := by rw [if_neg (show ¬ (false = true) by decide)] at H; exact H
            clear H
            have H := H1
            clear H1
            have H' := Aside0.mk H
            clear H
            go_wp2
            go_meet
            case rel => exact ⟨_, ((a1 == 0)), (by first | rfl | (simp; done) | (simp [*]; done)), H', ⟨by first | omega | exact Nat.le_refl _⟩, ⟨by (with_reducible repeat (first | refine blk_drewN ?_ _ | refine blk_drew ?_ | refine blk_alloc ?_ _)); exact BK127.out⟩, ⟨by repeat (first | (with_reducible first | exact HB.out | apply below_alloc | apply pw_below_drewN | apply below_drew1 | refine below_set ?_ GE127.out) | exact HB.out)⟩⟩
        · replace c11 := Bool.eq_false_iff.mpr c11
          subst c11
          have H1 : (spec_LtBullet.j0 k a1 t129 false false a2_0 a2_1 a2_2 a2_3 a2_4 a2_5 a2_6 a2_7 a2_8) = some r := by rw [if_neg (show ¬ (false = true) by decide)] at H; exact H
          clear H
          have H := H1
          clear H1
          have H' := Aside0.mk H
          clear H
          go_wp2
          go_meet
          case rel => exact ⟨_, (false), (by first | rfl | (simp; done) | (simp [*]; done)), H', ⟨by first | omega | exact Nat.le_refl _⟩, ⟨by (with_reducible repeat (first | refine blk_drewN ?_ _ | refine blk_drew ?_ | refine blk_alloc ?_ _)); exact BK127.out⟩, ⟨by repeat (first | (with_reducible first | exact HB.out | apply below_alloc | apply pw_below_drewN | apply below_drew1 | refine below_set ?_ GE127.out) | exact HB.out)⟩⟩
      case rest =>
        clear HC8
        try clear c1
        try clear p1
        try clear q1
        try clear hx1
        try clear p2
        try clear c4
        try clear c4b0
        try clear c5
        try clear c5b0
        try clear c7
        try clear c11
        try clear c12
        try clear p12
        try clear q12
        try clear hx12
        try clear hx128_0
        try clear hx128_1
        try clear p128
        try clear q128
        obtain ⟨kq, x20_7, rfl, HA, HJ7, BK127, HB⟩ := hcut
        cases kq with
        | zero => exact absurd HA.out (by simp [spec_LtBullet.j0])
        | succ kj7 =>
          have H := HA.out
          clear HA
          simp only [spec_LtBullet.j0] at H
          by_cases c13 : x20_7 = true
          · subst c13
            have H1 : (some a2_1) = some r := by rw [if_pos rfl] at H; exact H
            clear H
            have H := H1
            clear H1
            obtain rfl := Option.some.inj H
            have hcz14_0 : wc.cell? ⟨gb127, 0, none⟩ = some (.int .i64 a2_0) := (blk_cell BK127.out 0).trans rfl
            have hcz14_1 : wc.cell? ⟨gb127, 1, none⟩ = some (.string a2_1) := (blk_cell BK127.out 1).trans rfl
            have hcz14_2 : wc.cell? ⟨gb127, 2, none⟩ = some (.string a2_2) := (blk_cell BK127.out 2).trans rfl
            have hcz14_3 : wc.cell? ⟨gb127, 3, none⟩ = some (.string a2_3) := (blk_cell BK127.out 3).trans rfl
            have hcz14_4 : wc.cell? ⟨gb127, 4, none⟩ = some (.string a2_4) := (blk_cell BK127.out 4).trans rfl
            have hcz14_5 : wc.cell? ⟨gb127, 5, none⟩ = some (.string a2_5) := (blk_cell BK127.out 5).trans rfl
            have hcz14_6 : wc.cell? ⟨gb127, 6, none⟩ = some (.string a2_6) := (blk_cell BK127.out 6).trans rfl
            have hcz14_7 : wc.cell? ⟨gb127, 7, none⟩ = some (.string a2_7) := (blk_cell BK127.out 7).trans rfl
            have hcz14_8 : wc.cell? ⟨gb127, 8, none⟩ = some (.string a2_8) := (blk_cell BK127.out 8).trans rfl
            have hfz14_0 := blk_frozen BK127.out 0
            have hfz14_1 := blk_frozen BK127.out 1
            have hfz14_2 := blk_frozen BK127.out 2
            have hfz14_3 := blk_frozen BK127.out 3
            have hfz14_4 := blk_frozen BK127.out 4
            have hfz14_5 := blk_frozen BK127.out 5
            have hfz14_6 := blk_frozen BK127.out 6
            have hfz14_7 := blk_frozen BK127.out 7
            have hfz14_8 := blk_frozen BK127.out 8
            go_wp2
            go_ret
            exact ⟨by first | rfl | (simp [errW_none, errW_some] <;> rfl) | (have e_ : ∀ l_ : List UInt8, (l_ != []) = !l_.isEmpty := fun l_ => (by cases l_ <;> rfl); simp [errW_none, errW_some, e_]; done) | (simp [*, errW_none, errW_some] <;> rfl), by repeat (first | (with_reducible first | exact HB.out | apply below_alloc | apply pw_below_drewN | apply below_drew1 | refine below_set ?_ GE127.out) | exact HB.out)⟩
          · replace c13 := Bool.eq_false_iff.mpr c13
            subst c13
            have H1 : (if a1 = 0 then (some a2_2) else (if t129 = true then (if t130 = true then (some a2_3) else (some a2_4)) else (some a2_6))) = some r := by rw [if_neg (show ¬ (false = true) by decide)] at H; exact H
            clear H
            have H := H1
            clear H1
            by_cases c15 : a1 = 0
            · rw [if_pos c15] at H
              have c15b0 : (a1 == 0) = true := beq_iff_eq.mpr c15
              have c15b1 : (a1 != 0) = false := bne_eq_false_iff_eq.mpr c15
              clear c15
              obtain rfl := Option.some.inj H
              have hcz16_0 : wc.cell? ⟨gb127, 0, none⟩ = some (.int .i64 a2_0) := (blk_cell BK127.out 0).trans rfl
              have hcz16_1 : wc.cell? ⟨gb127, 1, none⟩ = some (.string a2_1) := (blk_cell BK127.out 1).trans rfl
              have hcz16_2 : wc.cell? ⟨gb127, 2, none⟩ = some (.string a2_2) := (blk_cell BK127.out 2).trans rfl
              have hcz16_3 : wc.cell? ⟨gb127, 3, none⟩ = some (.string a2_3) := (blk_cell BK127.out 3).trans rfl
              have hcz16_4 : wc.cell? ⟨gb127, 4, none⟩ = some (.string a2_4) := (blk_cell BK127.out 4).trans rfl
              have hcz16_5 : wc.cell? ⟨gb127, 5, none⟩ = some (.string a2_5) := (blk_cell BK127.out 5).trans rfl
              have hcz16_6 : wc.cell? ⟨gb127, 6, none⟩ = some (.string a2_6) := (blk_cell BK127.out 6).trans rfl
              have hcz16_7 : wc.cell? ⟨gb127, 7, none⟩ = some (.string a2_7) := (blk_cell BK127.out 7).trans rfl
              have hcz16_8 : wc.cell? ⟨gb127, 8, none⟩ = some (.string a2_8) := (blk_cell BK127.out 8).trans rfl
              have hfz16_0 := blk_frozen BK127.out 0
              have hfz16_1 := blk_frozen BK127.out 1
              have hfz16_2 := blk_frozen BK127.out 2
              have hfz16_3 := blk_frozen BK127.out 3
              have hfz16_4 := blk_frozen BK127.out 4
              have hfz16_5 := blk_frozen BK127.out 5
              have hfz16_6 := blk_frozen BK127.out 6
              have hfz16_7 := blk_frozen BK127.out 7
              have hfz16_8 := blk_frozen BK127.out 8
              go_wp2
              go_ret
              exact ⟨by first | rfl | (simp [errW_none, errW_some] <;> rfl) | (have e_ : ∀ l_ : List UInt8, (l_ != []) = !l_.isEmpty := fun l_ => (by cases l_ <;> rfl); simp [errW_none, errW_some, e_]; done) | (simp [*, errW_none, errW_some] <;> rfl), by repeat (first | (with_reducible first | exact HB.out | apply below_alloc | apply pw_below_drewN | apply below_drew1 | refine below_set ?_ GE127.out) | exact HB.out)⟩
            · rw [if_neg c15] at H
              have c15b0 : (a1 == 0) = false := beq_eq_false_iff_ne.mpr c15
              have c15b1 : (a1 != 0) = true := bne_iff_ne.mpr c15
              by_cases c17 : t129 = true
              · subst c17
                have H1 : (if t130 = true then (some a2_3) else (some a2_4)) = some r := by rw [if_pos rfl] at H; exact H
                clear H
                have H := H1
                clear H1
                by_cases c18 : t130 = true
                · subst c18
                  have H1 : (some a2_3) = some r := by rw [if_pos rfl] at H; exact H
                  clear H
                  have H := H1
                  clear H1
                  obtain rfl := Option.some.inj H
                  have hcz19_0 : wc.cell? ⟨gb127, 0, none⟩ = some (.int .i64 a2_0) := (blk_cell BK127.out 0).trans rfl
                  have hcz19_1 : wc.cell? ⟨gb127, 1, none⟩ = some (.string a2_1) := (blk_cell BK127.out 1).trans rfl
                  have hcz19_2 : wc.cell? ⟨gb127, 2, none⟩ = some (.string a2_2) := (blk_cell BK127.out 2).trans rfl
                  have hcz19_3 : wc.cell? ⟨gb127, 3, none⟩ = some (.string a2_3) := (blk_cell BK127.out 3).trans rfl
                  have hcz19_4 : wc.cell? ⟨gb127, 4, none⟩ = some (.string a2_4) := (blk_cell BK127.out 4).trans rfl
                  have hcz19_5 : wc.cell? ⟨gb127, 5, none⟩ = some (.string a2_5) := (blk_cell BK127.out 5).trans rfl
                  have hcz19_6 : wc.cell? ⟨gb127, 6, none⟩ = some (.string a2_6) := (blk_cell BK127.out 6).trans rfl
                  have hcz19_7 : wc.cell? ⟨gb127, 7, none⟩ = some (.string a2_7) := (blk_cell BK127.out 7).trans rfl
                  have hcz19_8 : wc.cell? ⟨gb127, 8, none⟩ = some (.string a2_8) := (blk_cell BK127.out 8).trans rfl
                  have hfz19_0 := blk_frozen BK127.out 0
                  have hfz19_1 := blk_frozen BK127.out 1
                  have hfz19_2 := blk_frozen BK127.out 2
                  have hfz19_3 := blk_frozen BK127.out 3
                  have hfz19_4 := blk_frozen BK127.out 4
                  have hfz19_5 := blk_frozen BK127.out 5
                  have hfz19_6 := blk_frozen BK127.out 6
                  have hfz19_7 := blk_frozen BK127.out 7
                  have hfz19_8 := blk_frozen BK127.out 8
                  go_wp2
                  go_ret
                  exact ⟨by first | rfl | (simp [errW_none, errW_some] <;> rfl) | (have e_ : ∀ l_ : List UInt8, (l_ != []) = !l_.isEmpty := fun l_ => (by cases l_ <;> rfl); simp [errW_none, errW_some, e_]; done) | (simp [*, errW_none, errW_some] <;> rfl), by repeat (first | (with_reducible first | exact HB.out | apply below_alloc | apply pw_below_drewN | apply below_drew1 | refine below_set ?_ GE127.out) | exact HB.out)⟩
                · replace c18 := Bool.eq_false_iff.mpr c18
                  subst c18
                  have H1 : (some a2_4) = some r := by rw [if_neg (show ¬ (false = true) by decide)] at H; exact H
                  clear H
                  have H := H1
                  clear H1
                  obtain rfl := Option.some.inj H
                  have hcz20_0 : wc.cell? ⟨gb127, 0, none⟩ = some (.int .i64 a2_0) := (blk_cell BK127.out 0).trans rfl
                  have hcz20_1 : wc.cell? ⟨gb127, 1, none⟩ = some (.string a2_1) := (blk_cell BK127.out 1).trans rfl
                  have hcz20_2 : wc.cell? ⟨gb127, 2, none⟩ = some (.string a2_2) := (blk_cell BK127.out 2).trans rfl
                  have hcz20_3 : wc.cell? ⟨gb127, 3, none⟩ = some (.string a2_3) := (blk_cell BK127.out 3).trans rfl
                  have hcz20_4 : wc.cell? ⟨gb127, 4, none⟩ = some (.string a2_4) := (blk_cell BK127.out 4).trans rfl
                  have hcz20_5 : wc.cell? ⟨gb127, 5, none⟩ = some (.string a2_5) := (blk_cell BK127.out 5).trans rfl
                  have hcz20_6 : wc.cell? ⟨gb127, 6, none⟩ = some (.string a2_6) := (blk_cell BK127.out 6).trans rfl
                  have hcz20_7 : wc.cell? ⟨gb127, 7, none⟩ = some (.string a2_7) := (blk_cell BK127.out 7).trans rfl
                  have hcz20_8 : wc.cell? ⟨gb127, 8, none⟩ = some (.string a2_8) := (blk_cell BK127.out 8).trans rfl
                  have hfz20_0 := blk_frozen BK127.out 0
                  have hfz20_1 := blk_frozen BK127.out 1
                  have hfz20_2 := blk_frozen BK127.out 2
                  have hfz20_3 := blk_frozen BK127.out 3
                  have hfz20_4 := blk_frozen BK127.out 4
                  have hfz20_5 := blk_frozen BK127.out 5
                  have hfz20_6 := blk_frozen BK127.out 6
                  have hfz20_7 := blk_frozen BK127.out 7
                  have hfz20_8 := blk_frozen BK127.out 8
                  go_wp2
                  go_ret
                  exact ⟨by first | rfl | (simp [errW_none, errW_some] <;> rfl) | (have e_ : ∀ l_ : List UInt8, (l_ != []) = !l_.isEmpty := fun l_ => (by cases l_ <;> rfl); simp [errW_none, errW_some, e_]; done) | (simp [*, errW_none, errW_some] <;> rfl), by repeat (first | (with_reducible first | exact HB.out | apply below_alloc | apply pw_below_drewN | apply below_drew1 | refine below_set ?_ GE127.out) | exact HB.out)⟩
              · replace c17 := Bool.eq_false_iff.mpr c17
                subst c17
                have H1 : (some a2_6) = some r := by rw [if_neg (show ¬ (false = true) by decide)] at H; exact H
                clear H
                have H := H1
                clear H1
                obtain rfl := Option.some.inj H
                have hcz21_0 : wc.cell? ⟨gb127, 0, none⟩ = some (.int .i64 a2_0) := (blk_cell BK127.out 0).trans rfl
                have hcz21_1 : wc.cell? ⟨gb127, 1, none⟩ = some (.string a2_1) := (blk_cell BK127.out 1).trans rfl
                have hcz21_2 : wc.cell? ⟨gb127, 2, none⟩ = some (.string a2_2) := (blk_cell BK127.out 2).trans rfl
                have hcz21_3 : wc.cell? ⟨gb127, 3, none⟩ = some (.string a2_3) := (blk_cell BK127.out 3).trans rfl
                have hcz21_4 : wc.cell? ⟨gb127, 4, none⟩ = some (.string a2_4) := (blk_cell BK127.out 4).trans rfl
                have hcz21_5 : wc.cell? ⟨gb127, 5, none⟩ = some (.string a2_5) := (blk_cell BK127.out 5).trans rfl
                have hcz21_6 : wc.cell? ⟨gb127, 6, none⟩ = some (.string a2_6) := (blk_cell BK127.out 6).trans rfl
                have hcz21_7 : wc.cell? ⟨gb127, 7, none⟩ = some (.string a2_7) := (blk_cell BK127.out 7).trans rfl
                have hcz21_8 : wc.cell? ⟨gb127, 8, none⟩ = some (.string a2_8) := (blk_cell BK127.out 8).trans rfl
                have hfz21_0 := blk_frozen BK127.out 0
                have hfz21_1 := blk_frozen BK127.out 1
                have hfz21_2 := blk_frozen BK127.out 2
                have hfz21_3 := blk_frozen BK127.out 3
                have hfz21_4 := blk_frozen BK127.out 4
                have hfz21_5 := blk_frozen BK127.out 5
                have hfz21_6 := blk_frozen BK127.out 6
                have hfz21_7 := blk_frozen BK127.out 7
                have hfz21_8 := blk_frozen BK127.out 8
                go_wp2
                go_ret
                exact ⟨by first | rfl | (simp [errW_none, errW_some] <;> rfl) | (have e_ : ∀ l_ : List UInt8, (l_ != []) = !l_.isEmpty := fun l_ => (by cases l_ <;> rfl); simp [errW_none, errW_some, e_]; done) | (simp [*, errW_none, errW_some] <;> rfl), by repeat (first | (with_reducible first | exact HB.out | apply below_alloc | apply pw_below_drewN | apply below_drew1 | refine below_set ?_ GE127.out) | exact HB.out)⟩
    · rw [if_neg c5] at H
      exact absurd H (by simp)
  · rw [if_neg c4] at H
    exact absurd H (by simp)

end Go.Proofs.YteenhipldfdkaaaDoor.P
