/- Printed by a program of this session (pf.sh): Go functions as Lean functions, with their contracts. -/
import Derived.Test.YteenhipldfdkaaaPx0
import Derived.Test.YteenhipldfdkaaaPx4
import Derived.Test.YteenhipldfdkaaaFf
namespace Go.Proofs.Yteenhipldfdkaaa.P
open Go.RowKit Go.Proofs.YteenhipldfdkaaaW.PrintWords Go.Proofs.YteenhipldfdkaaaW.PrintLast Go.Proofs.YteenhipldfdkaaaW.PrintMore
attribute [local go_sem] max2_int min2_int max_two min_two max_three min_three max_four min_four   -- for this text's walks alone
set_option linter.unusedVariables false
set_option linter.unusedSimpArgs false

/-! ### spec_LsNames: function 9 -/
def spec_LsNames.l0 : Nat → List (S43) → Int → Int → Option (Bool)
  | 0, _, _, _ => none
  | k + 1, x5, x6, x7 => if x7 < x6 then (if 0 ≤ x7 then (if x7 < (x5.length : Int) then ((spec_LsName.f k ((rd_T43 x5 x7).f0)).bind fun t125 => (if t125 = true then (spec_LsNames.l0 k x5 x6 (wrap64 (x7 + 1))) else (some false))) else (none)) else (none)) else (some true)
def spec_LsNames.f (k : Nat) (l0 : List (S43)) : Option (Bool) := spec_LsNames.l0 k l0 (l0.length : Int) 0
theorem spec_LsNames.mono_l : ∀ k, (∀ y0 y1 y2, LeO (spec_LsNames.l0 k y0 y1 y2) (spec_LsNames.l0 (k + 1) y0 y1 y2))
  | 0 => fun _ _ _ r h => by simp [spec_LsNames.l0] at h
  | k + 1 => by
    have ih0 := spec_LsNames.mono_l k
    · intro y0 y1 y2
      unfold spec_LsNames.l0
      repeat' first
      | (with_reducible exact ih0 _ _ _)
      | (with_reducible exact spec_LsName.mono _ _)
      | (with_reducible exact LeO.refl _)
      | (with_reducible exact LeO.none _)
      | (with_reducible refine LeO.ite ?_ ?_)
      | (with_reducible refine LeO.bind ?_ (fun _ => ?_))
      | exact ih0 _ _ _
      | exact spec_LsName.mono _ _
      | exact LeO.none _
      | refine LeO.ite ?_ ?_
      | refine LeO.bind ?_ (fun _ => ?_)
theorem spec_LsNames.mono : ∀ a0 k, LeO (spec_LsNames.f k a0) (spec_LsNames.f (k + 1) a0) := by
  intro a0 k
  have ih0 := spec_LsNames.mono_l k
  unfold spec_LsNames.f
  repeat' first
      | (with_reducible exact ih0 _ _ _)
      | (with_reducible exact spec_LsName.mono _ _)
      | (with_reducible exact LeO.refl _)
      | (with_reducible exact LeO.none _)
      | (with_reducible refine LeO.ite ?_ ?_)
      | (with_reducible refine LeO.bind ?_ (fun _ => ?_))
      | exact ih0 _ _ _
      | exact spec_LsName.mono _ _
      | exact LeO.none _
      | refine LeO.ite ?_ ?_
      | refine LeO.bind ?_ (fun _ => ?_)
set_option maxHeartbeats 8000000 in
set_option maxRecDepth 100000 in
theorem spec_LsNames.calls (k : Nat) (A0 : Option Addr) (c0 : Nat) (l0 : List (S43)) (r : Bool) (w : World) (hr0 : Kd.C k43 w A0 l0.length l0) (hc0 : l0.length ≤ c0) (h : spec_LsNames.f k l0 = some r) :
    Calls Try.prog 9 #[.slice A0 l0.length c0] w fun e w' => e = .returned (.bool r) ∧ Below w.heap.size w w' := by
  have hu43 := Try.underlying43
  have HR0 := Aside0.mk hr0
  have HC0 := Aside0.mk hc0
  clear hr0 hc0
  have HB := Aside0.mk (Below.refl w.heap.size w)
  have H : (spec_LsNames.l0 k l0 (l0.length : Int) 0) = some r := h
  clear h
  have H' := Aside0.mk H
  clear H
  go_enter Try.func9, Try.ntmps9
  go_wp2
  go_loopg [7] k (fun kq v7 w' => ∃ (x7_1 : Int), v7 = .int .i64 x7_1 ∧ Aside0 (spec_LsNames.l0 kq l0 (l0.length : Int) x7_1 = some r) ∧ Aside0 (kq ≤ k) ∧ Aside0 (Below w.heap.size w w'))
  case atStart => exact ⟨(0), (by first | rfl | (simp; done) | (simp [*]; done)), H', ⟨Nat.le_refl _⟩, ⟨by repeat (first | (with_reducible first | exact HB.out | apply below_alloc | apply pw_below_drewN | apply below_drew1) | exact HB.out)⟩⟩
  case round =>
    clear H'
    obtain ⟨x7_1, rfl, HA, HK1, HB⟩ := hrel
    cases gk with
    | zero => exact absurd HA.out (by simp [spec_LsNames.l0])
    | succ k1 =>
      have H := HA.out
      clear HA
      simp only [spec_LsNames.l0] at H
      by_cases c2 : x7_1 < (l0.length : Int)
      · rw [if_pos c2] at H
        have c2b0 : decide (x7_1 < (l0.length : Int)) = true := decide_eq_true c2
        clear c2
        by_cases c3 : 0 ≤ x7_1
        · rw [if_pos c3] at H
          have c3b0 : decide (0 ≤ x7_1) = true := decide_eq_true c3
          clear c3
          by_cases c4 : x7_1 < (l0.length : Int)
          · rw [if_pos c4] at H
            have c4b0 : decide (x7_1 < (l0.length : Int)) = true := decide_eq_true c4
            clear c4
            replace H := Option.bind_eq_some_iff.mp H
            obtain ⟨t125, A50, H⟩ := H
            replace H : (if t125 = true then (spec_LsNames.l0 k1 l0 (l0.length : Int) (wrap64 (x7_1 + 1))) else (some false)) = some r := H
            have A5 := Aside0.mk A50
            clear A50
            by_cases c6 : t125 = true
            · subst c6
              have H1 : (spec_LsNames.l0 k1 l0 (l0.length : Int) (wrap64 (x7_1 + 1))) = some r := by rw [if_pos rfl] at H; exact H
              clear H
              have H := H1
              clear H1
              have H' := Aside0.mk H
              clear H
              have p123 : 0 ≤ (x7_1 : Int) := of_decide_eq_true (by first | (with_reducible assumption) | assumption)
              have q123 : x7_1 < (l0.length : Int) := of_decide_eq_true (by first | (with_reducible assumption) | assumption)
              obtain ⟨ad123, e123, hx123_0, hx123_1⟩ := at_T43 HR0.out x7_1 p123 q123
              cases e123
              replace hx123_0 := (HB.out.cell (World.block_lt_of_cell? w _ hx123_0)).trans hx123_0
              replace hx123_1 := (HB.out.cell (World.block_lt_of_cell? w _ hx123_1)).trans hx123_1
              replace p123 := eq_true p123
              replace q123 := eq_true q123
              go_wp2_with (first | ((with_reducible refine gate_dst (N := 4) rfl ?_); refine box_event ?hg (N := 4) ?hd (cs := #[.string (⟨#[]⟩ : ByteArray), .int .i64 0]) (t := 43) ?hr ?_; (case hd => rfl); (case hg => rfl); (case hr => first | (go_simp; done) | (go_simp; rfl)); intro gb124 hg w7 hbox hb; have n0_ := Aside0.mk (below_step (by repeat (first | (with_reducible first | exact HB.out | apply below_alloc | apply pw_below_drewN | apply below_drew1) | exact HB.out)) hb); have n1_ := Aside0.mk (hbox); have n2_ := Aside0.mk ((by rw [hg]; exact (below_size (by repeat (first | (with_reducible first | exact HB.out | apply below_alloc | apply pw_below_drewN | apply below_drew1) | exact HB.out))) : w.heap.size ≤ gb124)); have n3_ := Aside0.mk ((by rw [hg]; exact (below_size (by repeat (first | (with_reducible first | exact HB.out | apply below_alloc | apply pw_below_drewN | apply below_drew1) | exact HB.out))) : w.heap.size ≤ gb124)); clear HB; have HB := n0_; have BK124 := n1_; have GW124 := n2_; have GE124 := n3_; clear n0_ n1_ n2_ n3_; clear hb hbox hg; have hcz8_0 : w7.cell? ⟨gb124, 0, none⟩ = some (.string (⟨#[]⟩ : ByteArray)) := (blk_cell BK124.out 0).trans rfl; have hcz8_1 : w7.cell? ⟨gb124, 1, none⟩ = some (.int .i64 0) := (blk_cell BK124.out 1).trans rfl; have hfz8_0 := blk_frozen BK124.out 0; have hfz8_1 := blk_frozen BK124.out 1) | ((with_reducible refine gate_callee (f := 10) rfl ?_); refine goesL_ (some 13) rfl rfl Try.func10 (by kernel_rfl) rfl #[.string ((rd_T43 l0 x7_1).f0)] rfl (by (try simp only [List.map_toArray, List.map_cons, List.map_nil]); first | done | rfl | (simp only [List.length_drop, List.length_take]; rfl)) ?_; (with_reducible refine (spec_LsName.calls k1 ((rd_T43 l0 x7_1).f0) true _ A5.out).mono ?_); rintro e w' ⟨rfl, ⟨nd, rfl⟩⟩; refine ⟨_, rfl, ?_⟩))
              go_roundg k1
              case measure => have := HK1.out; omega
              case rel => exact ⟨(wrap64 (x7_1 + 1)), (by first | rfl | (simp; done) | (simp [*]; done)), H', ⟨by have := HK1.out; omega⟩, ⟨by repeat (first | (with_reducible first | exact HB.out | apply below_alloc | apply pw_below_drewN | apply below_drew1 | refine below_set ?_ GE124.out) | exact HB.out)⟩⟩
            · replace c6 := Bool.eq_false_iff.mpr c6
              subst c6
              have H1 : (some false) = some r := by rw [if_neg (show ¬ (false = true) by decide)] at H; exact H
              clear H
              have H := H1
              clear H1
              obtain rfl := Option.some.inj H
              have p123 : 0 ≤ (x7_1 : Int) := of_decide_eq_true (by first | (with_reducible assumption) | assumption)
              have q123 : x7_1 < (l0.length : Int) := of_decide_eq_true (by first | (with_reducible assumption) | assumption)
              obtain ⟨ad123, e123, hx123_0, hx123_1⟩ := at_T43 HR0.out x7_1 p123 q123
              cases e123
              replace hx123_0 := (HB.out.cell (World.block_lt_of_cell? w _ hx123_0)).trans hx123_0
              replace hx123_1 := (HB.out.cell (World.block_lt_of_cell? w _ hx123_1)).trans hx123_1
              replace p123 := eq_true p123
              replace q123 := eq_true q123
              go_wp2_with (first | ((with_reducible refine gate_dst (N := 4) rfl ?_); refine box_event ?hg (N := 4) ?hd (cs := #[.string (⟨#[]⟩ : ByteArray), .int .i64 0]) (t := 43) ?hr ?_; (case hd => rfl); (case hg => rfl); (case hr => first | (go_simp; done) | (go_simp; rfl)); intro gb124 hg w9 hbox hb; have n0_ := Aside0.mk (below_step (by repeat (first | (with_reducible first | exact HB.out | apply below_alloc | apply pw_below_drewN | apply below_drew1) | exact HB.out)) hb); have n1_ := Aside0.mk (hbox); have n2_ := Aside0.mk ((by rw [hg]; exact (below_size (by repeat (first | (with_reducible first | exact HB.out | apply below_alloc | apply pw_below_drewN | apply below_drew1) | exact HB.out))) : w.heap.size ≤ gb124)); have n3_ := Aside0.mk ((by rw [hg]; exact (below_size (by repeat (first | (with_reducible first | exact HB.out | apply below_alloc | apply pw_below_drewN | apply below_drew1) | exact HB.out))) : w.heap.size ≤ gb124)); clear HB; have HB := n0_; have BK124 := n1_; have GW124 := n2_; have GE124 := n3_; clear n0_ n1_ n2_ n3_; clear hb hbox hg; have hcz10_0 : w9.cell? ⟨gb124, 0, none⟩ = some (.string (⟨#[]⟩ : ByteArray)) := (blk_cell BK124.out 0).trans rfl; have hcz10_1 : w9.cell? ⟨gb124, 1, none⟩ = some (.int .i64 0) := (blk_cell BK124.out 1).trans rfl; have hfz10_0 := blk_frozen BK124.out 0; have hfz10_1 := blk_frozen BK124.out 1) | ((with_reducible refine gate_callee (f := 10) rfl ?_); refine goesL_ (some 13) rfl rfl Try.func10 (by kernel_rfl) rfl #[.string ((rd_T43 l0 x7_1).f0)] rfl (by (try simp only [List.map_toArray, List.map_cons, List.map_nil]); first | done | rfl | (simp only [List.length_drop, List.length_take]; rfl)) ?_; (with_reducible refine (spec_LsName.calls k1 ((rd_T43 l0 x7_1).f0) false _ A5.out).mono ?_); rintro e w' ⟨rfl, ⟨nd, rfl⟩⟩; refine ⟨_, rfl, ?_⟩))
              go_ret
              exact ⟨by first | rfl | (simp [errW_none, errW_some] <;> rfl) | (have e_ : ∀ l_ : List UInt8, (l_ != []) = !l_.isEmpty := fun l_ => (by cases l_ <;> rfl); simp [errW_none, errW_some, e_]; done) | (simp [*, errW_none, errW_some] <;> rfl), by repeat (first | (with_reducible first | exact HB.out | apply below_alloc | apply pw_below_drewN | apply below_drew1 | refine below_set ?_ GE124.out) | exact HB.out)⟩
          · rw [if_neg c4] at H
            exact absurd H (by simp)
        · rw [if_neg c3] at H
          exact absurd H (by simp)
      · rw [if_neg c2] at H
        have c2b0 : decide (x7_1 < (l0.length : Int)) = false := decide_eq_false c2
        clear c2
        obtain rfl := Option.some.inj H
        go_wp2
        go_ret
        exact ⟨by first | rfl | (simp [errW_none, errW_some] <;> rfl) | (have e_ : ∀ l_ : List UInt8, (l_ != []) = !l_.isEmpty := fun l_ => (by cases l_ <;> rfl); simp [errW_none, errW_some, e_]; done) | (simp [*, errW_none, errW_some] <;> rfl), by repeat (first | (with_reducible first | exact HB.out | apply below_alloc | apply pw_below_drewN | apply below_drew1) | exact HB.out)⟩

-- FOREIGN: function 11 (spec_TxLines)

-- FOREIGN: function 12 (impl_ListHTML)

-- FOREIGN: function 23 (spec_LsBegins)

/-! ### spec_LtClassed: function 13 -/
def spec_LtClassed.l0 : Nat → ByteArray → ByteArray → Int → Option (ByteArray × Bool)
  | 0, _, _, _ => none
  | k + 1, x0, x1, x6 => if x6 < (x0.size : Int) then (if 0 ≤ x6 then (if (bt x0 x6) = 32 then (spec_LtClassed.l0 k x0 x1 (wrap64 (x6 + 1))) else (if x6 ≤ (x0.size : Int) then (if 11 + x1.size ≤ 9223372036854775807 then ((spec_LsBegins.f (x0.extract (x6 : Int).toNat x0.size) ((⟨#[60, 117, 108, 32, 99, 108, 97, 115, 115, 61, 34]⟩ : ByteArray) ++ x1)).bind fun bt126 => (if bt126.2 = true then (if (x0.extract 0 (x6 : Int).toNat).size + 12 ≤ 9223372036854775807 then (if ((x0.extract 0 (x6 : Int).toNat) ++ (⟨#[60, 117, 108, 32, 99, 108, 97, 115, 115, 61, 34, 42]⟩ : ByteArray)).size + bt126.1.size ≤ 9223372036854775807 then (some (((x0.extract 0 (x6 : Int).toNat) ++ (⟨#[60, 117, 108, 32, 99, 108, 97, 115, 115, 61, 34, 42]⟩ : ByteArray)) ++ bt126.1, true)) else (none)) else (none)) else (some (x0, false)))) else (none)) else (none))) else (none)) else (if 0 ≤ x6 then (if x6 ≤ (x0.size : Int) then (if 11 + x1.size ≤ 9223372036854775807 then ((spec_LsBegins.f (x0.extract (x6 : Int).toNat x0.size) ((⟨#[60, 117, 108, 32, 99, 108, 97, 115, 115, 61, 34]⟩ : ByteArray) ++ x1)).bind fun bt128 => (if bt128.2 = true then (if (x0.extract 0 (x6 : Int).toNat).size + 12 ≤ 9223372036854775807 then (if ((x0.extract 0 (x6 : Int).toNat) ++ (⟨#[60, 117, 108, 32, 99, 108, 97, 115, 115, 61, 34, 42]⟩ : ByteArray)).size + bt128.1.size ≤ 9223372036854775807 then (some (((x0.extract 0 (x6 : Int).toNat) ++ (⟨#[60, 117, 108, 32, 99, 108, 97, 115, 115, 61, 34, 42]⟩ : ByteArray)) ++ bt128.1, true)) else (none)) else (none)) else (some (x0, false)))) else (none)) else (none)) else (none))
def spec_LtClassed.f (k : Nat) (a0 : ByteArray) (a1 : ByteArray) : Option (ByteArray × Bool) := spec_LtClassed.l0 k a0 a1 0
theorem spec_LtClassed.mono_l : ∀ k, (∀ y0 y1 y2, LeO (spec_LtClassed.l0 k y0 y1 y2) (spec_LtClassed.l0 (k + 1) y0 y1 y2))
  | 0 => fun _ _ _ r h => by simp [spec_LtClassed.l0] at h
  | k + 1 => by
    have ih0 := spec_LtClassed.mono_l k
    · intro y0 y1 y2
      unfold spec_LtClassed.l0
      repeat' first
      | (with_reducible exact ih0 _ _ _)
      | (with_reducible exact LeO.refl _)
      | (with_reducible exact LeO.none _)
      | (with_reducible refine LeO.ite ?_ ?_)
      | (with_reducible refine LeO.bind ?_ (fun _ => ?_))
      | exact ih0 _ _ _
      | exact LeO.none _
      | refine LeO.ite ?_ ?_
      | refine LeO.bind ?_ (fun _ => ?_)
theorem spec_LtClassed.mono : ∀ a0 a1 k, LeO (spec_LtClassed.f k a0 a1) (spec_LtClassed.f (k + 1) a0 a1) := by
  intro a0 a1 k
  have ih0 := spec_LtClassed.mono_l k
  unfold spec_LtClassed.f
  repeat' first
      | (with_reducible exact ih0 _ _ _)
      | (with_reducible exact LeO.refl _)
      | (with_reducible exact LeO.none _)
      | (with_reducible refine LeO.ite ?_ ?_)
      | (with_reducible refine LeO.bind ?_ (fun _ => ?_))
      | exact ih0 _ _ _
      | exact LeO.none _
      | refine LeO.ite ?_ ?_
      | refine LeO.bind ?_ (fun _ => ?_)
set_option maxHeartbeats 8000000 in
set_option maxRecDepth 100000 in
theorem spec_LtClassed.calls (k : Nat) (a0 : ByteArray) (a1 : ByteArray) (r1 : ByteArray) (r2 : Bool) (w : World) (h : spec_LtClassed.f k a0 a1 = some (r1, r2)) :
    Calls Try.prog 13 #[.string a0, .string a1] w fun e w' => e = .returned (.tuple #[.string r1, .bool r2]) ∧ Drawn0 w w' := by
  have H : (spec_LtClassed.l0 k a0 a1 0) = some (r1, r2) := h
  clear h
  have H' := Aside0.mk H
  clear H
  go_enter Try.func13, Try.ntmps13
  go_wp2
  go_loopg [6] k (fun kq v6 w' => ∃ (x6_1 : Int), v6 = .int .i64 x6_1 ∧ Aside0 (spec_LtClassed.l0 kq a0 a1 x6_1 = some (r1, r2)) ∧ Aside0 (kq ≤ k) ∧ Drawn0 w w')
  case atStart => exact ⟨(0), (by first | rfl | (simp; done) | (simp [*]; done)), H', ⟨Nat.le_refl _⟩, by repeat (first | exact Drawn0.refl _ | apply Drawn0.step)⟩
  case round =>
    clear H'
    try clear c1
    try clear p2
    obtain ⟨x6_1, rfl, HA, HK1, ⟨m1, rfl⟩⟩ := hrel
    cases gk with
    | zero => exact absurd HA.out (by simp [spec_LtClassed.l0])
    | succ k1 =>
      have H := HA.out
      clear HA
      simp only [spec_LtClassed.l0] at H
      by_cases c3 : x6_1 < (a0.size : Int)
      · rw [if_pos c3] at H
        have c3b0 : decide (x6_1 < (a0.size : Int)) = true := decide_eq_true c3
        clear c3
        by_cases c4 : 0 ≤ x6_1
        · rw [if_pos c4] at H
          have c4b0 : decide (0 ≤ x6_1) = true := decide_eq_true c4
          clear c4
          by_cases c6 : (bt a0 x6_1) = 32
          · rw [if_pos c6] at H
            have c6b0 : ((bt a0 x6_1) == 32) = true := beq_iff_eq.mpr c6
            have c6b1 : ((bt a0 x6_1) != 32) = false := bne_eq_false_iff_eq.mpr c6
            clear c6
            have H' := Aside0.mk H
            clear H
            have p5 : 0 ≤ (x6_1 : Int) := of_decide_eq_true (by first | (with_reducible assumption) | assumption)
            have q5 : x6_1 < (a0.size : Int) := of_decide_eq_true (by first | (with_reducible assumption) | assumption)
            have hx5 := bt_at a0 x6_1
            replace p5 := eq_true p5
            replace q5 := eq_true q5
            go_wp2
            go_roundg k1
            case measure => have := HK1.out; omega
            case rel => exact ⟨(wrap64 (x6_1 + 1)), (by first | rfl | (simp; done) | (simp [*]; done)), H', ⟨by have := HK1.out; omega⟩, by repeat (first | exact Drawn0.refl _ | apply Drawn0.step)⟩
          · rw [if_neg c6] at H
            have c6b0 : ((bt a0 x6_1) == 32) = false := beq_eq_false_iff_ne.mpr c6
            have c6b1 : ((bt a0 x6_1) != 32) = true := bne_iff_ne.mpr c6
            have c7b0 := eq_true (of_decide_eq_true (by first | (with_reducible assumption) | assumption) : 0 ≤ x6_1)
            by_cases c8 : x6_1 ≤ (a0.size : Int)
            · rw [if_pos c8] at H
              have c8b0 := eq_true c8
              have c8b1 : decide (x6_1 ≤ (a0.size : Int)) = true := decide_eq_true c8
              clear c8
              by_cases c9 : 11 + a1.size ≤ 9223372036854775807
              · rw [if_pos c9] at H
                have c9b0 := eq_true c9
                have c9b1 : decide (11 + a1.size ≤ 9223372036854775807) = true := decide_eq_true c9
                try have c9b2 : (9223372036854775807 < 11 + a1.size) = False := eq_false (Nat.not_lt.2 c9)
                replace H := Option.bind_eq_some_iff.mp H
                obtain ⟨⟨t126, t127⟩, A100, H⟩ := H
                replace H : (if t127 = true then (if (a0.extract 0 (x6_1 : Int).toNat).size + 12 ≤ 9223372036854775807 then (if ((a0.extract 0 (x6_1 : Int).toNat) ++ (⟨#[60, 117, 108, 32, 99, 108, 97, 115, 115, 61, 34, 42]⟩ : ByteArray)).size + t126.size ≤ 9223372036854775807 then (some (((a0.extract 0 (x6_1 : Int).toNat) ++ (⟨#[60, 117, 108, 32, 99, 108, 97, 115, 115, 61, 34, 42]⟩ : ByteArray)) ++ t126, true)) else (none)) else (none)) else (some (a0, false))) = some (r1, r2) := H
                have A10 := Aside0.mk A100
                clear A100
                by_cases c11 : t127 = true
                · subst c11
                  have H1 : (if (a0.extract 0 (x6_1 : Int).toNat).size + 12 ≤ 9223372036854775807 then (if ((a0.extract 0 (x6_1 : Int).toNat) ++ (⟨#[60, 117, 108, 32, 99, 108, 97, 115, 115, 61, 34, 42]⟩ : ByteArray)).size + t126.size ≤ 9223372036854775807 then (some (((a0.extract 0 (x6_1 : Int).toNat) ++ (⟨#[60, 117, 108, 32, 99, 108, 97, 115, 115, 61, 34, 42]⟩ : ByteArray)) ++ t126, true)) else (none)) else (none)) = some (r1, r2) := by rw [if_pos rfl] at H; exact H
                  clear H
                  have H := H1
                  clear H1
                  have c12b0 := eq_true (of_decide_eq_true (by first | (with_reducible assumption) | assumption) : 0 ≤ x6_1)
                  have c13b0 := eq_true (of_decide_eq_true (by first | (with_reducible assumption) | assumption) : x6_1 ≤ (a0.size : Int))
                  by_cases c14 : (a0.extract 0 (x6_1 : Int).toNat).size + 12 ≤ 9223372036854775807
                  · rw [if_pos c14] at H
                    have c14b0 := eq_true c14
                    have c14b1 : decide ((a0.extract 0 (x6_1 : Int).toNat).size + 12 ≤ 9223372036854775807) = true := decide_eq_true c14
                    try have c14b2 : (9223372036854775807 < (a0.extract 0 (x6_1 : Int).toNat).size + 12) = False := eq_false (Nat.not_lt.2 c14)
                    try have c14b3 : (9223372036854775807 < x6_1.toNat + 12) = False := eq_false (by have h_ := c14; simp only [ByteArray.size_append', ByteArray.size_mk', ByteArray.size_extract, List.size_toArray, List.length_cons, List.length_nil] at h_; have g_0 : x6_1 ≤ (a0.size : Int) := of_decide_eq_true (by assumption); omega)
                    by_cases c15 : ((a0.extract 0 (x6_1 : Int).toNat) ++ (⟨#[60, 117, 108, 32, 99, 108, 97, 115, 115, 61, 34, 42]⟩ : ByteArray)).size + t126.size ≤ 9223372036854775807
                    · rw [if_pos c15] at H
                      have c15b0 := eq_true c15
                      have c15b1 : decide (((a0.extract 0 (x6_1 : Int).toNat) ++ (⟨#[60, 117, 108, 32, 99, 108, 97, 115, 115, 61, 34, 42]⟩ : ByteArray)).size + t126.size ≤ 9223372036854775807) = true := decide_eq_true c15
                      try have c15b2 : (9223372036854775807 < ((a0.extract 0 (x6_1 : Int).toNat) ++ (⟨#[60, 117, 108, 32, 99, 108, 97, 115, 115, 61, 34, 42]⟩ : ByteArray)).size + t126.size) = False := eq_false (Nat.not_lt.2 c15)
                      try have c15b3 : (9223372036854775807 < x6_1.toNat + 12 + t126.size) = False := eq_false (by have h_ := c15; simp only [ByteArray.size_append', ByteArray.size_mk', ByteArray.size_extract, List.size_toArray, List.length_cons, List.length_nil] at h_; have g_0 : x6_1 ≤ (a0.size : Int) := of_decide_eq_true (by assumption); omega)
                      simp only [Option.some.injEq, Prod.mk.injEq] at H
                      obtain ⟨rfl, rfl⟩ := H
                      have p5 : 0 ≤ (x6_1 : Int) := of_decide_eq_true (by first | (with_reducible assumption) | assumption)
                      have q5 : x6_1 < (a0.size : Int) := of_decide_eq_true (by first | (with_reducible assumption) | assumption)
                      have hx5 := bt_at a0 x6_1
                      replace p5 := eq_true p5
                      replace q5 := eq_true q5
                      go_wp2_with (first | ((with_reducible refine gate_callee (f := 23) rfl ?_); refine goesL_ (some 27) rfl rfl Try.func23 (by kernel_rfl) rfl #[.string (a0.extract (x6_1 : Int).toNat a0.size), .string ((⟨#[60, 117, 108, 32, 99, 108, 97, 115, 115, 61, 34]⟩ : ByteArray) ++ a1)] rfl (by (try simp only [List.map_toArray, List.map_cons, List.map_nil]); first | done | rfl | (simp only [List.length_drop, List.length_take]; rfl)) ?_; (with_reducible refine (spec_LsBegins.calls (a0.extract (x6_1 : Int).toNat a0.size) ((⟨#[60, 117, 108, 32, 99, 108, 97, 115, 115, 61, 34]⟩ : ByteArray) ++ a1) t126 true _ A10.out).mono ?_); rintro e w' ⟨rfl, ⟨nd, rfl⟩⟩; refine ⟨_, rfl, ?_⟩))
                      go_ret2
                      exact ⟨by first | rfl | (simp; done) | (simp [*]; done), by repeat (first | exact Drawn0.refl _ | apply Drawn0.step)⟩
                    · rw [if_neg c15] at H
                      exact absurd H (by simp)
                  · rw [if_neg c14] at H
                    exact absurd H (by simp)
                · replace c11 := Bool.eq_false_iff.mpr c11
                  subst c11
                  have H1 : (some (a0, false)) = some (r1, r2) := by rw [if_neg (show ¬ (false = true) by decide)] at H; exact H
                  clear H
                  have H := H1
                  clear H1
                  simp only [Option.some.injEq, Prod.mk.injEq] at H
                  obtain ⟨rfl, rfl⟩ := H
                  have p5 : 0 ≤ (x6_1 : Int) := of_decide_eq_true (by first | (with_reducible assumption) | assumption)
                  have q5 : x6_1 < (a0.size : Int) := of_decide_eq_true (by first | (with_reducible assumption) | assumption)
                  have hx5 := bt_at a0 x6_1
                  replace p5 := eq_true p5
                  replace q5 := eq_true q5
                  go_wp2_with (first | ((with_reducible refine gate_callee (f := 23) rfl ?_); refine goesL_ (some 27) rfl rfl Try.func23 (by kernel_rfl) rfl #[.string (a0.extract (x6_1 : Int).toNat a0.size), .string ((⟨#[60, 117, 108, 32, 99, 108, 97, 115, 115, 61, 34]⟩ : ByteArray) ++ a1)] rfl (by (try simp only [List.map_toArray, List.map_cons, List.map_nil]); first | done | rfl | (simp only [List.length_drop, List.length_take]; rfl)) ?_; (with_reducible refine (spec_LsBegins.calls (a0.extract (x6_1 : Int).toNat a0.size) ((⟨#[60, 117, 108, 32, 99, 108, 97, 115, 115, 61, 34]⟩ : ByteArray) ++ a1) t126 false _ A10.out).mono ?_); rintro e w' ⟨rfl, ⟨nd, rfl⟩⟩; refine ⟨_, rfl, ?_⟩))
                  go_ret2
                  exact ⟨by first | rfl | (simp; done) | (simp [*]; done), by repeat (first | exact Drawn0.refl _ | apply Drawn0.step)⟩
              · rw [if_neg c9] at H
                exact absurd H (by simp)
            · rw [if_neg c8] at H
              exact absurd H (by simp)
        · rw [if_neg c4] at H
          exact absurd H (by simp)
      · rw [if_neg c3] at H
        have c3b0 : decide (x6_1 < (a0.size : Int)) = false := decide_eq_false c3
        clear c3
        by_cases c16 : 0 ≤ x6_1
        · rw [if_pos c16] at H
          have c16b0 := eq_true c16
          have c16b1 : decide (0 ≤ x6_1) = true := decide_eq_true c16
          clear c16
          by_cases c17 : x6_1 ≤ (a0.size : Int)
          · rw [if_pos c17] at H
            have c17b0 := eq_true c17
            have c17b1 : decide (x6_1 ≤ (a0.size : Int)) = true := decide_eq_true c17
            clear c17
            by_cases c18 : 11 + a1.size ≤ 9223372036854775807
            · rw [if_pos c18] at H
              have c18b0 := eq_true c18
              have c18b1 : decide (11 + a1.size ≤ 9223372036854775807) = true := decide_eq_true c18
              try have c18b2 : (9223372036854775807 < 11 + a1.size) = False := eq_false (Nat.not_lt.2 c18)
              replace H := Option.bind_eq_some_iff.mp H
              obtain ⟨⟨t128, t129⟩, A190, H⟩ := H
              replace H : (if t129 = true then (if (a0.extract 0 (x6_1 : Int).toNat).size + 12 ≤ 9223372036854775807 then (if ((a0.extract 0 (x6_1 : Int).toNat) ++ (⟨#[60, 117, 108, 32, 99, 108, 97, 115, 115, 61, 34, 42]⟩ : ByteArray)).size + t128.size ≤ 9223372036854775807 then (some (((a0.extract 0 (x6_1 : Int).toNat) ++ (⟨#[60, 117, 108, 32, 99, 108, 97, 115, 115, 61, 34, 42]⟩ : ByteArray)) ++ t128, true)) else (none)) else (none)) else (some (a0, false))) = some (r1, r2) := H
              have A19 := Aside0.mk A190
              clear A190
              by_cases c20 : t129 = true
              · subst c20
                have H1 : (if (a0.extract 0 (x6_1 : Int).toNat).size + 12 ≤ 9223372036854775807 then (if ((a0.extract 0 (x6_1 : Int).toNat) ++ (⟨#[60, 117, 108, 32, 99, 108, 97, 115, 115, 61, 34, 42]⟩ : ByteArray)).size + t128.size ≤ 9223372036854775807 then (some (((a0.extract 0 (x6_1 : Int).toNat) ++ (⟨#[60, 117, 108, 32, 99, 108, 97, 115, 115, 61, 34, 42]⟩ : ByteArray)) ++ t128, true)) else (none)) else (none)) = some (r1, r2) := by rw [if_pos rfl] at H; exact H
                clear H
                have H := H1
                clear H1
                have c21b0 := eq_true (of_decide_eq_true (by first | (with_reducible assumption) | assumption) : 0 ≤ x6_1)
                have c22b0 := eq_true (of_decide_eq_true (by first | (with_reducible assumption) | assumption) : x6_1 ≤ (a0.size : Int))
                by_cases c23 : (a0.extract 0 (x6_1 : Int).toNat).size + 12 ≤ 9223372036854775807
                · rw [if_pos c23] at H
                  have c23b0 := eq_true c23
                  have c23b1 : decide ((a0.extract 0 (x6_1 : Int).toNat).size + 12 ≤ 9223372036854775807) = true := decide_eq_true c23
                  try have c23b2 : (9223372036854775807 < (a0.extract 0 (x6_1 : Int).toNat).size + 12) = False := eq_false (Nat.not_lt.2 c23)
                  try have c23b3 : (9223372036854775807 < x6_1.toNat + 12) = False := eq_false (by have h_ := c23; simp only [ByteArray.size_append', ByteArray.size_mk', ByteArray.size_extract, List.size_toArray, List.length_cons, List.length_nil] at h_; have g_0 : x6_1 ≤ (a0.size : Int) := of_decide_eq_true (by assumption); omega)
                  by_cases c24 : ((a0.extract 0 (x6_1 : Int).toNat) ++ (⟨#[60, 117, 108, 32, 99, 108, 97, 115, 115, 61, 34, 42]⟩ : ByteArray)).size + t128.size ≤ 9223372036854775807
                  · rw [if_pos c24] at H
                    have c24b0 := eq_true c24
                    have c24b1 : decide (((a0.extract 0 (x6_1 : Int).toNat) ++ (⟨#[60, 117, 108, 32, 99, 108, 97, 115, 115, 61, 34, 42]⟩ : ByteArray)).size + t128.size ≤ 9223372036854775807) = true := decide_eq_true c24
                    try have c24b2 : (9223372036854775807 < ((a0.extract 0 (x6_1 : Int).toNat) ++ (⟨#[60, 117, 108, 32, 99, 108, 97, 115, 115, 61, 34, 42]⟩ : ByteArray)).size + t128.size) = False := eq_false (Nat.not_lt.2 c24)
                    try have c24b3 : (9223372036854775807 < x6_1.toNat + 12 + t128.size) = False := eq_false (by have h_ := c24; simp only [ByteArray.size_append', ByteArray.size_mk', ByteArray.size_extract, List.size_toArray, List.length_cons, List.length_nil] at h_; have g_0 : x6_1 ≤ (a0.size : Int) := of_decide_eq_true (by assumption); omega)
                    simp only [Option.some.injEq, Prod.mk.injEq] at H
                    obtain ⟨rfl, rfl⟩ := H
                    go_wp2_with (first | ((with_reducible refine gate_callee (f := 23) rfl ?_); refine goesL_ (some 27) rfl rfl Try.func23 (by kernel_rfl) rfl #[.string (a0.extract (x6_1 : Int).toNat a0.size), .string ((⟨#[60, 117, 108, 32, 99, 108, 97, 115, 115, 61, 34]⟩ : ByteArray) ++ a1)] rfl (by (try simp only [List.map_toArray, List.map_cons, List.map_nil]); first | done | rfl | (simp only [List.length_drop, List.length_take]; rfl)) ?_; (with_reducible refine (spec_LsBegins.calls (a0.extract (x6_1 : Int).toNat a0.size) ((⟨#[60, 117, 108, 32, 99, 108, 97, 115, 115, 61, 34]⟩ : ByteArray) ++ a1) t128 true _ A19.out).mono ?_); rintro e w' ⟨rfl, ⟨nd, rfl⟩⟩; refine ⟨_, rfl, ?_⟩))
                    go_ret2
                    exact ⟨by first | rfl | (simp; done) | (simp [*]; done), by repeat (first | exact Drawn0.refl _ | apply Drawn0.step)⟩
                  · rw [if_neg c24] at H
                    exact absurd H (by simp)
                · rw [if_neg c23] at H
                  exact absurd H (by simp)
              · replace c20 := Bool.eq_false_iff.mpr c20
                subst c20
                have H1 : (some (a0, false)) = some (r1, r2) := by rw [if_neg (show ¬ (false = true) by decide)] at H; exact H
                clear H
                have H := H1
                clear H1
                simp only [Option.some.injEq, Prod.mk.injEq] at H
                obtain ⟨rfl, rfl⟩ := H
                go_wp2_with (first | ((with_reducible refine gate_callee (f := 23) rfl ?_); refine goesL_ (some 27) rfl rfl Try.func23 (by kernel_rfl) rfl #[.string (a0.extract (x6_1 : Int).toNat a0.size), .string ((⟨#[60, 117, 108, 32, 99, 108, 97, 115, 115, 61, 34]⟩ : ByteArray) ++ a1)] rfl (by (try simp only [List.map_toArray, List.map_cons, List.map_nil]); first | done | rfl | (simp only [List.length_drop, List.length_take]; rfl)) ?_; (with_reducible refine (spec_LsBegins.calls (a0.extract (x6_1 : Int).toNat a0.size) ((⟨#[60, 117, 108, 32, 99, 108, 97, 115, 115, 61, 34]⟩ : ByteArray) ++ a1) t128 false _ A19.out).mono ?_); rintro e w' ⟨rfl, ⟨nd, rfl⟩⟩; refine ⟨_, rfl, ?_⟩))
                go_ret2
                exact ⟨by first | rfl | (simp; done) | (simp [*]; done), by repeat (first | exact Drawn0.refl _ | apply Drawn0.step)⟩
            · rw [if_neg c18] at H
              exact absurd H (by simp)
          · rw [if_neg c17] at H
            exact absurd H (by simp)
        · rw [if_neg c16] at H
          exact absurd H (by simp)

end Go.Proofs.Yteenhipldfdkaaa.P
