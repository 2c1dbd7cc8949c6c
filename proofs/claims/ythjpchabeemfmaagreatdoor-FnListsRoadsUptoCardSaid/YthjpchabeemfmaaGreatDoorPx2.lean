/- Printed by a program of this session (pf.sh): Go functions as Lean functions, with their contracts. -/
import Derived.Test.YthjpchabeemfmaaGreatDoorPx0
import Derived.Test.YthjpchabeemfmaaGreatDoorFf
import Derived.Test.YthjpchabeemfmaaGreatDoorFz
namespace Go.Proofs.YthjpchabeemfmaaGreatDoor.P
open Go.RowKit Go.Proofs.YthjpchabeemfmaaGreatDoorW.PrintWords Go.Proofs.YthjpchabeemfmaaGreatDoorW.PrintLast Go.Proofs.YthjpchabeemfmaaGreatDoorW.PrintMore
attribute [local go_sem] max2_int min2_int max_two min_two max_three min_three max_four min_four   -- for this text's walks alone
set_option linter.unusedVariables false
set_option linter.unusedSimpArgs false

/-! ### laws_zzFits13: function 33 -/
def laws_zzFits13.l0 : Nat → List ByteArray → Int → Int → Option (Bool)
  | 0, _, _, _ => none
  | k + 1, x8, x9, x10 => if x10 < x9 then (if 0 ≤ x10 then (if x10 < (x8.length : Int) then (if ((rdOf ByteArray.empty x8 x10).size : Int) > 2147483647 then (some false) else (laws_zzFits13.l0 k x8 x9 (wrap64 (x10 + 1)))) else (none)) else (none)) else (some true)
def laws_zzFits13.f (k : Nat) (l0 : List ByteArray) : Option (Bool) := if (l0.length : Int) > 2147483647 then (some false) else (laws_zzFits13.l0 k l0 (l0.length : Int) 0)
theorem laws_zzFits13.mono_l : ∀ k, (∀ y0 y1 y2, LeO (laws_zzFits13.l0 k y0 y1 y2) (laws_zzFits13.l0 (k + 1) y0 y1 y2))
  | 0 => fun _ _ _ r h => by simp [laws_zzFits13.l0] at h
  | k + 1 => by
    have ih0 := laws_zzFits13.mono_l k
    · intro y0 y1 y2
      unfold laws_zzFits13.l0
      repeat' first
      | (with_reducible exact ih0 _ _ _)
      | (with_reducible exact LeO.refl _)
      | (with_reducible exact LeO.none _)
      | (with_reducible refine LeO.ite ?_ ?_)
      | (with_reducible refine LeO.bind ?_ (fun _ => ?_))
      | exact ih0 _ _ _
      | exact LeO.none _
      | refine LeO.ite ?_ ?_
      | refine LeO.bind ?_ (fun _ => ?_)
theorem laws_zzFits13.mono : ∀ a0 k, LeO (laws_zzFits13.f k a0) (laws_zzFits13.f (k + 1) a0) := by
  intro a0 k
  have ih0 := laws_zzFits13.mono_l k
  unfold laws_zzFits13.f
  repeat' first
      | (with_reducible exact ih0 _ _ _)
      | (with_reducible exact LeO.refl _)
      | (with_reducible exact LeO.none _)
      | (with_reducible refine LeO.ite ?_ ?_)
      | (with_reducible refine LeO.bind ?_ (fun _ => ?_))
      | exact ih0 _ _ _
      | exact LeO.none _
      | refine LeO.ite ?_ ?_
      | refine LeO.bind ?_ (fun _ => ?_)
set_option maxHeartbeats 8000000 in
set_option maxRecDepth 100000 in
theorem laws_zzFits13.calls (k : Nat) (A0 : Option Addr) (c0 : Nat) (l0 : List ByteArray) (r : Bool) (w : World) (hr0 : Kd.C Kd.string w A0 l0.length l0) (hc0 : l0.length ≤ c0) (h : laws_zzFits13.f k l0 = some r) :
    Calls Tryz.prog 33 #[.slice A0 l0.length c0] w fun e w' => e = .returned (.bool r) ∧ Drawn0 w w' := by
  have HR0 := Aside0.mk hr0
  have HC0 := Aside0.mk hc0
  clear hr0 hc0
  have H : (if (l0.length : Int) > 2147483647 then (some false) else (laws_zzFits13.l0 k l0 (l0.length : Int) 0)) = some r := h
  clear h
  by_cases c2 : (l0.length : Int) > 2147483647
  · rw [if_pos c2] at H
    have c2b0 : decide (2147483647 < (l0.length : Int)) = true := decide_eq_true c2
    have c2b1 : decide (2147483647 < l0.length) = true := decide_eq_true (by omega)
    clear c2
    obtain rfl := Option.some.inj H
    go_enter Tryz.func33, Tryz.ntmps33
    go_wp2
    go_ret
    exact ⟨by first | rfl | (simp; done) | (simp [*]; done), by repeat (first | exact Drawn0.refl _ | apply Drawn0.step)⟩
  · rw [if_neg c2] at H
    have c2b0 : decide (2147483647 < (l0.length : Int)) = false := decide_eq_false c2
    have c2b1 : decide (2147483647 < l0.length) = false := decide_eq_false (by omega)
    clear c2
    have H' := Aside0.mk H
    clear H
    go_enter Tryz.func33, Tryz.ntmps33
    go_wp2
    go_loopg [10] k (fun kq v10 w' => ∃ (x10_1 : Int), v10 = .int .i64 x10_1 ∧ Aside0 (laws_zzFits13.l0 kq l0 (l0.length : Int) x10_1 = some r) ∧ Aside0 (kq ≤ k) ∧ Drawn0 w w')
    case atStart => exact ⟨(0), (by first | rfl | (simp; done) | (simp [*]; done)), H', ⟨Nat.le_refl _⟩, by repeat (first | exact Drawn0.refl _ | apply Drawn0.step)⟩
    case round =>
      clear H'
      try clear c2
      try clear c2b0
      try clear c2b1
      try clear p2
      obtain ⟨x10_1, rfl, HA, HK1, ⟨m1, rfl⟩⟩ := hrel
      cases gk with
      | zero => exact absurd HA.out (by simp [laws_zzFits13.l0])
      | succ k1 =>
        have H := HA.out
        clear HA
        simp only [laws_zzFits13.l0] at H
        by_cases c3 : x10_1 < (l0.length : Int)
        · rw [if_pos c3] at H
          have c3b0 : decide (x10_1 < (l0.length : Int)) = true := decide_eq_true c3
          clear c3
          by_cases c4 : 0 ≤ x10_1
          · rw [if_pos c4] at H
            have c4b0 : decide (0 ≤ x10_1) = true := decide_eq_true c4
            clear c4
            by_cases c5 : x10_1 < (l0.length : Int)
            · rw [if_pos c5] at H
              have c5b0 : decide (x10_1 < (l0.length : Int)) = true := decide_eq_true c5
              clear c5
              by_cases c6 : ((rdOf ByteArray.empty l0 x10_1).size : Int) > 2147483647
              · rw [if_pos c6] at H
                have c6b0 : decide (2147483647 < ((rdOf ByteArray.empty l0 x10_1).size : Int)) = true := decide_eq_true c6
                have c6b1 : decide (2147483647 < (rdOf ByteArray.empty l0 x10_1).size) = true := decide_eq_true (by omega)
                clear c6
                obtain rfl := Option.some.inj H
                have p101 : 0 ≤ (x10_1 : Int) := of_decide_eq_true (by first | (with_reducible assumption) | assumption)
                have q101 : x10_1 < (l0.length : Int) := of_decide_eq_true (by first | (with_reducible assumption) | assumption)
                obtain ⟨ad101, e101, hx101_0⟩ := Kd.at_string HR0.out x10_1 p101 q101
                cases e101
                replace p101 := eq_true p101
                replace q101 := eq_true q101
                go_wp2
                go_ret
                exact ⟨by first | rfl | (simp; done) | (simp [*]; done), by repeat (first | exact Drawn0.refl _ | apply Drawn0.step)⟩
              · rw [if_neg c6] at H
                have c6b0 : decide (2147483647 < ((rdOf ByteArray.empty l0 x10_1).size : Int)) = false := decide_eq_false c6
                have c6b1 : decide (2147483647 < (rdOf ByteArray.empty l0 x10_1).size) = false := decide_eq_false (by omega)
                clear c6
                have H' := Aside0.mk H
                clear H
                have p101 : 0 ≤ (x10_1 : Int) := of_decide_eq_true (by first | (with_reducible assumption) | assumption)
                have q101 : x10_1 < (l0.length : Int) := of_decide_eq_true (by first | (with_reducible assumption) | assumption)
                obtain ⟨ad101, e101, hx101_0⟩ := Kd.at_string HR0.out x10_1 p101 q101
                cases e101
                replace p101 := eq_true p101
                replace q101 := eq_true q101
                go_wp2
                go_roundg k1
                case measure => have := HK1.out; omega
                case rel => exact ⟨(wrap64 (x10_1 + 1)), (by first | rfl | (simp; done) | (simp [*]; done)), H', ⟨by have := HK1.out; omega⟩, by repeat (first | exact Drawn0.refl _ | apply Drawn0.step)⟩
            · rw [if_neg c5] at H
              exact absurd H (by simp)
          · rw [if_neg c4] at H
            exact absurd H (by simp)
        · rw [if_neg c3] at H
          have c3b0 : decide (x10_1 < (l0.length : Int)) = false := decide_eq_false c3
          clear c3
          obtain rfl := Option.some.inj H
          go_wp2
          go_ret
          exact ⟨by first | rfl | (simp; done) | (simp [*]; done), by repeat (first | exact Drawn0.refl _ | apply Drawn0.step)⟩

/-! ### laws_zzFits12: function 18 -/
def laws_zzFits12.f (k : Nat) (a0_0 : Int) (a0_1 : ByteArray) (l0_2 : List ByteArray) : Option (Bool) := if (a0_1.size : Int) > 2147483647 then (some false) else ((laws_zzFits13.f k l0_2).bind fun t103 => (if t103 = true then (some true) else (some false)))
theorem laws_zzFits12.mono : ∀ a0 a1 a2 k, LeO (laws_zzFits12.f k a0 a1 a2) (laws_zzFits12.f (k + 1) a0 a1 a2) := by
  intro a0 a1 a2 k
  unfold laws_zzFits12.f
  repeat' first
      | (with_reducible exact laws_zzFits13.mono _ _)
      | (with_reducible exact LeO.refl _)
      | (with_reducible exact LeO.none _)
      | (with_reducible refine LeO.ite ?_ ?_)
      | (with_reducible refine LeO.bind ?_ (fun _ => ?_))
      | exact laws_zzFits13.mono _ _
      | exact LeO.none _
      | refine LeO.ite ?_ ?_
      | refine LeO.bind ?_ (fun _ => ?_)
set_option maxHeartbeats 8000000 in
set_option maxRecDepth 100000 in
theorem laws_zzFits12.calls (k : Nat) (a0_0 : Int) (a0_1 : ByteArray) (A0_2 : Option Addr) (c0_2 : Nat) (l0_2 : List ByteArray) (r : Bool) (w : World) (hr0_2 : Kd.C Kd.string w A0_2 l0_2.length l0_2) (hc0_2 : l0_2.length ≤ c0_2) (h : laws_zzFits12.f k a0_0 a0_1 l0_2 = some r) :
    Calls Tryz.prog 18 #[.agg #[.int .i64 a0_0, .string a0_1, .slice A0_2 l0_2.length c0_2]] w fun e w' => e = .returned (.bool r) ∧ Below w.heap.size w w' := by
  have hu39 := Tryz.underlying39
  have HR0_2 := Aside0.mk hr0_2
  have HC0_2 := Aside0.mk hc0_2
  clear hr0_2 hc0_2
  have HB := Aside0.mk (Below.refl w.heap.size w)
  have H : (if (a0_1.size : Int) > 2147483647 then (some false) else ((laws_zzFits13.f k l0_2).bind fun t103 => (if t103 = true then (some true) else (some false)))) = some r := h
  clear h
  by_cases c2 : (a0_1.size : Int) > 2147483647
  · rw [if_pos c2] at H
    have c2b0 : decide (2147483647 < (a0_1.size : Int)) = true := decide_eq_true c2
    have c2b1 : decide (2147483647 < a0_1.size) = true := decide_eq_true (by omega)
    clear c2
    obtain rfl := Option.some.inj H
    go_enter Tryz.func18, Tryz.ntmps18
    go_wp2_with (first | ((with_reducible refine gate_dst (N := 1) rfl ?_); refine box_event ?hg (N := 1) ?hd (cs := #[.int .i64 a0_0, .string a0_1, .slice A0_2 l0_2.length c0_2]) (t := 39) ?hr ?_; (case hd => rfl); (case hg => rfl); (case hr => first | (go_simp; done) | (go_simp; rfl)); intro gb102 hg w3 hbox hb; have n0_ := Aside0.mk (below_step (by repeat (first | (with_reducible first | exact HB.out | apply below_alloc | apply pw_below_drewN | apply below_drew1) | exact HB.out)) hb); have n1_ := Aside0.mk (hbox); have n2_ := Aside0.mk ((by rw [hg]; exact (below_size (by repeat (first | (with_reducible first | exact HB.out | apply below_alloc | apply pw_below_drewN | apply below_drew1) | exact HB.out))) : w.heap.size ≤ gb102)); have n3_ := Aside0.mk ((by rw [hg]; exact (below_size (by repeat (first | (with_reducible first | exact HB.out | apply below_alloc | apply pw_below_drewN | apply below_drew1) | exact HB.out))) : w.heap.size ≤ gb102)); clear HB; have HB := n0_; have BK102 := n1_; have GW102 := n2_; have GE102 := n3_; clear n0_ n1_ n2_ n3_; clear hb hbox hg; have hcz4_0 : w3.cell? ⟨gb102, 0, none⟩ = some (.int .i64 a0_0) := (blk_cell BK102.out 0).trans rfl; have hcz4_1 : w3.cell? ⟨gb102, 1, none⟩ = some (.string a0_1) := (blk_cell BK102.out 1).trans rfl; have hcz4_2 : w3.cell? ⟨gb102, 2, none⟩ = some (.slice A0_2 l0_2.length c0_2) := (blk_cell BK102.out 2).trans rfl; have hfz4_0 := blk_frozen BK102.out 0; have hfz4_1 := blk_frozen BK102.out 1; have hfz4_2 := blk_frozen BK102.out 2))
    go_ret
    exact ⟨by first | rfl | (simp [errW_none, errW_some] <;> rfl) | (have e_ : ∀ l_ : List UInt8, (l_ != []) = !l_.isEmpty := fun l_ => (by cases l_ <;> rfl); simp [errW_none, errW_some, e_]; done) | (simp [*, errW_none, errW_some] <;> rfl), by repeat (first | (with_reducible first | exact HB.out | apply below_alloc | apply pw_below_drewN | apply below_drew1 | refine below_set ?_ GE102.out) | exact HB.out)⟩
  · rw [if_neg c2] at H
    have c2b0 : decide (2147483647 < (a0_1.size : Int)) = false := decide_eq_false c2
    have c2b1 : decide (2147483647 < a0_1.size) = false := decide_eq_false (by omega)
    clear c2
    replace H := Option.bind_eq_some_iff.mp H
    obtain ⟨t103, A50, H⟩ := H
    replace H : (if t103 = true then (some true) else (some false)) = some r := H
    have A5 := Aside0.mk A50
    clear A50
    by_cases c6 : t103 = true
    · subst c6
      have H1 : (some true) = some r := by rw [if_pos rfl] at H; exact H
      clear H
      have H := H1
      clear H1
      obtain rfl := Option.some.inj H
      go_enter Tryz.func18, Tryz.ntmps18
      go_wp2_with (first | ((with_reducible refine gate_dst (N := 1) rfl ?_); refine box_event ?hg (N := 1) ?hd (cs := #[.int .i64 a0_0, .string a0_1, .slice A0_2 l0_2.length c0_2]) (t := 39) ?hr ?_; (case hd => rfl); (case hg => rfl); (case hr => first | (go_simp; done) | (go_simp; rfl)); intro gb102 hg w7 hbox hb; have n0_ := Aside0.mk (below_step (by repeat (first | (with_reducible first | exact HB.out | apply below_alloc | apply pw_below_drewN | apply below_drew1) | exact HB.out)) hb); have n1_ := Aside0.mk (hbox); have n2_ := Aside0.mk ((by rw [hg]; exact (below_size (by repeat (first | (with_reducible first | exact HB.out | apply below_alloc | apply pw_below_drewN | apply below_drew1) | exact HB.out))) : w.heap.size ≤ gb102)); have n3_ := Aside0.mk ((by rw [hg]; exact (below_size (by repeat (first | (with_reducible first | exact HB.out | apply below_alloc | apply pw_below_drewN | apply below_drew1) | exact HB.out))) : w.heap.size ≤ gb102)); clear HB; have HB := n0_; have BK102 := n1_; have GW102 := n2_; have GE102 := n3_; clear n0_ n1_ n2_ n3_; clear hb hbox hg; have hcz8_0 : w7.cell? ⟨gb102, 0, none⟩ = some (.int .i64 a0_0) := (blk_cell BK102.out 0).trans rfl; have hcz8_1 : w7.cell? ⟨gb102, 1, none⟩ = some (.string a0_1) := (blk_cell BK102.out 1).trans rfl; have hcz8_2 : w7.cell? ⟨gb102, 2, none⟩ = some (.slice A0_2 l0_2.length c0_2) := (blk_cell BK102.out 2).trans rfl; have hfz8_0 := blk_frozen BK102.out 0; have hfz8_1 := blk_frozen BK102.out 1; have hfz8_2 := blk_frozen BK102.out 2) | ((with_reducible refine gate_callee (f := 33) rfl ?_); refine goesL_ (some 9) rfl rfl Tryz.func33 (by kernel_rfl) rfl #[.slice A0_2 l0_2.length c0_2] rfl (by (try simp only [List.map_toArray, List.map_cons, List.map_nil]); first | done | rfl | (simp only [List.length_drop, List.length_take]; rfl)) ?_; (with_reducible refine (laws_zzFits13.calls k _ _ l0_2 true _ ?side1 ?side2 A5.out).mono ?_); (case side1 => repeat (first | exact (Kd.C_below HR0_2.out HB.out) | (with_reducible refine Kd.C_alloc ?_ _) | (with_reducible refine Kd.C_drewN ?_ _) | (with_reducible refine Kd.C_drew ?_))); (case side2 => exact HC0_2.out); rintro e w' ⟨rfl, ⟨nd, rfl⟩⟩; refine ⟨_, rfl, ?_⟩))
      go_ret
      exact ⟨by first | rfl | (simp [errW_none, errW_some] <;> rfl) | (have e_ : ∀ l_ : List UInt8, (l_ != []) = !l_.isEmpty := fun l_ => (by cases l_ <;> rfl); simp [errW_none, errW_some, e_]; done) | (simp [*, errW_none, errW_some] <;> rfl), by repeat (first | (with_reducible first | exact HB.out | apply below_alloc | apply pw_below_drewN | apply below_drew1 | refine below_set ?_ GE102.out) | exact HB.out)⟩
    · replace c6 := Bool.eq_false_iff.mpr c6
      subst c6
      have H1 : (some false) = some r := by rw [if_neg (show ¬ (false = true) by decide)] at H; exact H
      clear H
      have H := H1
      clear H1
      obtain rfl := Option.some.inj H
      go_enter Tryz.func18, Tryz.ntmps18
      go_wp2_with (first | ((with_reducible refine gate_dst (N := 1) rfl ?_); refine box_event ?hg (N := 1) ?hd (cs := #[.int .i64 a0_0, .string a0_1, .slice A0_2 l0_2.length c0_2]) (t := 39) ?hr ?_; (case hd => rfl); (case hg => rfl); (case hr => first | (go_simp; done) | (go_simp; rfl)); intro gb102 hg w9 hbox hb; have n0_ := Aside0.mk (below_step (by repeat (first | (with_reducible first | exact HB.out | apply below_alloc | apply pw_below_drewN | apply below_drew1) | exact HB.out)) hb); have n1_ := Aside0.mk (hbox); have n2_ := Aside0.mk ((by rw [hg]; exact (below_size (by repeat (first | (with_reducible first | exact HB.out | apply below_alloc | apply pw_below_drewN | apply below_drew1) | exact HB.out))) : w.heap.size ≤ gb102)); have n3_ := Aside0.mk ((by rw [hg]; exact (below_size (by repeat (first | (with_reducible first | exact HB.out | apply below_alloc | apply pw_below_drewN | apply below_drew1) | exact HB.out))) : w.heap.size ≤ gb102)); clear HB; have HB := n0_; have BK102 := n1_; have GW102 := n2_; have GE102 := n3_; clear n0_ n1_ n2_ n3_; clear hb hbox hg; have hcz10_0 : w9.cell? ⟨gb102, 0, none⟩ = some (.int .i64 a0_0) := (blk_cell BK102.out 0).trans rfl; have hcz10_1 : w9.cell? ⟨gb102, 1, none⟩ = some (.string a0_1) := (blk_cell BK102.out 1).trans rfl; have hcz10_2 : w9.cell? ⟨gb102, 2, none⟩ = some (.slice A0_2 l0_2.length c0_2) := (blk_cell BK102.out 2).trans rfl; have hfz10_0 := blk_frozen BK102.out 0; have hfz10_1 := blk_frozen BK102.out 1; have hfz10_2 := blk_frozen BK102.out 2) | ((with_reducible refine gate_callee (f := 33) rfl ?_); refine goesL_ (some 9) rfl rfl Tryz.func33 (by kernel_rfl) rfl #[.slice A0_2 l0_2.length c0_2] rfl (by (try simp only [List.map_toArray, List.map_cons, List.map_nil]); first | done | rfl | (simp only [List.length_drop, List.length_take]; rfl)) ?_; (with_reducible refine (laws_zzFits13.calls k _ _ l0_2 false _ ?side1 ?side2 A5.out).mono ?_); (case side1 => repeat (first | exact (Kd.C_below HR0_2.out HB.out) | (with_reducible refine Kd.C_alloc ?_ _) | (with_reducible refine Kd.C_drewN ?_ _) | (with_reducible refine Kd.C_drew ?_))); (case side2 => exact HC0_2.out); rintro e w' ⟨rfl, ⟨nd, rfl⟩⟩; refine ⟨_, rfl, ?_⟩))
      go_ret
      exact ⟨by first | rfl | (simp [errW_none, errW_some] <;> rfl) | (have e_ : ∀ l_ : List UInt8, (l_ != []) = !l_.isEmpty := fun l_ => (by cases l_ <;> rfl); simp [errW_none, errW_some, e_]; done) | (simp [*, errW_none, errW_some] <;> rfl), by repeat (first | (with_reducible first | exact HB.out | apply below_alloc | apply pw_below_drewN | apply below_drew1 | refine below_set ?_ GE102.out) | exact HB.out)⟩

/-! ### laws_zzFits11: function 4 -/
def laws_zzFits11.l0 : Nat → List (S39) → Int → Int → Option (Bool)
  | 0, _, _, _ => none
  | k + 1, x8, x9, x10 => if x10 < x9 then (if 0 ≤ x10 then (if x10 < (x8.length : Int) then ((laws_zzFits12.f k ((rd_T39 x8 x10).f0) ((rd_T39 x8 x10).f1) ((rd_T39 x8 x10).f2)).bind fun t106 => (if t106 = true then (laws_zzFits11.l0 k x8 x9 (wrap64 (x10 + 1))) else (some false))) else (none)) else (none)) else (some true)
def laws_zzFits11.f (k : Nat) (l0 : List (S39)) : Option (Bool) := if (l0.length : Int) > 2147483647 then (some false) else (laws_zzFits11.l0 k l0 (l0.length : Int) 0)
theorem laws_zzFits11.mono_l : ∀ k, (∀ y0 y1 y2, LeO (laws_zzFits11.l0 k y0 y1 y2) (laws_zzFits11.l0 (k + 1) y0 y1 y2))
  | 0 => fun _ _ _ r h => by simp [laws_zzFits11.l0] at h
  | k + 1 => by
    have ih0 := laws_zzFits11.mono_l k
    · intro y0 y1 y2
      unfold laws_zzFits11.l0
      repeat' first
      | (with_reducible exact ih0 _ _ _)
      | (with_reducible exact laws_zzFits12.mono _ _ _ _)
      | (with_reducible exact LeO.refl _)
      | (with_reducible exact LeO.none _)
      | (with_reducible refine LeO.ite ?_ ?_)
      | (with_reducible refine LeO.bind ?_ (fun _ => ?_))
      | exact ih0 _ _ _
      | exact laws_zzFits12.mono _ _ _ _
      | exact LeO.none _
      | refine LeO.ite ?_ ?_
      | refine LeO.bind ?_ (fun _ => ?_)
theorem laws_zzFits11.mono : ∀ a0 k, LeO (laws_zzFits11.f k a0) (laws_zzFits11.f (k + 1) a0) := by
  intro a0 k
  have ih0 := laws_zzFits11.mono_l k
  unfold laws_zzFits11.f
  repeat' first
      | (with_reducible exact ih0 _ _ _)
      | (with_reducible exact laws_zzFits12.mono _ _ _ _)
      | (with_reducible exact LeO.refl _)
      | (with_reducible exact LeO.none _)
      | (with_reducible refine LeO.ite ?_ ?_)
      | (with_reducible refine LeO.bind ?_ (fun _ => ?_))
      | exact ih0 _ _ _
      | exact laws_zzFits12.mono _ _ _ _
      | exact LeO.none _
      | refine LeO.ite ?_ ?_
      | refine LeO.bind ?_ (fun _ => ?_)
set_option maxHeartbeats 8000000 in
set_option maxRecDepth 100000 in
theorem laws_zzFits11.calls (k : Nat) (A0 : Option Addr) (c0 : Nat) (l0 : List (S39)) (r : Bool) (w : World) (hr0 : Kd.C k39 w A0 l0.length l0) (hc0 : l0.length ≤ c0) (h : laws_zzFits11.f k l0 = some r) :
    Calls Tryz.prog 4 #[.slice A0 l0.length c0] w fun e w' => e = .returned (.bool r) ∧ Below w.heap.size w w' := by
  have hu39 := Tryz.underlying39
  have HR0 := Aside0.mk hr0
  have HC0 := Aside0.mk hc0
  clear hr0 hc0
  have HB := Aside0.mk (Below.refl w.heap.size w)
  have H : (if (l0.length : Int) > 2147483647 then (some false) else (laws_zzFits11.l0 k l0 (l0.length : Int) 0)) = some r := h
  clear h
  by_cases c2 : (l0.length : Int) > 2147483647
  · rw [if_pos c2] at H
    have c2b0 : decide (2147483647 < (l0.length : Int)) = true := decide_eq_true c2
    have c2b1 : decide (2147483647 < l0.length) = true := decide_eq_true (by omega)
    clear c2
    obtain rfl := Option.some.inj H
    go_enter Tryz.func4, Tryz.ntmps4
    go_wp2
    go_ret
    exact ⟨by first | rfl | (simp [errW_none, errW_some] <;> rfl) | (have e_ : ∀ l_ : List UInt8, (l_ != []) = !l_.isEmpty := fun l_ => (by cases l_ <;> rfl); simp [errW_none, errW_some, e_]; done) | (simp [*, errW_none, errW_some] <;> rfl), by repeat (first | (with_reducible first | exact HB.out | apply below_alloc | apply pw_below_drewN | apply below_drew1) | exact HB.out)⟩
  · rw [if_neg c2] at H
    have c2b0 : decide (2147483647 < (l0.length : Int)) = false := decide_eq_false c2
    have c2b1 : decide (2147483647 < l0.length) = false := decide_eq_false (by omega)
    clear c2
    have H' := Aside0.mk H
    clear H
    go_enter Tryz.func4, Tryz.ntmps4
    go_wp2
    go_loopg [10] k (fun kq v10 w' => ∃ (x10_1 : Int), v10 = .int .i64 x10_1 ∧ Aside0 (laws_zzFits11.l0 kq l0 (l0.length : Int) x10_1 = some r) ∧ Aside0 (kq ≤ k) ∧ Aside0 (Below w.heap.size w w'))
    case atStart => exact ⟨(0), (by first | rfl | (simp; done) | (simp [*]; done)), H', ⟨Nat.le_refl _⟩, ⟨by repeat (first | (with_reducible first | exact HB.out | apply below_alloc | apply pw_below_drewN | apply below_drew1) | exact HB.out)⟩⟩
    case round =>
      clear H'
      try clear c2
      try clear c2b0
      try clear c2b1
      try clear p2
      obtain ⟨x10_1, rfl, HA, HK1, HB⟩ := hrel
      cases gk with
      | zero => exact absurd HA.out (by simp [laws_zzFits11.l0])
      | succ k1 =>
        have H := HA.out
        clear HA
        simp only [laws_zzFits11.l0] at H
        by_cases c3 : x10_1 < (l0.length : Int)
        · rw [if_pos c3] at H
          have c3b0 : decide (x10_1 < (l0.length : Int)) = true := decide_eq_true c3
          clear c3
          by_cases c4 : 0 ≤ x10_1
          · rw [if_pos c4] at H
            have c4b0 : decide (0 ≤ x10_1) = true := decide_eq_true c4
            clear c4
            by_cases c5 : x10_1 < (l0.length : Int)
            · rw [if_pos c5] at H
              have c5b0 : decide (x10_1 < (l0.length : Int)) = true := decide_eq_true c5
              clear c5
              replace H := Option.bind_eq_some_iff.mp H
              obtain ⟨t106, A60, H⟩ := H
              replace H : (if t106 = true then (laws_zzFits11.l0 k1 l0 (l0.length : Int) (wrap64 (x10_1 + 1))) else (some false)) = some r := H
              have A6 := Aside0.mk A60
              clear A60
              by_cases c7 : t106 = true
              · subst c7
                have H1 : (laws_zzFits11.l0 k1 l0 (l0.length : Int) (wrap64 (x10_1 + 1))) = some r := by rw [if_pos rfl] at H; exact H
                clear H
                have H := H1
                clear H1
                have H' := Aside0.mk H
                clear H
                have p104 : 0 ≤ (x10_1 : Int) := of_decide_eq_true (by first | (with_reducible assumption) | assumption)
                have q104 : x10_1 < (l0.length : Int) := of_decide_eq_true (by first | (with_reducible assumption) | assumption)
                obtain ⟨ad104, A104_2, c104_2, e104, hx104_0, hx104_1, hx104_2, hl104_2, hi104_2⟩ := at_T39 HR0.out x10_1 p104 q104
                cases e104
                replace hx104_0 := (HB.out.cell (World.block_lt_of_cell? w _ hx104_0)).trans hx104_0
                replace hx104_1 := (HB.out.cell (World.block_lt_of_cell? w _ hx104_1)).trans hx104_1
                replace hx104_2 := (HB.out.cell (World.block_lt_of_cell? w _ hx104_2)).trans hx104_2
                have HR104_2 := Aside0.mk hi104_2
                have HC104_2 := Aside0.mk hl104_2
                clear hi104_2 hl104_2
                replace p104 := eq_true p104
                replace q104 := eq_true q104
                go_wp2_with (first | ((with_reducible refine gate_dst (N := 4) rfl ?_); refine box_event ?hg (N := 4) ?hd (cs := #[.int .i64 0, .string (⟨#[]⟩ : ByteArray), .slice none 0 0]) (t := 39) ?hr ?_; (case hd => rfl); (case hg => rfl); (case hr => first | (go_simp; done) | (go_simp; rfl)); intro gb105 hg w8 hbox hb; have n0_ := Aside0.mk (below_step (by repeat (first | (with_reducible first | exact HB.out | apply below_alloc | apply pw_below_drewN | apply below_drew1) | exact HB.out)) hb); have n1_ := Aside0.mk (hbox); have n2_ := Aside0.mk ((by rw [hg]; exact (below_size (by repeat (first | (with_reducible first | exact HB.out | apply below_alloc | apply pw_below_drewN | apply below_drew1) | exact HB.out))) : w.heap.size ≤ gb105)); have n3_ := Aside0.mk ((by rw [hg]; exact (below_size (by repeat (first | (with_reducible first | exact HB.out | apply below_alloc | apply pw_below_drewN | apply below_drew1) | exact HB.out))) : w.heap.size ≤ gb105)); clear HB; have HB := n0_; have BK105 := n1_; have GW105 := n2_; have GE105 := n3_; clear n0_ n1_ n2_ n3_; clear hb hbox hg; have hcz9_0 : w8.cell? ⟨gb105, 0, none⟩ = some (.int .i64 0) := (blk_cell BK105.out 0).trans rfl; have hcz9_1 : w8.cell? ⟨gb105, 1, none⟩ = some (.string (⟨#[]⟩ : ByteArray)) := (blk_cell BK105.out 1).trans rfl; have hcz9_2 : w8.cell? ⟨gb105, 2, none⟩ = some (.slice none 0 0) := (blk_cell BK105.out 2).trans rfl; have hfz9_0 := blk_frozen BK105.out 0; have hfz9_1 := blk_frozen BK105.out 1; have hfz9_2 := blk_frozen BK105.out 2) | ((with_reducible refine gate_callee (f := 18) rfl ?_); refine goesL_ (some 15) rfl rfl Tryz.func18 (by kernel_rfl) rfl #[.agg #[.int .i64 ((rd_T39 l0 x10_1).f0), .string ((rd_T39 l0 x10_1).f1), .slice A104_2 ((rd_T39 l0 x10_1).f2).length c104_2]] rfl (by (try simp only [List.map_toArray, List.map_cons, List.map_nil]); first | done | rfl | (simp only [List.length_drop, List.length_take]; rfl)) ?_; (with_reducible refine (laws_zzFits12.calls k1 ((rd_T39 l0 x10_1).f0) ((rd_T39 l0 x10_1).f1) _ _ ((rd_T39 l0 x10_1).f2) true _ ?side1 ?side2 A6.out).mono ?_); (case side1 => exact Kd.C_below HR104_2.out (by repeat (first | (with_reducible first | exact HB.out | apply below_alloc | apply pw_below_drewN | apply below_drew1 | refine below_set ?_ GE105.out) | exact HB.out))); (case side2 => exact HC104_2.out); rintro e w10 ⟨rfl, hb⟩; refine ⟨_, rfl, ?_⟩; have n0_ := Aside0.mk (blk_below (g := gb105) (o := .cells #[.int .i64 ((rd_T39 l0 x10_1).f0), .string ((rd_T39 l0 x10_1).f1), .slice A104_2 ((rd_T39 l0 x10_1).f2).length c104_2] 39 (0, 0)) (by (with_reducible repeat (first | refine blk_drewN ?_ _ | refine blk_drew ?_ | refine blk_alloc ?_ _)); refine blk_put (cs := #[.int .i64 ((rd_T39 l0 x10_1).f0), .string ((rd_T39 l0 x10_1).f1), .slice none 0 0]) ?_ 2 _ rfl; (with_reducible repeat (first | refine blk_drewN ?_ _ | refine blk_drew ?_ | refine blk_alloc ?_ _)); refine blk_put (cs := #[.int .i64 ((rd_T39 l0 x10_1).f0), .string (⟨#[]⟩ : ByteArray), .slice none 0 0]) ?_ 1 _ rfl; (with_reducible repeat (first | refine blk_drewN ?_ _ | refine blk_drew ?_ | refine blk_alloc ?_ _)); refine blk_put (cs := #[.int .i64 0, .string (⟨#[]⟩ : ByteArray), .slice none 0 0]) ?_ 0 _ rfl; (with_reducible repeat (first | refine blk_drewN ?_ _ | refine blk_drew ?_ | refine blk_alloc ?_ _)); exact BK105.out) hb); have n1_ := Aside0.mk (below_step (by repeat (first | (with_reducible first | exact HB.out | apply below_alloc | apply pw_below_drewN | apply below_drew1 | refine below_set ?_ GE105.out) | exact HB.out)) hb); clear BK105; clear HB; have BK105 := n0_; have HB := n1_; clear n0_ n1_; (try clear hb); (try clear hb2); (try clear hk); (try clear hi)))
                go_roundg k1
                case measure => have := HK1.out; omega
                case rel => exact ⟨(wrap64 (x10_1 + 1)), (by first | rfl | (simp; done) | (simp [*]; done)), H', ⟨by have := HK1.out; omega⟩, ⟨by repeat (first | (with_reducible first | exact HB.out | apply below_alloc | apply pw_below_drewN | apply below_drew1 | refine below_set ?_ GE105.out) | exact HB.out)⟩⟩
              · replace c7 := Bool.eq_false_iff.mpr c7
                subst c7
                have H1 : (some false) = some r := by rw [if_neg (show ¬ (false = true) by decide)] at H; exact H
                clear H
                have H := H1
                clear H1
                obtain rfl := Option.some.inj H
                have p104 : 0 ≤ (x10_1 : Int) := of_decide_eq_true (by first | (with_reducible assumption) | assumption)
                have q104 : x10_1 < (l0.length : Int) := of_decide_eq_true (by first | (with_reducible assumption) | assumption)
                obtain ⟨ad104, A104_2, c104_2, e104, hx104_0, hx104_1, hx104_2, hl104_2, hi104_2⟩ := at_T39 HR0.out x10_1 p104 q104
                cases e104
                replace hx104_0 := (HB.out.cell (World.block_lt_of_cell? w _ hx104_0)).trans hx104_0
                replace hx104_1 := (HB.out.cell (World.block_lt_of_cell? w _ hx104_1)).trans hx104_1
                replace hx104_2 := (HB.out.cell (World.block_lt_of_cell? w _ hx104_2)).trans hx104_2
                have HR104_2 := Aside0.mk hi104_2
                have HC104_2 := Aside0.mk hl104_2
                clear hi104_2 hl104_2
                replace p104 := eq_true p104
                replace q104 := eq_true q104
                go_wp2_with (first | ((with_reducible refine gate_dst (N := 4) rfl ?_); refine box_event ?hg (N := 4) ?hd (cs := #[.int .i64 0, .string (⟨#[]⟩ : ByteArray), .slice none 0 0]) (t := 39) ?hr ?_; (case hd => rfl); (case hg => rfl); (case hr => first | (go_simp; done) | (go_simp; rfl)); intro gb105 hg w11 hbox hb; have n0_ := Aside0.mk (below_step (by repeat (first | (with_reducible first | exact HB.out | apply below_alloc | apply pw_below_drewN | apply below_drew1) | exact HB.out)) hb); have n1_ := Aside0.mk (hbox); have n2_ := Aside0.mk ((by rw [hg]; exact (below_size (by repeat (first | (with_reducible first | exact HB.out | apply below_alloc | apply pw_below_drewN | apply below_drew1) | exact HB.out))) : w.heap.size ≤ gb105)); have n3_ := Aside0.mk ((by rw [hg]; exact (below_size (by repeat (first | (with_reducible first | exact HB.out | apply below_alloc | apply pw_below_drewN | apply below_drew1) | exact HB.out))) : w.heap.size ≤ gb105)); clear HB; have HB := n0_; have BK105 := n1_; have GW105 := n2_; have GE105 := n3_; clear n0_ n1_ n2_ n3_; clear hb hbox hg; have hcz12_0 : w11.cell? ⟨gb105, 0, none⟩ = some (.int .i64 0) := (blk_cell BK105.out 0).trans rfl; have hcz12_1 : w11.cell? ⟨gb105, 1, none⟩ = some (.string (⟨#[]⟩ : ByteArray)) := (blk_cell BK105.out 1).trans rfl; have hcz12_2 : w11.cell? ⟨gb105, 2, none⟩ = some (.slice none 0 0) := (blk_cell BK105.out 2).trans rfl; have hfz12_0 := blk_frozen BK105.out 0; have hfz12_1 := blk_frozen BK105.out 1; have hfz12_2 := blk_frozen BK105.out 2) | ((with_reducible refine gate_callee (f := 18) rfl ?_); refine goesL_ (some 15) rfl rfl Tryz.func18 (by kernel_rfl) rfl #[.agg #[.int .i64 ((rd_T39 l0 x10_1).f0), .string ((rd_T39 l0 x10_1).f1), .slice A104_2 ((rd_T39 l0 x10_1).f2).length c104_2]] rfl (by (try simp only [List.map_toArray, List.map_cons, List.map_nil]); first | done | rfl | (simp only [List.length_drop, List.length_take]; rfl)) ?_; (with_reducible refine (laws_zzFits12.calls k1 ((rd_T39 l0 x10_1).f0) ((rd_T39 l0 x10_1).f1) _ _ ((rd_T39 l0 x10_1).f2) false _ ?side1 ?side2 A6.out).mono ?_); (case side1 => exact Kd.C_below HR104_2.out (by repeat (first | (with_reducible first | exact HB.out | apply below_alloc | apply pw_below_drewN | apply below_drew1 | refine below_set ?_ GE105.out) | exact HB.out))); (case side2 => exact HC104_2.out); rintro e w13 ⟨rfl, hb⟩; refine ⟨_, rfl, ?_⟩; have n0_ := Aside0.mk (blk_below (g := gb105) (o := .cells #[.int .i64 ((rd_T39 l0 x10_1).f0), .string ((rd_T39 l0 x10_1).f1), .slice A104_2 ((rd_T39 l0 x10_1).f2).length c104_2] 39 (0, 0)) (by (with_reducible repeat (first | refine blk_drewN ?_ _ | refine blk_drew ?_ | refine blk_alloc ?_ _)); refine blk_put (cs := #[.int .i64 ((rd_T39 l0 x10_1).f0), .string ((rd_T39 l0 x10_1).f1), .slice none 0 0]) ?_ 2 _ rfl; (with_reducible repeat (first | refine blk_drewN ?_ _ | refine blk_drew ?_ | refine blk_alloc ?_ _)); refine blk_put (cs := #[.int .i64 ((rd_T39 l0 x10_1).f0), .string (⟨#[]⟩ : ByteArray), .slice none 0 0]) ?_ 1 _ rfl; (with_reducible repeat (first | refine blk_drewN ?_ _ | refine blk_drew ?_ | refine blk_alloc ?_ _)); refine blk_put (cs := #[.int .i64 0, .string (⟨#[]⟩ : ByteArray), .slice none 0 0]) ?_ 0 _ rfl; (with_reducible repeat (first | refine blk_drewN ?_ _ | refine blk_drew ?_ | refine blk_alloc ?_ _)); exact BK105.out) hb); have n1_ := Aside0.mk (below_step (by repeat (first | (with_reducible first | exact HB.out | apply below_alloc | apply pw_below_drewN | apply below_drew1 | refine below_set ?_ GE105.out) | exact HB.out)) hb); clear BK105; clear HB; have BK105 := n0_; have HB := n1_; clear n0_ n1_; (try clear hb); (try clear hb2); (try clear hk); (try clear hi)))
                go_ret
                exact ⟨by first | rfl | (simp [errW_none, errW_some] <;> rfl) | (have e_ : ∀ l_ : List UInt8, (l_ != []) = !l_.isEmpty := fun l_ => (by cases l_ <;> rfl); simp [errW_none, errW_some, e_]; done) | (simp [*, errW_none, errW_some] <;> rfl), by repeat (first | (with_reducible first | exact HB.out | apply below_alloc | apply pw_below_drewN | apply below_drew1 | refine below_set ?_ GE105.out) | exact HB.out)⟩
            · rw [if_neg c5] at H
              exact absurd H (by simp)
          · rw [if_neg c4] at H
            exact absurd H (by simp)
        · rw [if_neg c3] at H
          have c3b0 : decide (x10_1 < (l0.length : Int)) = false := decide_eq_false c3
          clear c3
          obtain rfl := Option.some.inj H
          go_wp2
          go_ret
          exact ⟨by first | rfl | (simp [errW_none, errW_some] <;> rfl) | (have e_ : ∀ l_ : List UInt8, (l_ != []) = !l_.isEmpty := fun l_ => (by cases l_ <;> rfl); simp [errW_none, errW_some, e_]; done) | (simp [*, errW_none, errW_some] <;> rfl), by repeat (first | (with_reducible first | exact HB.out | apply below_alloc | apply pw_below_drewN | apply below_drew1) | exact HB.out)⟩

-- FOREIGN: function 5 (laws_zzFits14)

/-! ### spec_LtPlayed: function 6 -/
mutual
def spec_LtPlayed.l0 : Nat → List (S42) → Int → List (S39) → Int → Int → Option ((List (S42)))
  | 0, _, _, _, _, _ => none
  | k + 1, x3, x4, x9, x10, x11 => if x11 < x10 then (if 0 ≤ x11 then (if x11 < (x9.length : Int) then (if ((rd_T39 x9 x11).f0) = 0 then (if x3.length < 5864062014805 then (spec_LtPlayed.l0 k (x3 ++ [(⟨(rd_T39 x9 x11).f1, x4⟩ : S42)]) x4 x9 x10 (wrap64 (x11 + 1))) else (none)) else (if ((rd_T39 x9 x11).f0) = 1 then (spec_LtPlayed.l1 k x3 x4 x9 x10 x11 ((rd_T39 x9 x11).f2) (((rd_T39 x9 x11).f2).length : Int) 0) else (if ((rd_T39 x9 x11).f0) = 2 then (if (x3.length : Int) > 0 then (if 0 ≤ (wrap64 ((x3.length : Int) - 1)) then (if (wrap64 ((x3.length : Int) - 1)) < (x3.length : Int) then (if x4 ≤ ((rd_T42 x3 (wrap64 ((x3.length : Int) - 1))).f1) then (spec_LtPlayed.l0 k x3 (wrap64 (x4 + 1)) x9 x10 (wrap64 (x11 + 1))) else (spec_LtPlayed.l0 k x3 x4 x9 x10 (wrap64 (x11 + 1)))) else (none)) else (none)) else (spec_LtPlayed.l0 k x3 x4 x9 x10 (wrap64 (x11 + 1)))) else (if ((rd_T39 x9 x11).f0) = 3 then (spec_LtPlayed.l0 k x3 (mx (wrap64 (x4 - 1)) 0) x9 x10 (wrap64 (x11 + 1))) else (if ((rd_T39 x9 x11).f0) = 4 then (spec_LtPlayed.l0 k x3 0 x9 x10 (wrap64 (x11 + 1))) else (if ((rd_T39 x9 x11).f0) = 5 then (spec_LtPlayed.l0 k ([] : List (S42)) 0 x9 x10 (wrap64 (x11 + 1))) else (spec_LtPlayed.l0 k x3 x4 x9 x10 (wrap64 (x11 + 1))))))))) else (none)) else (none)) else (some x3)
def spec_LtPlayed.l1 : Nat → List (S42) → Int → List (S39) → Int → Int → List ByteArray → Int → Int → Option ((List (S42)))
  | 0, _, _, _, _, _, _, _, _ => none
  | k + 1, x3, x4, x9, x10, x11, x29, x30, x31 => if x31 < x30 then (if 0 ≤ x31 then (if x31 < (x29.length : Int) then (if x3.length < 5864062014805 then (spec_LtPlayed.l1 k (x3 ++ [(⟨rdOf ByteArray.empty x29 x31, x4⟩ : S42)]) x4 x9 x10 x11 x29 x30 (wrap64 (x31 + 1))) else (none)) else (none)) else (none)) else (spec_LtPlayed.l0 k x3 x4 x9 x10 (wrap64 (x11 + 1)))
end
def spec_LtPlayed.f (k : Nat) (l0 : List (S39)) : Option ((List (S42))) := spec_LtPlayed.l0 k ([] : List (S42)) 0 l0 (l0.length : Int) 0
theorem spec_LtPlayed.mono_l : ∀ k, (∀ y0 y1 y2 y3 y4, LeO (spec_LtPlayed.l0 k y0 y1 y2 y3 y4) (spec_LtPlayed.l0 (k + 1) y0 y1 y2 y3 y4)) ∧ (∀ y0 y1 y2 y3 y4 y5 y6 y7, LeO (spec_LtPlayed.l1 k y0 y1 y2 y3 y4 y5 y6 y7) (spec_LtPlayed.l1 (k + 1) y0 y1 y2 y3 y4 y5 y6 y7))
  | 0 => ⟨fun _ _ _ _ _ r h => by simp [spec_LtPlayed.l0] at h, fun _ _ _ _ _ _ _ _ r h => by simp [spec_LtPlayed.l1] at h⟩
  | k + 1 => by
    obtain ⟨ih0, ih1⟩ := spec_LtPlayed.mono_l k
    refine ⟨?_, ?_⟩
    · intro y0 y1 y2 y3 y4
      unfold spec_LtPlayed.l0
      repeat' first
      | (with_reducible exact ih0 _ _ _ _ _)
      | (with_reducible exact ih1 _ _ _ _ _ _ _ _)
      | (with_reducible exact LeO.refl _)
      | (with_reducible exact LeO.none _)
      | (with_reducible refine LeO.ite ?_ ?_)
      | (with_reducible refine LeO.bind ?_ (fun _ => ?_))
      | exact ih0 _ _ _ _ _
      | exact ih1 _ _ _ _ _ _ _ _
      | exact LeO.none _
      | refine LeO.ite ?_ ?_
      | refine LeO.bind ?_ (fun _ => ?_)
    · intro y0 y1 y2 y3 y4 y5 y6 y7
      unfold spec_LtPlayed.l1
      repeat' first
      | (with_reducible exact ih0 _ _ _ _ _)
      | (with_reducible exact ih1 _ _ _ _ _ _ _ _)
      | (with_reducible exact LeO.refl _)
      | (with_reducible exact LeO.none _)
      | (with_reducible refine LeO.ite ?_ ?_)
      | (with_reducible refine LeO.bind ?_ (fun _ => ?_))
      | exact ih0 _ _ _ _ _
      | exact ih1 _ _ _ _ _ _ _ _
      | exact LeO.none _
      | refine LeO.ite ?_ ?_
      | refine LeO.bind ?_ (fun _ => ?_)
theorem spec_LtPlayed.mono : ∀ a0 k, LeO (spec_LtPlayed.f k a0) (spec_LtPlayed.f (k + 1) a0) := by
  intro a0 k
  obtain ⟨ih0, ih1⟩ := spec_LtPlayed.mono_l k
  unfold spec_LtPlayed.f
  repeat' first
      | (with_reducible exact ih0 _ _ _ _ _)
      | (with_reducible exact ih1 _ _ _ _ _ _ _ _)
      | (with_reducible exact LeO.refl _)
      | (with_reducible exact LeO.none _)
      | (with_reducible refine LeO.ite ?_ ?_)
      | (with_reducible refine LeO.bind ?_ (fun _ => ?_))
      | exact ih0 _ _ _ _ _
      | exact ih1 _ _ _ _ _ _ _ _
      | exact LeO.none _
      | refine LeO.ite ?_ ?_
      | refine LeO.bind ?_ (fun _ => ?_)
set_option maxHeartbeats 8000000 in
set_option maxRecDepth 100000 in
theorem spec_LtPlayed.calls (k : Nat) (A0 : Option Addr) (c0 : Nat) (l0 : List (S39)) (r : List (S42)) (w : World) (hr0 : Kd.C k39 w A0 l0.length l0) (hc0 : l0.length ≤ c0) (h : spec_LtPlayed.f k l0 = some r) :
    Calls Tryz.prog 6 #[.slice A0 l0.length c0] w fun e w' => ∃ v0_ : Value, e = .returned (v0_) ∧ Kd.R k42 42 w' w.heap.size (fun _ => True) v0_ r ∧ Below w.heap.size w w' := by
  have hu39 := Tryz.underlying39
  have hu42 := Tryz.underlying42
  have HR0 := Aside0.mk hr0
  have HC0 := Aside0.mk hc0
  clear hr0 hc0
  have HB := Aside0.mk (Below.refl w.heap.size w)
  have H : (spec_LtPlayed.l0 k ([] : List (S42)) 0 l0 (l0.length : Int) 0) = some r := h
  clear h
  have H' := Aside0.mk H
  clear H
  go_enter Tryz.func6, Tryz.ntmps6
  go_wp2
  go_loopg [3, 4, 11] k (fun kq v3 v4 v11 w' => ∃ (x3_1 : List (S42)) (x4_1 : Int) (x11_1 : Int), v4 = .int .i64 x4_1 ∧ v11 = .int .i64 x11_1 ∧ Aside0 (spec_LtPlayed.l0 kq x3_1 x4_1 l0 (l0.length : Int) x11_1 = some r) ∧ Aside0 (kq ≤ k) ∧ Aside0 (Kd.R k42 42 w' w.heap.size (fun _ => True) v3 x3_1) ∧ Aside0 (Below w.heap.size w w'))
  case atStart => exact ⟨(([] : List (S42))), (0), (0), (by first | rfl | (simp; done) | (simp [*]; done)), (by first | rfl | (simp; done) | (simp [*]; done)), H', ⟨Nat.le_refl _⟩, ⟨by first | exact Kd.R_nil _ _ _ _ _ | exact Kd.N_nil _ _ _ _ _ | exact Kd.V_nil _ _ _ _ _ | exact Kd.Q_nil _ _ _ _ _ | exact Kd.S_nil _ _ _ _ _⟩, ⟨by repeat (first | (with_reducible first | exact HB.out | apply below_alloc | apply pw_below_drewN | apply below_drew1) | exact HB.out)⟩⟩
  case round =>
    clear H'
    obtain ⟨x3_1, x4_1, x11_1, rfl, rfl, HA, HK1, HO_3, HB⟩ := hrel
    cases gk with
    | zero => exact absurd HA.out (by simp [spec_LtPlayed.l0])
    | succ k1 =>
      have H := HA.out
      clear HA
      simp only [spec_LtPlayed.l0] at H
      by_cases c2 : x11_1 < (l0.length : Int)
      · rw [if_pos c2] at H
        have c2b0 : decide (x11_1 < (l0.length : Int)) = true := decide_eq_true c2
        clear c2
        by_cases c3 : 0 ≤ x11_1
        · rw [if_pos c3] at H
          have c3b0 : decide (0 ≤ x11_1) = true := decide_eq_true c3
          clear c3
          by_cases c4 : x11_1 < (l0.length : Int)
          · rw [if_pos c4] at H
            have c4b0 : decide (x11_1 < (l0.length : Int)) = true := decide_eq_true c4
            clear c4
            by_cases c5 : ((rd_T39 l0 x11_1).f0) = 0
            · rw [if_pos c5] at H
              have c5b0 : (((rd_T39 l0 x11_1).f0) == 0) = true := beq_iff_eq.mpr c5
              have c5b1 : (((rd_T39 l0 x11_1).f0) != 0) = false := bne_eq_false_iff_eq.mpr c5
              clear c5
              by_cases c6 : x3_1.length < 5864062014805
              · rw [if_pos c6] at H
                have LMc6 := Aside0.mk c6
                clear c6
                obtain ⟨y109, hy109⟩ : ∃ y_ : List (S42), y_ = (x3_1 ++ [(⟨(rd_T39 l0 x11_1).f1, x4_1⟩ : S42)]) := ⟨_, rfl⟩
                replace H : (spec_LtPlayed.l0 k1 y109 x4_1 l0 (l0.length : Int) (wrap64 (x11_1 + 1))) = some r := by first | (rw [hy109]; with_reducible exact H) | (have H2_ := (Option.bind_some _ _).symm.trans H; rw [hy109]; with_reducible exact H2_) | (have H2_ := (Option.bind_some _ _).symm.trans H; with_reducible exact H2_) | with_reducible exact H | (rw [hy109]; exact H) | exact H
                have Ny109 := Aside0.mk hy109
                clear hy109
                have H' := Aside0.mk H
                clear H
                have p107 : 0 ≤ (x11_1 : Int) := of_decide_eq_true (by first | (with_reducible assumption) | assumption)
                have q107 : x11_1 < (l0.length : Int) := of_decide_eq_true (by first | (with_reducible assumption) | assumption)
                obtain ⟨ad107, A107_2, c107_2, e107, hx107_0, hx107_1, hx107_2, hl107_2, hi107_2⟩ := at_T39 HR0.out x11_1 p107 q107
                cases e107
                replace hx107_0 := (HB.out.cell (World.block_lt_of_cell? w _ hx107_0)).trans hx107_0
                replace hx107_1 := (HB.out.cell (World.block_lt_of_cell? w _ hx107_1)).trans hx107_1
                replace hx107_2 := (HB.out.cell (World.block_lt_of_cell? w _ hx107_2)).trans hx107_2
                have HR107_2 := Aside0.mk hi107_2
                have HC107_2 := Aside0.mk hl107_2
                clear hi107_2 hl107_2
                replace p107 := eq_true p107
                replace q107 := eq_true q107
                go_wp2_with (first | ((with_reducible refine gate_dst (N := 6) rfl ?_); (try (refine gate_guard (by rfl) ?_; dsimp only)); refine box_event ?hg (N := 6) ?hd (cs := #[.int .i64 0, .string (⟨#[]⟩ : ByteArray), .slice none 0 0]) (t := 39) ?hr ?_; (case hd => rfl); (case hg => rfl); (case hr => first | (go_simp; done) | (go_simp; rfl)); intro gb108 hg w7 hbox hb; have n0_ := Aside0.mk (Kd.R_below (by (with_reducible repeat (first | apply Kd.R_alloc | apply Kd.R_drewN | apply Kd.R_drew)); exact HO_3.out) hb); have n1_ := Aside0.mk (below_step (by repeat (first | (with_reducible first | exact HB.out | apply below_alloc | apply pw_below_drewN | apply below_drew1) | exact HB.out)) hb); have n2_ := Aside0.mk (hbox); have n3_ := Aside0.mk ((by rw [hg]; exact (below_size (by repeat (first | (with_reducible first | exact HB.out | apply below_alloc | apply pw_below_drewN | apply below_drew1) | exact HB.out))) : w.heap.size ≤ gb108)); have n4_ := Aside0.mk ((by rw [hg]; exact (below_size (by repeat (first | (with_reducible first | exact HB.out | apply below_alloc | apply pw_below_drewN | apply below_drew1) | exact HB.out))) : w.heap.size ≤ gb108)); clear HO_3; clear HB; have HO_3 := n0_; have HB := n1_; have BK108 := n2_; have GW108 := n3_; have GE108 := n4_; clear n0_ n1_ n2_ n3_ n4_; clear hb hbox hg; have hcz8_0 : w7.cell? ⟨gb108, 0, none⟩ = some (.int .i64 0) := (blk_cell BK108.out 0).trans rfl; have hcz8_1 : w7.cell? ⟨gb108, 1, none⟩ = some (.string (⟨#[]⟩ : ByteArray)) := (blk_cell BK108.out 1).trans rfl; have hcz8_2 : w7.cell? ⟨gb108, 2, none⟩ = some (.slice none 0 0) := (blk_cell BK108.out 2).trans rfl; have hfz8_0 := blk_frozen BK108.out 0; have hfz8_1 := blk_frozen BK108.out 1; have hfz8_2 := blk_frozen BK108.out 2) | ((with_reducible refine gate_builtin (b := .append) (xs := #[.tmp 19, .tmp 24]) rfl ?_); (try (refine gate_guard (by rfl) ?_; dsimp only)); at_builtin; refine Kd.R_append k42 (w0 := w) w.heap.size rfl (.tmp 19) (.tmp 24) 27 42 (.agg #[(.string ⟨#[]⟩), (.int .i64 0)]) 24 rfl Tryz.underlying27 info42 rfl (by decide) (by omega) u3 x3_1 (⟨(rd_T39 l0 x11_1).f1, x4_1⟩ : S42) [.string ((rd_T39 l0 x11_1).f1), .int .i64 x4_1] (fun _ => True) (fun _ => False) rfl (by first | (go_simp; done) | (go_simp; rfl)) ?aP (fun _ hk => hk.elim) ?aF ?aO ?aB ?aS ?aL ?_; (case aP => exact k42_mkM _ _ _ (⟨(rd_T39 l0 x11_1).f1, x4_1⟩ : S42)); (case aB => exact (by repeat (first | (with_reducible first | exact HB.out | apply below_alloc | apply pw_below_drewN | apply below_drew1 | refine below_set ?_ GE108.out) | exact HB.out))); (case aF => exact (fun _ _ => trivial)); (case aO => exact (by (with_reducible repeat (first | apply Kd.R_alloc | apply Kd.R_drewN | apply Kd.R_drew)); exact Kd.R_mono (Kd.R_far (p := ⟨gb108, 2, none⟩) (Kd.R_far (p := ⟨gb108, 1, none⟩) (Kd.R_far (p := ⟨gb108, 0, none⟩) (Kd.R_types HO_3.out BK108.out (by decide)) (fun _ hk => hk.2) (.int .i64 ((rd_T39 l0 x11_1).f0))) (fun _ hk => hk.2) (.string ((rd_T39 l0 x11_1).f1))) (fun _ hk => hk.2) (.slice A107_2 ((rd_T39 l0 x11_1).f2).length c107_2)) (fun _ hk => trivial))); (case aS => exact (below_size (by repeat (first | (with_reducible first | exact HB.out | apply below_alloc | apply pw_below_drewN | apply below_drew1 | refine below_set ?_ GE108.out) | exact HB.out)))); (case aL => have := LMc6.out; omega); intro v110 w9 ho hb hg hat; rw [← Ny109.out] at ho; have n0_ := Aside0.mk (blk_grown (g := gb108) (o := .cells #[.int .i64 ((rd_T39 l0 x11_1).f0), .string ((rd_T39 l0 x11_1).f1), .slice A107_2 ((rd_T39 l0 x11_1).f2).length c107_2] 39 (0, 0)) (by (with_reducible repeat (first | refine blk_drewN ?_ _ | refine blk_drew ?_ | refine blk_alloc ?_ _)); refine blk_put (cs := #[.int .i64 ((rd_T39 l0 x11_1).f0), .string ((rd_T39 l0 x11_1).f1), .slice none 0 0]) ?_ 2 _ rfl; (with_reducible repeat (first | refine blk_drewN ?_ _ | refine blk_drew ?_ | refine blk_alloc ?_ _)); refine blk_put (cs := #[.int .i64 ((rd_T39 l0 x11_1).f0), .string (⟨#[]⟩ : ByteArray), .slice none 0 0]) ?_ 1 _ rfl; (with_reducible repeat (first | refine blk_drewN ?_ _ | refine blk_drew ?_ | refine blk_alloc ?_ _)); refine blk_put (cs := #[.int .i64 0, .string (⟨#[]⟩ : ByteArray), .slice none 0 0]) ?_ 0 _ rfl; (with_reducible repeat (first | refine blk_drewN ?_ _ | refine blk_drew ?_ | refine blk_alloc ?_ _)); exact BK108.out) hg (Kd.R_ne HO_3.out BK108.out (by decide))); have n1_ := Aside0.mk (hb); have n2_ := Aside0.mk (ho); clear BK108; clear HB; clear HO_3; have BK108 := n0_; have HB := n1_; have HO111 := n2_; clear n0_ n1_ n2_; clear ho hb hg hat))
                go_roundg k1
                case measure => have := HK1.out; omega
                case rel => exact ⟨(y109), (x4_1), (wrap64 (x11_1 + 1)), (by first | rfl | (simp; done) | (simp [*]; done)), (by first | rfl | (simp; done) | (simp [*]; done)), H', ⟨by have := HK1.out; omega⟩, ⟨by (with_reducible repeat (first | apply Kd.R_alloc | apply Kd.R_drewN | apply Kd.R_drew)); exact HO111.out⟩, ⟨by repeat (first | (with_reducible first | exact HB.out | apply below_alloc | apply pw_below_drewN | apply below_drew1 | refine below_set ?_ GE108.out) | exact HB.out)⟩⟩
              · rw [if_neg c6] at H
                exact absurd H (by simp)
            · rw [if_neg c5] at H
              have c5b0 : (((rd_T39 l0 x11_1).f0) == 0) = false := beq_eq_false_iff_ne.mpr c5
              have c5b1 : (((rd_T39 l0 x11_1).f0) != 0) = true := bne_iff_ne.mpr c5
              by_cases c10 : ((rd_T39 l0 x11_1).f0) = 1
              · rw [if_pos c10] at H
                have c10b0 : (((rd_T39 l0 x11_1).f0) == 1) = true := beq_iff_eq.mpr c10
                have c10b1 : (((rd_T39 l0 x11_1).f0) != 1) = false := bne_eq_false_iff_eq.mpr c10
                clear c10
                have H' := Aside0.mk H
                clear H
                have p107 : 0 ≤ (x11_1 : Int) := of_decide_eq_true (by first | (with_reducible assumption) | assumption)
                have q107 : x11_1 < (l0.length : Int) := of_decide_eq_true (by first | (with_reducible assumption) | assumption)
                obtain ⟨ad107, A107_2, c107_2, e107, hx107_0, hx107_1, hx107_2, hl107_2, hi107_2⟩ := at_T39 HR0.out x11_1 p107 q107
                cases e107
                replace hx107_0 := (HB.out.cell (World.block_lt_of_cell? w _ hx107_0)).trans hx107_0
                replace hx107_1 := (HB.out.cell (World.block_lt_of_cell? w _ hx107_1)).trans hx107_1
                replace hx107_2 := (HB.out.cell (World.block_lt_of_cell? w _ hx107_2)).trans hx107_2
                have HR107_2 := Aside0.mk hi107_2
                have HC107_2 := Aside0.mk hl107_2
                clear hi107_2 hl107_2
                replace p107 := eq_true p107
                replace q107 := eq_true q107
                go_wp2_with (first | ((with_reducible refine gate_dst (N := 6) rfl ?_); (try (refine gate_guard (by rfl) ?_; dsimp only)); refine box_event ?hg (N := 6) ?hd (cs := #[.int .i64 0, .string (⟨#[]⟩ : ByteArray), .slice none 0 0]) (t := 39) ?hr ?_; (case hd => rfl); (case hg => rfl); (case hr => first | (go_simp; done) | (go_simp; rfl)); intro gb108 hg w11 hbox hb; have n0_ := Aside0.mk (Kd.R_below (by (with_reducible repeat (first | apply Kd.R_alloc | apply Kd.R_drewN | apply Kd.R_drew)); exact HO_3.out) hb); have n1_ := Aside0.mk (below_step (by repeat (first | (with_reducible first | exact HB.out | apply below_alloc | apply pw_below_drewN | apply below_drew1) | exact HB.out)) hb); have n2_ := Aside0.mk (hbox); have n3_ := Aside0.mk ((by rw [hg]; exact (below_size (by repeat (first | (with_reducible first | exact HB.out | apply below_alloc | apply pw_below_drewN | apply below_drew1) | exact HB.out))) : w.heap.size ≤ gb108)); have n4_ := Aside0.mk ((by rw [hg]; exact (below_size (by repeat (first | (with_reducible first | exact HB.out | apply below_alloc | apply pw_below_drewN | apply below_drew1) | exact HB.out))) : w.heap.size ≤ gb108)); clear HO_3; clear HB; have HO_3 := n0_; have HB := n1_; have BK108 := n2_; have GW108 := n3_; have GE108 := n4_; clear n0_ n1_ n2_ n3_ n4_; clear hb hbox hg; have hcz12_0 : w11.cell? ⟨gb108, 0, none⟩ = some (.int .i64 0) := (blk_cell BK108.out 0).trans rfl; have hcz12_1 : w11.cell? ⟨gb108, 1, none⟩ = some (.string (⟨#[]⟩ : ByteArray)) := (blk_cell BK108.out 1).trans rfl; have hcz12_2 : w11.cell? ⟨gb108, 2, none⟩ = some (.slice none 0 0) := (blk_cell BK108.out 2).trans rfl; have hfz12_0 := blk_frozen BK108.out 0; have hfz12_1 := blk_frozen BK108.out 1; have hfz12_2 := blk_frozen BK108.out 2))
                go_loopg [3, 31] k1 (fun kq v3 v31 w' => ∃ (x3_2 : List (S42)) (x31_2 : Int), v31 = .int .i64 x31_2 ∧ Aside0 (spec_LtPlayed.l1 kq x3_2 x4_1 l0 (l0.length : Int) x11_1 ((rd_T39 l0 x11_1).f2) (((rd_T39 l0 x11_1).f2).length : Int) x31_2 = some r) ∧ Aside0 (kq ≤ k1) ∧ Aside0 (Kd.R k42 42 w' w.heap.size (fun _ => True) v3 x3_2) ∧ Aside0 (w'.heap[gb108]? = some (.cells #[.int .i64 ((rd_T39 l0 x11_1).f0), .string ((rd_T39 l0 x11_1).f1), (.slice A107_2 ((rd_T39 l0 x11_1).f2).length c107_2)] 39 (0, 0))) ∧ Aside0 (Below w.heap.size w w'))
                case atStart => exact ⟨(x3_1), (0), (by first | rfl | (simp; done) | (simp [*]; done)), H', ⟨Nat.le_refl _⟩, ⟨by (with_reducible repeat (first | apply Kd.R_alloc | apply Kd.R_drewN | apply Kd.R_drew)); exact Kd.R_mono (Kd.R_far (p := ⟨gb108, 2, none⟩) (Kd.R_far (p := ⟨gb108, 1, none⟩) (Kd.R_far (p := ⟨gb108, 0, none⟩) (Kd.R_types HO_3.out BK108.out (by decide)) (fun _ hk => hk.2) (.int .i64 ((rd_T39 l0 x11_1).f0))) (fun _ hk => hk.2) (.string ((rd_T39 l0 x11_1).f1))) (fun _ hk => hk.2) (.slice A107_2 ((rd_T39 l0 x11_1).f2).length c107_2)) (fun _ hk => trivial)⟩, ⟨by (with_reducible repeat (first | refine blk_drewN ?_ _ | refine blk_drew ?_ | refine blk_alloc ?_ _)); refine blk_put (cs := #[.int .i64 ((rd_T39 l0 x11_1).f0), .string ((rd_T39 l0 x11_1).f1), .slice none 0 0]) ?_ 2 _ rfl; (with_reducible repeat (first | refine blk_drewN ?_ _ | refine blk_drew ?_ | refine blk_alloc ?_ _)); refine blk_put (cs := #[.int .i64 ((rd_T39 l0 x11_1).f0), .string (⟨#[]⟩ : ByteArray), .slice none 0 0]) ?_ 1 _ rfl; (with_reducible repeat (first | refine blk_drewN ?_ _ | refine blk_drew ?_ | refine blk_alloc ?_ _)); refine blk_put (cs := #[.int .i64 0, .string (⟨#[]⟩ : ByteArray), .slice none 0 0]) ?_ 0 _ rfl; (with_reducible repeat (first | refine blk_drewN ?_ _ | refine blk_drew ?_ | refine blk_alloc ?_ _)); exact BK108.out⟩, ⟨by repeat (first | (with_reducible first | exact HB.out | apply below_alloc | apply pw_below_drewN | apply below_drew1 | refine below_set ?_ GE108.out) | exact HB.out)⟩⟩
                case round =>
                  clear H'
                  try clear c1
                  try clear p1
                  try clear q1
                  try clear hx1
                  try clear c2
                  try clear c2b0
                  try clear p2
                  try clear c3
                  try clear c3b0
                  try clear c4
                  try clear c4b0
                  try clear c5
                  try clear c5b0
                  try clear c5b1
                  try clear c6
                  try clear p6
                  try clear c10
                  try clear c10b0
                  try clear c10b1
                  try clear p10
                  try clear q10
                  try clear hx10
                  try clear hcz12_0
                  try clear hcz12_1
                  try clear hcz12_2
                  try clear hcz8_0
                  try clear hcz8_1
                  try clear hcz8_2
                  try clear hfz12_0
                  try clear hfz12_1
                  try clear hfz12_2
                  try clear hfz8_0
                  try clear hfz8_1
                  try clear hfz8_2
                  try clear hx107_0
                  try clear hx107_1
                  try clear hx107_2
                  try clear p107
                  try clear q107
                  obtain ⟨x3_2, x31_2, rfl, HA, HK2, HO_3, BK108, HB⟩ := hrel
                  cases gk with
                  | zero => exact absurd HA.out (by simp [spec_LtPlayed.l1])
                  | succ k2 =>
                    have H := HA.out
                    clear HA
                    simp only [spec_LtPlayed.l1] at H
                    by_cases c13 : x31_2 < (((rd_T39 l0 x11_1).f2).length : Int)
                    · rw [if_pos c13] at H
                      have c13b0 : decide (x31_2 < (((rd_T39 l0 x11_1).f2).length : Int)) = true := decide_eq_true c13
                      clear c13
                      by_cases c14 : 0 ≤ x31_2
                      · rw [if_pos c14] at H
                        have c14b0 : decide (0 ≤ x31_2) = true := decide_eq_true c14
                        clear c14
                        by_cases c15 : x31_2 < (((rd_T39 l0 x11_1).f2).length : Int)
                        · rw [if_pos c15] at H
                          have c15b0 : decide (x31_2 < (((rd_T39 l0 x11_1).f2).length : Int)) = true := decide_eq_true c15
                          clear c15
                          by_cases c16 : x3_2.length < 5864062014805
                          · rw [if_pos c16] at H
                            have LMc16 := Aside0.mk c16
                            clear c16
                            obtain ⟨y113, hy113⟩ : ∃ y_ : List (S42), y_ = (x3_2 ++ [(⟨rdOf ByteArray.empty ((rd_T39 l0 x11_1).f2) x31_2, x4_1⟩ : S42)]) := ⟨_, rfl⟩
                            replace H : (spec_LtPlayed.l1 k2 y113 x4_1 l0 (l0.length : Int) x11_1 ((rd_T39 l0 x11_1).f2) (((rd_T39 l0 x11_1).f2).length : Int) (wrap64 (x31_2 + 1))) = some r := by first | (rw [hy113]; with_reducible exact H) | (have H2_ := (Option.bind_some _ _).symm.trans H; rw [hy113]; with_reducible exact H2_) | (have H2_ := (Option.bind_some _ _).symm.trans H; with_reducible exact H2_) | with_reducible exact H | (rw [hy113]; exact H) | exact H
                            have Ny113 := Aside0.mk hy113
                            clear hy113
                            have H' := Aside0.mk H
                            clear H
                            have p112 : 0 ≤ (x31_2 : Int) := of_decide_eq_true (by first | (with_reducible assumption) | assumption)
                            have q112 : x31_2 < (((rd_T39 l0 x11_1).f2).length : Int) := of_decide_eq_true (by first | (with_reducible assumption) | assumption)
                            obtain ⟨ad112, e112, hx112_0⟩ := Kd.at_string HR107_2.out x31_2 p112 q112
                            cases e112
                            replace hx112_0 := (HB.out.cell (World.block_lt_of_cell? w _ hx112_0)).trans hx112_0
                            replace p112 := eq_true p112
                            replace q112 := eq_true q112
                            go_wp2_with (first | ((with_reducible refine gate_builtin (b := .append) (xs := #[.tmp 35, .tmp 39]) rfl ?_); (try (refine gate_guard (by rfl) ?_; dsimp only)); at_builtin; refine Kd.R_append k42 (w0 := w) w.heap.size rfl (.tmp 35) (.tmp 39) 27 42 (.agg #[(.string ⟨#[]⟩), (.int .i64 0)]) 24 rfl Tryz.underlying27 info42 rfl (by decide) (by omega) u3 x3_2 (⟨rdOf ByteArray.empty ((rd_T39 l0 x11_1).f2) x31_2, x4_1⟩ : S42) [.string (rdOf ByteArray.empty ((rd_T39 l0 x11_1).f2) x31_2), .int .i64 x4_1] (fun _ => True) (fun _ => False) rfl rfl ?aP (fun _ hk => hk.elim) ?aF ?aO ?aB ?aS ?aL ?_; (case aP => exact k42_mkM _ _ _ (⟨rdOf ByteArray.empty ((rd_T39 l0 x11_1).f2) x31_2, x4_1⟩ : S42)); (case aB => exact (by repeat (first | (with_reducible first | exact HB.out | apply below_alloc | apply pw_below_drewN | apply below_drew1 | refine below_set ?_ GE108.out) | exact HB.out))); (case aF => exact (fun _ _ => trivial)); (case aO => exact (by (with_reducible repeat (first | apply Kd.R_alloc | apply Kd.R_drewN | apply Kd.R_drew)); exact HO_3.out)); (case aS => exact (below_size (by repeat (first | (with_reducible first | exact HB.out | apply below_alloc | apply pw_below_drewN | apply below_drew1 | refine below_set ?_ GE108.out) | exact HB.out)))); (case aL => have := LMc16.out; omega); intro v114 w17 ho hb hg hat; rw [← Ny113.out] at ho; have n0_ := Aside0.mk (blk_grown (g := gb108) (o := .cells #[.int .i64 ((rd_T39 l0 x11_1).f0), .string ((rd_T39 l0 x11_1).f1), .slice (some ad112) ((rd_T39 l0 x11_1).f2).length c107_2] 39 (0, 0)) (by (with_reducible repeat (first | refine blk_drewN ?_ _ | refine blk_drew ?_ | refine blk_alloc ?_ _)); exact BK108.out) hg (Kd.R_ne HO_3.out BK108.out (by decide))); have n1_ := Aside0.mk (hb); have n2_ := Aside0.mk (ho); clear BK108; clear HB; clear HO_3; have BK108 := n0_; have HB := n1_; have HO115 := n2_; clear n0_ n1_ n2_; clear ho hb hg hat))
                            go_roundg k2
                            case measure => have := HK1.out; have := HK2.out; omega
                            case rel => exact ⟨(y113), (wrap64 (x31_2 + 1)), (by first | rfl | (simp; done) | (simp [*]; done)), H', ⟨by have := HK1.out; have := HK2.out; omega⟩, ⟨by (with_reducible repeat (first | apply Kd.R_alloc | apply Kd.R_drewN | apply Kd.R_drew)); exact HO115.out⟩, ⟨by (with_reducible repeat (first | refine blk_drewN ?_ _ | refine blk_drew ?_ | refine blk_alloc ?_ _)); exact BK108.out⟩, ⟨by repeat (first | (with_reducible first | exact HB.out | apply below_alloc | apply pw_below_drewN | apply below_drew1 | refine below_set ?_ GE108.out) | exact HB.out)⟩⟩
                          · rw [if_neg c16] at H
                            exact absurd H (by simp)
                        · rw [if_neg c15] at H
                          exact absurd H (by simp)
                      · rw [if_neg c14] at H
                        exact absurd H (by simp)
                    · rw [if_neg c13] at H
                      have c13b0 : decide (x31_2 < (((rd_T39 l0 x11_1).f2).length : Int)) = false := decide_eq_false c13
                      clear c13
                      have H' := Aside0.mk H
                      clear H
                      go_wp2
                      go_roundg k2
                      case measure => have := HK1.out; have := HK2.out; omega
                      case rel => exact ⟨(x3_2), (x4_1), (wrap64 (x11_1 + 1)), (by first | rfl | (simp; done) | (simp [*]; done)), (by first | rfl | (simp; done) | (simp [*]; done)), H', ⟨by have := HK1.out; have := HK2.out; omega⟩, ⟨by (with_reducible repeat (first | apply Kd.R_alloc | apply Kd.R_drewN | apply Kd.R_drew)); exact HO_3.out⟩, ⟨by repeat (first | (with_reducible first | exact HB.out | apply below_alloc | apply pw_below_drewN | apply below_drew1 | refine below_set ?_ GE108.out) | exact HB.out)⟩⟩
              · rw [if_neg c10] at H
                have c10b0 : (((rd_T39 l0 x11_1).f0) == 1) = false := beq_eq_false_iff_ne.mpr c10
                have c10b1 : (((rd_T39 l0 x11_1).f0) != 1) = true := bne_iff_ne.mpr c10
                by_cases c18 : ((rd_T39 l0 x11_1).f0) = 2
                · rw [if_pos c18] at H
                  have c18b0 : (((rd_T39 l0 x11_1).f0) == 2) = true := beq_iff_eq.mpr c18
                  have c18b1 : (((rd_T39 l0 x11_1).f0) != 2) = false := bne_eq_false_iff_eq.mpr c18
                  clear c18
                  by_cases c19 : (x3_1.length : Int) > 0
                  · rw [if_pos c19] at H
                    have c19b0 : decide (0 < (x3_1.length : Int)) = true := decide_eq_true c19
                    have c19b1 : decide (0 < x3_1.length) = true := decide_eq_true (by omega)
                    clear c19
                    obtain ⟨ji20, hji20⟩ : ∃ j_ : Int, (wrap64 ((x3_1.length : Int) - 1)) = j_ := ⟨_, rfl⟩
                    replace H : (if 0 ≤ (ji20) then (if (ji20) < (x3_1.length : Int) then (if x4_1 ≤ ((rd_T42 x3_1 (ji20)).f1) then (spec_LtPlayed.l0 k1 x3_1 (wrap64 (x4_1 + 1)) l0 (l0.length : Int) (wrap64 (x11_1 + 1))) else (spec_LtPlayed.l0 k1 x3_1 x4_1 l0 (l0.length : Int) (wrap64 (x11_1 + 1)))) else (none)) else (none)) = some r := by first | (rw [hji20] at H; exact H) | (simp only [hji20] at H ⊢; exact H)
                    have hji20w : (IntKind.i64.wrap ((x3_1.length : Int) - 1)) = ji20 := (i64_w _).trans hji20
                    by_cases c21 : 0 ≤ (ji20)
                    · rw [if_pos c21] at H
                      have c21b0 : decide (0 ≤ (ji20)) = true := decide_eq_true c21
                      clear c21
                      by_cases c22 : (ji20) < (x3_1.length : Int)
                      · rw [if_pos c22] at H
                        have c22b0 : decide ((ji20) < (x3_1.length : Int)) = true := decide_eq_true c22
                        clear c22
                        by_cases c23 : x4_1 ≤ ((rd_T42 x3_1 (ji20)).f1)
                        · rw [if_pos c23] at H
                          have c23b0 : decide (x4_1 ≤ ((rd_T42 x3_1 (ji20)).f1)) = true := decide_eq_true c23
                          clear c23
                          have H' := Aside0.mk H
                          clear H
                          have p107 : 0 ≤ (x11_1 : Int) := of_decide_eq_true (by first | (with_reducible assumption) | assumption)
                          have q107 : x11_1 < (l0.length : Int) := of_decide_eq_true (by first | (with_reducible assumption) | assumption)
                          obtain ⟨ad107, A107_2, c107_2, e107, hx107_0, hx107_1, hx107_2, hl107_2, hi107_2⟩ := at_T39 HR0.out x11_1 p107 q107
                          cases e107
                          replace hx107_0 := (HB.out.cell (World.block_lt_of_cell? w _ hx107_0)).trans hx107_0
                          replace hx107_1 := (HB.out.cell (World.block_lt_of_cell? w _ hx107_1)).trans hx107_1
                          replace hx107_2 := (HB.out.cell (World.block_lt_of_cell? w _ hx107_2)).trans hx107_2
                          have HR107_2 := Aside0.mk hi107_2
                          have HC107_2 := Aside0.mk hl107_2
                          clear hi107_2 hl107_2
                          replace p107 := eq_true p107
                          replace q107 := eq_true q107
                          go_wp2_with (first | ((with_reducible refine gate_dst (N := 6) rfl ?_); (try (refine gate_guard (by rfl) ?_; dsimp only)); refine box_event ?hg (N := 6) ?hd (cs := #[.int .i64 0, .string (⟨#[]⟩ : ByteArray), .slice none 0 0]) (t := 39) ?hr ?_; (case hd => rfl); (case hg => rfl); (case hr => first | (go_simp; done) | (go_simp; rfl)); intro gb108 hg w24 hbox hb; have n0_ := Aside0.mk (Kd.R_below (by (with_reducible repeat (first | apply Kd.R_alloc | apply Kd.R_drewN | apply Kd.R_drew)); exact HO_3.out) hb); have n1_ := Aside0.mk (below_step (by repeat (first | (with_reducible first | exact HB.out | apply below_alloc | apply pw_below_drewN | apply below_drew1) | exact HB.out)) hb); have n2_ := Aside0.mk (hbox); have n3_ := Aside0.mk ((by rw [hg]; exact (below_size (by repeat (first | (with_reducible first | exact HB.out | apply below_alloc | apply pw_below_drewN | apply below_drew1) | exact HB.out))) : w.heap.size ≤ gb108)); have n4_ := Aside0.mk ((by rw [hg]; exact (below_size (by repeat (first | (with_reducible first | exact HB.out | apply below_alloc | apply pw_below_drewN | apply below_drew1) | exact HB.out))) : w.heap.size ≤ gb108)); clear HO_3; clear HB; have HO_3 := n0_; have HB := n1_; have BK108 := n2_; have GW108 := n3_; have GE108 := n4_; clear n0_ n1_ n2_ n3_ n4_; clear hb hbox hg; have hcz25_0 : w24.cell? ⟨gb108, 0, none⟩ = some (.int .i64 0) := (blk_cell BK108.out 0).trans rfl; have hcz25_1 : w24.cell? ⟨gb108, 1, none⟩ = some (.string (⟨#[]⟩ : ByteArray)) := (blk_cell BK108.out 1).trans rfl; have hcz25_2 : w24.cell? ⟨gb108, 2, none⟩ = some (.slice none 0 0) := (blk_cell BK108.out 2).trans rfl; have hfz25_0 := blk_frozen BK108.out 0; have hfz25_1 := blk_frozen BK108.out 1; have hfz25_2 := blk_frozen BK108.out 2; obtain ⟨Ao26, co26, eo26⟩ := Kd.R_slice HO_3.out; subst eo26; have p116 : 0 ≤ ((ji20) : Int) := of_decide_eq_true (by first | (with_reducible assumption) | assumption); have q116 : (ji20) < (x3_1.length : Int) := of_decide_eq_true (by first | (with_reducible assumption) | assumption); obtain ⟨ad116, e116, hx116_0, hx116_1⟩ := at_T42 (Kd.R_reads' HO_3.out).2.2 (ji20) p116 q116; cases e116; have hn116_0 : ad116.block ≠ gb108 := Kd.own_blk (Kd.R_ne HO_3.out BK108.out (by decide)); have hn116_1 : ad116.block ≠ gb108 := Kd.own_blk (Kd.R_ne HO_3.out BK108.out (by decide)); have hn116_2 : ad116.block ≠ gb108 := Kd.own_blk (Kd.R_ne HO_3.out BK108.out (by decide)); replace hx116_0 := (cell_far (p := ⟨gb108, 0, none⟩) (by first | (rw [add_block]; exact hn116_0) | (show (Addr.add _ _).block ≠ _; rw [add_block]; exact hn116_0) | exact hn116_0) (.int .i64 ((rd_T39 l0 x11_1).f0))).trans hx116_0; replace hx116_1 := (cell_far (p := ⟨gb108, 0, none⟩) (by first | (rw [add_block]; exact hn116_0) | (show (Addr.add _ _).block ≠ _; rw [add_block]; exact hn116_0) | exact hn116_0) (.int .i64 ((rd_T39 l0 x11_1).f0))).trans hx116_1; replace hx116_0 := (cell_far (p := ⟨gb108, 1, none⟩) (by first | (rw [add_block]; exact hn116_1) | (show (Addr.add _ _).block ≠ _; rw [add_block]; exact hn116_1) | exact hn116_1) (.string ((rd_T39 l0 x11_1).f1))).trans hx116_0; replace hx116_1 := (cell_far (p := ⟨gb108, 1, none⟩) (by first | (rw [add_block]; exact hn116_1) | (show (Addr.add _ _).block ≠ _; rw [add_block]; exact hn116_1) | exact hn116_1) (.string ((rd_T39 l0 x11_1).f1))).trans hx116_1; replace hx116_0 := (cell_far (p := ⟨gb108, 2, none⟩) (by first | (rw [add_block]; exact hn116_2) | (show (Addr.add _ _).block ≠ _; rw [add_block]; exact hn116_2) | exact hn116_2) (.slice A107_2 ((rd_T39 l0 x11_1).f2).length c107_2)).trans hx116_0; replace hx116_1 := (cell_far (p := ⟨gb108, 2, none⟩) (by first | (rw [add_block]; exact hn116_2) | (show (Addr.add _ _).block ≠ _; rw [add_block]; exact hn116_2) | exact hn116_2) (.slice A107_2 ((rd_T39 l0 x11_1).f2).length c107_2)).trans hx116_1; clear hn116_0; clear hn116_1; clear hn116_2; replace p116 := eq_true p116; replace q116 := eq_true q116))
                          go_roundg k1
                          case measure => have := HK1.out; omega
                          case rel => exact ⟨(x3_1), (wrap64 (x4_1 + 1)), (wrap64 (x11_1 + 1)), (by first | rfl | (simp; done) | (simp [*]; done)), (by first | rfl | (simp; done) | (simp [*]; done)), H', ⟨by have := HK1.out; omega⟩, ⟨by (with_reducible repeat (first | apply Kd.R_alloc | apply Kd.R_drewN | apply Kd.R_drew)); exact Kd.R_mono (Kd.R_far (p := ⟨gb108, 2, none⟩) (Kd.R_far (p := ⟨gb108, 1, none⟩) (Kd.R_far (p := ⟨gb108, 0, none⟩) (Kd.R_types HO_3.out BK108.out (by decide)) (fun _ hk => hk.2) (.int .i64 ((rd_T39 l0 x11_1).f0))) (fun _ hk => hk.2) (.string ((rd_T39 l0 x11_1).f1))) (fun _ hk => hk.2) (.slice A107_2 ((rd_T39 l0 x11_1).f2).length c107_2)) (fun _ hk => trivial)⟩, ⟨by repeat (first | (with_reducible first | exact HB.out | apply below_alloc | apply pw_below_drewN | apply below_drew1 | refine below_set ?_ GE108.out) | exact HB.out)⟩⟩
                        · rw [if_neg c23] at H
                          have c23b0 : decide (x4_1 ≤ ((rd_T42 x3_1 (ji20)).f1)) = false := decide_eq_false c23
                          clear c23
                          have H' := Aside0.mk H
                          clear H
                          have p107 : 0 ≤ (x11_1 : Int) := of_decide_eq_true (by first | (with_reducible assumption) | assumption)
                          have q107 : x11_1 < (l0.length : Int) := of_decide_eq_true (by first | (with_reducible assumption) | assumption)
                          obtain ⟨ad107, A107_2, c107_2, e107, hx107_0, hx107_1, hx107_2, hl107_2, hi107_2⟩ := at_T39 HR0.out x11_1 p107 q107
                          cases e107
                          replace hx107_0 := (HB.out.cell (World.block_lt_of_cell? w _ hx107_0)).trans hx107_0
                          replace hx107_1 := (HB.out.cell (World.block_lt_of_cell? w _ hx107_1)).trans hx107_1
                          replace hx107_2 := (HB.out.cell (World.block_lt_of_cell? w _ hx107_2)).trans hx107_2
                          have HR107_2 := Aside0.mk hi107_2
                          have HC107_2 := Aside0.mk hl107_2
                          clear hi107_2 hl107_2
                          replace p107 := eq_true p107
                          replace q107 := eq_true q107
                          go_wp2_with (first | ((with_reducible refine gate_dst (N := 6) rfl ?_); (try (refine gate_guard (by rfl) ?_; dsimp only)); refine box_event ?hg (N := 6) ?hd (cs := #[.int .i64 0, .string (⟨#[]⟩ : ByteArray), .slice none 0 0]) (t := 39) ?hr ?_; (case hd => rfl); (case hg => rfl); (case hr => first | (go_simp; done) | (go_simp; rfl)); intro gb108 hg w27 hbox hb; have n0_ := Aside0.mk (Kd.R_below (by (with_reducible repeat (first | apply Kd.R_alloc | apply Kd.R_drewN | apply Kd.R_drew)); exact HO_3.out) hb); have n1_ := Aside0.mk (below_step (by repeat (first | (with_reducible first | exact HB.out | apply below_alloc | apply pw_below_drewN | apply below_drew1) | exact HB.out)) hb); have n2_ := Aside0.mk (hbox); have n3_ := Aside0.mk ((by rw [hg]; exact (below_size (by repeat (first | (with_reducible first | exact HB.out | apply below_alloc | apply pw_below_drewN | apply below_drew1) | exact HB.out))) : w.heap.size ≤ gb108)); have n4_ := Aside0.mk ((by rw [hg]; exact (below_size (by repeat (first | (with_reducible first | exact HB.out | apply below_alloc | apply pw_below_drewN | apply below_drew1) | exact HB.out))) : w.heap.size ≤ gb108)); clear HO_3; clear HB; have HO_3 := n0_; have HB := n1_; have BK108 := n2_; have GW108 := n3_; have GE108 := n4_; clear n0_ n1_ n2_ n3_ n4_; clear hb hbox hg; have hcz28_0 : w27.cell? ⟨gb108, 0, none⟩ = some (.int .i64 0) := (blk_cell BK108.out 0).trans rfl; have hcz28_1 : w27.cell? ⟨gb108, 1, none⟩ = some (.string (⟨#[]⟩ : ByteArray)) := (blk_cell BK108.out 1).trans rfl; have hcz28_2 : w27.cell? ⟨gb108, 2, none⟩ = some (.slice none 0 0) := (blk_cell BK108.out 2).trans rfl; have hfz28_0 := blk_frozen BK108.out 0; have hfz28_1 := blk_frozen BK108.out 1; have hfz28_2 := blk_frozen BK108.out 2; obtain ⟨Ao29, co29, eo29⟩ := Kd.R_slice HO_3.out; subst eo29; have p116 : 0 ≤ ((ji20) : Int) := of_decide_eq_true (by first | (with_reducible assumption) | assumption); have q116 : (ji20) < (x3_1.length : Int) := of_decide_eq_true (by first | (with_reducible assumption) | assumption); obtain ⟨ad116, e116, hx116_0, hx116_1⟩ := at_T42 (Kd.R_reads' HO_3.out).2.2 (ji20) p116 q116; cases e116; have hn116_0 : ad116.block ≠ gb108 := Kd.own_blk (Kd.R_ne HO_3.out BK108.out (by decide)); have hn116_1 : ad116.block ≠ gb108 := Kd.own_blk (Kd.R_ne HO_3.out BK108.out (by decide)); have hn116_2 : ad116.block ≠ gb108 := Kd.own_blk (Kd.R_ne HO_3.out BK108.out (by decide)); replace hx116_0 := (cell_far (p := ⟨gb108, 0, none⟩) (by first | (rw [add_block]; exact hn116_0) | (show (Addr.add _ _).block ≠ _; rw [add_block]; exact hn116_0) | exact hn116_0) (.int .i64 ((rd_T39 l0 x11_1).f0))).trans hx116_0; replace hx116_1 := (cell_far (p := ⟨gb108, 0, none⟩) (by first | (rw [add_block]; exact hn116_0) | (show (Addr.add _ _).block ≠ _; rw [add_block]; exact hn116_0) | exact hn116_0) (.int .i64 ((rd_T39 l0 x11_1).f0))).trans hx116_1; replace hx116_0 := (cell_far (p := ⟨gb108, 1, none⟩) (by first | (rw [add_block]; exact hn116_1) | (show (Addr.add _ _).block ≠ _; rw [add_block]; exact hn116_1) | exact hn116_1) (.string ((rd_T39 l0 x11_1).f1))).trans hx116_0; replace hx116_1 := (cell_far (p := ⟨gb108, 1, none⟩) (by first | (rw [add_block]; exact hn116_1) | (show (Addr.add _ _).block ≠ _; rw [add_block]; exact hn116_1) | exact hn116_1) (.string ((rd_T39 l0 x11_1).f1))).trans hx116_1; replace hx116_0 := (cell_far (p := ⟨gb108, 2, none⟩) (by first | (rw [add_block]; exact hn116_2) | (show (Addr.add _ _).block ≠ _; rw [add_block]; exact hn116_2) | exact hn116_2) (.slice A107_2 ((rd_T39 l0 x11_1).f2).length c107_2)).trans hx116_0; replace hx116_1 := (cell_far (p := ⟨gb108, 2, none⟩) (by first | (rw [add_block]; exact hn116_2) | (show (Addr.add _ _).block ≠ _; rw [add_block]; exact hn116_2) | exact hn116_2) (.slice A107_2 ((rd_T39 l0 x11_1).f2).length c107_2)).trans hx116_1; clear hn116_0; clear hn116_1; clear hn116_2; replace p116 := eq_true p116; replace q116 := eq_true q116))
                          go_roundg k1
                          case measure => have := HK1.out; omega
                          case rel => exact ⟨(x3_1), (x4_1), (wrap64 (x11_1 + 1)), (by first | rfl | (simp; done) | (simp [*]; done)), (by first | rfl | (simp; done) | (simp [*]; done)), H', ⟨by have := HK1.out; omega⟩, ⟨by (with_reducible repeat (first | apply Kd.R_alloc | apply Kd.R_drewN | apply Kd.R_drew)); exact Kd.R_mono (Kd.R_far (p := ⟨gb108, 2, none⟩) (Kd.R_far (p := ⟨gb108, 1, none⟩) (Kd.R_far (p := ⟨gb108, 0, none⟩) (Kd.R_types HO_3.out BK108.out (by decide)) (fun _ hk => hk.2) (.int .i64 ((rd_T39 l0 x11_1).f0))) (fun _ hk => hk.2) (.string ((rd_T39 l0 x11_1).f1))) (fun _ hk => hk.2) (.slice A107_2 ((rd_T39 l0 x11_1).f2).length c107_2)) (fun _ hk => trivial)⟩, ⟨by repeat (first | (with_reducible first | exact HB.out | apply below_alloc | apply pw_below_drewN | apply below_drew1 | refine below_set ?_ GE108.out) | exact HB.out)⟩⟩
                      · rw [if_neg c22] at H
                        exact absurd H (by simp)
                    · rw [if_neg c21] at H
                      exact absurd H (by simp)
                  · rw [if_neg c19] at H
                    have c19b0 : decide (0 < (x3_1.length : Int)) = false := decide_eq_false c19
                    have c19b1 : decide (0 < x3_1.length) = false := decide_eq_false (by omega)
                    clear c19
                    have H' := Aside0.mk H
                    clear H
                    have p107 : 0 ≤ (x11_1 : Int) := of_decide_eq_true (by first | (with_reducible assumption) | assumption)
                    have q107 : x11_1 < (l0.length : Int) := of_decide_eq_true (by first | (with_reducible assumption) | assumption)
                    obtain ⟨ad107, A107_2, c107_2, e107, hx107_0, hx107_1, hx107_2, hl107_2, hi107_2⟩ := at_T39 HR0.out x11_1 p107 q107
                    cases e107
                    replace hx107_0 := (HB.out.cell (World.block_lt_of_cell? w _ hx107_0)).trans hx107_0
                    replace hx107_1 := (HB.out.cell (World.block_lt_of_cell? w _ hx107_1)).trans hx107_1
                    replace hx107_2 := (HB.out.cell (World.block_lt_of_cell? w _ hx107_2)).trans hx107_2
                    have HR107_2 := Aside0.mk hi107_2
                    have HC107_2 := Aside0.mk hl107_2
                    clear hi107_2 hl107_2
                    replace p107 := eq_true p107
                    replace q107 := eq_true q107
                    go_wp2_with (first | ((with_reducible refine gate_dst (N := 6) rfl ?_); (try (refine gate_guard (by rfl) ?_; dsimp only)); refine box_event ?hg (N := 6) ?hd (cs := #[.int .i64 0, .string (⟨#[]⟩ : ByteArray), .slice none 0 0]) (t := 39) ?hr ?_; (case hd => rfl); (case hg => rfl); (case hr => first | (go_simp; done) | (go_simp; rfl)); intro gb108 hg w30 hbox hb; have n0_ := Aside0.mk (Kd.R_below (by (with_reducible repeat (first | apply Kd.R_alloc | apply Kd.R_drewN | apply Kd.R_drew)); exact HO_3.out) hb); have n1_ := Aside0.mk (below_step (by repeat (first | (with_reducible first | exact HB.out | apply below_alloc | apply pw_below_drewN | apply below_drew1) | exact HB.out)) hb); have n2_ := Aside0.mk (hbox); have n3_ := Aside0.mk ((by rw [hg]; exact (below_size (by repeat (first | (with_reducible first | exact HB.out | apply below_alloc | apply pw_below_drewN | apply below_drew1) | exact HB.out))) : w.heap.size ≤ gb108)); have n4_ := Aside0.mk ((by rw [hg]; exact (below_size (by repeat (first | (with_reducible first | exact HB.out | apply below_alloc | apply pw_below_drewN | apply below_drew1) | exact HB.out))) : w.heap.size ≤ gb108)); clear HO_3; clear HB; have HO_3 := n0_; have HB := n1_; have BK108 := n2_; have GW108 := n3_; have GE108 := n4_; clear n0_ n1_ n2_ n3_ n4_; clear hb hbox hg; have hcz31_0 : w30.cell? ⟨gb108, 0, none⟩ = some (.int .i64 0) := (blk_cell BK108.out 0).trans rfl; have hcz31_1 : w30.cell? ⟨gb108, 1, none⟩ = some (.string (⟨#[]⟩ : ByteArray)) := (blk_cell BK108.out 1).trans rfl; have hcz31_2 : w30.cell? ⟨gb108, 2, none⟩ = some (.slice none 0 0) := (blk_cell BK108.out 2).trans rfl; have hfz31_0 := blk_frozen BK108.out 0; have hfz31_1 := blk_frozen BK108.out 1; have hfz31_2 := blk_frozen BK108.out 2; obtain ⟨Ao32, co32, eo32⟩ := Kd.R_slice HO_3.out; subst eo32))
                    go_roundg k1
                    case measure => have := HK1.out; omega
                    case rel => exact ⟨(x3_1), (x4_1), (wrap64 (x11_1 + 1)), (by first | rfl | (simp; done) | (simp [*]; done)), (by first | rfl | (simp; done) | (simp [*]; done)), H', ⟨by have := HK1.out; omega⟩, ⟨by (with_reducible repeat (first | apply Kd.R_alloc | apply Kd.R_drewN | apply Kd.R_drew)); exact Kd.R_mono (Kd.R_far (p := ⟨gb108, 2, none⟩) (Kd.R_far (p := ⟨gb108, 1, none⟩) (Kd.R_far (p := ⟨gb108, 0, none⟩) (Kd.R_types HO_3.out BK108.out (by decide)) (fun _ hk => hk.2) (.int .i64 ((rd_T39 l0 x11_1).f0))) (fun _ hk => hk.2) (.string ((rd_T39 l0 x11_1).f1))) (fun _ hk => hk.2) (.slice A107_2 ((rd_T39 l0 x11_1).f2).length c107_2)) (fun _ hk => trivial)⟩, ⟨by repeat (first | (with_reducible first | exact HB.out | apply below_alloc | apply pw_below_drewN | apply below_drew1 | refine below_set ?_ GE108.out) | exact HB.out)⟩⟩
                · rw [if_neg c18] at H
                  have c18b0 : (((rd_T39 l0 x11_1).f0) == 2) = false := beq_eq_false_iff_ne.mpr c18
                  have c18b1 : (((rd_T39 l0 x11_1).f0) != 2) = true := bne_iff_ne.mpr c18
                  by_cases c33 : ((rd_T39 l0 x11_1).f0) = 3
                  · rw [if_pos c33] at H
                    have c33b0 : (((rd_T39 l0 x11_1).f0) == 3) = true := beq_iff_eq.mpr c33
                    have c33b1 : (((rd_T39 l0 x11_1).f0) != 3) = false := bne_eq_false_iff_eq.mpr c33
                    clear c33
                    obtain ⟨ji34, hji34⟩ : ∃ j_ : Int, (mx (wrap64 (x4_1 - 1)) 0) = j_ := ⟨_, rfl⟩
                    replace H : (spec_LtPlayed.l0 k1 x3_1 ji34 l0 (l0.length : Int) (wrap64 (x11_1 + 1))) = some r := by first | (rw [hji34] at H; exact H) | (simp only [hji34] at H ⊢; exact H)
                    have hji34_ : (if (wrap64 (x4_1 - 1)) < 0 then 0 else (wrap64 (x4_1 - 1))) = ji34 := hji34
                    have H' := Aside0.mk H
                    clear H
                    have p107 : 0 ≤ (x11_1 : Int) := of_decide_eq_true (by first | (with_reducible assumption) | assumption)
                    have q107 : x11_1 < (l0.length : Int) := of_decide_eq_true (by first | (with_reducible assumption) | assumption)
                    obtain ⟨ad107, A107_2, c107_2, e107, hx107_0, hx107_1, hx107_2, hl107_2, hi107_2⟩ := at_T39 HR0.out x11_1 p107 q107
                    cases e107
                    replace hx107_0 := (HB.out.cell (World.block_lt_of_cell? w _ hx107_0)).trans hx107_0
                    replace hx107_1 := (HB.out.cell (World.block_lt_of_cell? w _ hx107_1)).trans hx107_1
                    replace hx107_2 := (HB.out.cell (World.block_lt_of_cell? w _ hx107_2)).trans hx107_2
                    have HR107_2 := Aside0.mk hi107_2
                    have HC107_2 := Aside0.mk hl107_2
                    clear hi107_2 hl107_2
                    replace p107 := eq_true p107
                    replace q107 := eq_true q107
                    go_wp2_with (first | ((with_reducible refine gate_dst (N := 6) rfl ?_); (try (refine gate_guard (by rfl) ?_; dsimp only)); refine box_event ?hg (N := 6) ?hd (cs := #[.int .i64 0, .string (⟨#[]⟩ : ByteArray), .slice none 0 0]) (t := 39) ?hr ?_; (case hd => rfl); (case hg => rfl); (case hr => first | (go_simp; done) | (go_simp; rfl)); intro gb108 hg w35 hbox hb; have n0_ := Aside0.mk (Kd.R_below (by (with_reducible repeat (first | apply Kd.R_alloc | apply Kd.R_drewN | apply Kd.R_drew)); exact HO_3.out) hb); have n1_ := Aside0.mk (below_step (by repeat (first | (with_reducible first | exact HB.out | apply below_alloc | apply pw_below_drewN | apply below_drew1) | exact HB.out)) hb); have n2_ := Aside0.mk (hbox); have n3_ := Aside0.mk ((by rw [hg]; exact (below_size (by repeat (first | (with_reducible first | exact HB.out | apply below_alloc | apply pw_below_drewN | apply below_drew1) | exact HB.out))) : w.heap.size ≤ gb108)); have n4_ := Aside0.mk ((by rw [hg]; exact (below_size (by repeat (first | (with_reducible first | exact HB.out | apply below_alloc | apply pw_below_drewN | apply below_drew1) | exact HB.out))) : w.heap.size ≤ gb108)); clear HO_3; clear HB; have HO_3 := n0_; have HB := n1_; have BK108 := n2_; have GW108 := n3_; have GE108 := n4_; clear n0_ n1_ n2_ n3_ n4_; clear hb hbox hg; have hcz36_0 : w35.cell? ⟨gb108, 0, none⟩ = some (.int .i64 0) := (blk_cell BK108.out 0).trans rfl; have hcz36_1 : w35.cell? ⟨gb108, 1, none⟩ = some (.string (⟨#[]⟩ : ByteArray)) := (blk_cell BK108.out 1).trans rfl; have hcz36_2 : w35.cell? ⟨gb108, 2, none⟩ = some (.slice none 0 0) := (blk_cell BK108.out 2).trans rfl; have hfz36_0 := blk_frozen BK108.out 0; have hfz36_1 := blk_frozen BK108.out 1; have hfz36_2 := blk_frozen BK108.out 2))
                    go_roundg k1
                    case measure => have := HK1.out; omega
                    case rel => exact ⟨(x3_1), (ji34), (wrap64 (x11_1 + 1)), (by first | rfl | (simp; done) | (simp only [← hji34] <;> (first | rfl | simp)) | (simp [*]; done)), (by first | rfl | (simp; done) | (simp [*]; done)), H', ⟨by have := HK1.out; omega⟩, ⟨by (with_reducible repeat (first | apply Kd.R_alloc | apply Kd.R_drewN | apply Kd.R_drew)); exact Kd.R_mono (Kd.R_far (p := ⟨gb108, 2, none⟩) (Kd.R_far (p := ⟨gb108, 1, none⟩) (Kd.R_far (p := ⟨gb108, 0, none⟩) (Kd.R_types HO_3.out BK108.out (by decide)) (fun _ hk => hk.2) (.int .i64 ((rd_T39 l0 x11_1).f0))) (fun _ hk => hk.2) (.string ((rd_T39 l0 x11_1).f1))) (fun _ hk => hk.2) (.slice A107_2 ((rd_T39 l0 x11_1).f2).length c107_2)) (fun _ hk => trivial)⟩, ⟨by repeat (first | (with_reducible first | exact HB.out | apply below_alloc | apply pw_below_drewN | apply below_drew1 | refine below_set ?_ GE108.out) | exact HB.out)⟩⟩
                  · rw [if_neg c33] at H
                    have c33b0 : (((rd_T39 l0 x11_1).f0) == 3) = false := beq_eq_false_iff_ne.mpr c33
                    have c33b1 : (((rd_T39 l0 x11_1).f0) != 3) = true := bne_iff_ne.mpr c33
                    by_cases c37 : ((rd_T39 l0 x11_1).f0) = 4
                    · rw [if_pos c37] at H
                      have c37b0 : (((rd_T39 l0 x11_1).f0) == 4) = true := beq_iff_eq.mpr c37
                      have c37b1 : (((rd_T39 l0 x11_1).f0) != 4) = false := bne_eq_false_iff_eq.mpr c37
                      clear c37
                      have H' := Aside0.mk H
                      clear H
                      have p107 : 0 ≤ (x11_1 : Int) := of_decide_eq_true (by first | (with_reducible assumption) | assumption)
                      have q107 : x11_1 < (l0.length : Int) := of_decide_eq_true (by first | (with_reducible assumption) | assumption)
                      obtain ⟨ad107, A107_2, c107_2, e107, hx107_0, hx107_1, hx107_2, hl107_2, hi107_2⟩ := at_T39 HR0.out x11_1 p107 q107
                      cases e107
                      replace hx107_0 := (HB.out.cell (World.block_lt_of_cell? w _ hx107_0)).trans hx107_0
                      replace hx107_1 := (HB.out.cell (World.block_lt_of_cell? w _ hx107_1)).trans hx107_1
                      replace hx107_2 := (HB.out.cell (World.block_lt_of_cell? w _ hx107_2)).trans hx107_2
                      have HR107_2 := Aside0.mk hi107_2
                      have HC107_2 := Aside0.mk hl107_2
                      clear hi107_2 hl107_2
                      replace p107 := eq_true p107
                      replace q107 := eq_true q107
                      go_wp2_with (first | ((with_reducible refine gate_dst (N := 6) rfl ?_); (try (refine gate_guard (by rfl) ?_; dsimp only)); refine box_event ?hg (N := 6) ?hd (cs := #[.int .i64 0, .string (⟨#[]⟩ : ByteArray), .slice none 0 0]) (t := 39) ?hr ?_; (case hd => rfl); (case hg => rfl); (case hr => first | (go_simp; done) | (go_simp; rfl)); intro gb108 hg w38 hbox hb; have n0_ := Aside0.mk (Kd.R_below (by (with_reducible repeat (first | apply Kd.R_alloc | apply Kd.R_drewN | apply Kd.R_drew)); exact HO_3.out) hb); have n1_ := Aside0.mk (below_step (by repeat (first | (with_reducible first | exact HB.out | apply below_alloc | apply pw_below_drewN | apply below_drew1) | exact HB.out)) hb); have n2_ := Aside0.mk (hbox); have n3_ := Aside0.mk ((by rw [hg]; exact (below_size (by repeat (first | (with_reducible first | exact HB.out | apply below_alloc | apply pw_below_drewN | apply below_drew1) | exact HB.out))) : w.heap.size ≤ gb108)); have n4_ := Aside0.mk ((by rw [hg]; exact (below_size (by repeat (first | (with_reducible first | exact HB.out | apply below_alloc | apply pw_below_drewN | apply below_drew1) | exact HB.out))) : w.heap.size ≤ gb108)); clear HO_3; clear HB; have HO_3 := n0_; have HB := n1_; have BK108 := n2_; have GW108 := n3_; have GE108 := n4_; clear n0_ n1_ n2_ n3_ n4_; clear hb hbox hg; have hcz39_0 : w38.cell? ⟨gb108, 0, none⟩ = some (.int .i64 0) := (blk_cell BK108.out 0).trans rfl; have hcz39_1 : w38.cell? ⟨gb108, 1, none⟩ = some (.string (⟨#[]⟩ : ByteArray)) := (blk_cell BK108.out 1).trans rfl; have hcz39_2 : w38.cell? ⟨gb108, 2, none⟩ = some (.slice none 0 0) := (blk_cell BK108.out 2).trans rfl; have hfz39_0 := blk_frozen BK108.out 0; have hfz39_1 := blk_frozen BK108.out 1; have hfz39_2 := blk_frozen BK108.out 2))
                      go_roundg k1
                      case measure => have := HK1.out; omega
                      case rel => exact ⟨(x3_1), (0), (wrap64 (x11_1 + 1)), (by first | rfl | (simp; done) | (simp [*]; done)), (by first | rfl | (simp; done) | (simp [*]; done)), H', ⟨by have := HK1.out; omega⟩, ⟨by (with_reducible repeat (first | apply Kd.R_alloc | apply Kd.R_drewN | apply Kd.R_drew)); exact Kd.R_mono (Kd.R_far (p := ⟨gb108, 2, none⟩) (Kd.R_far (p := ⟨gb108, 1, none⟩) (Kd.R_far (p := ⟨gb108, 0, none⟩) (Kd.R_types HO_3.out BK108.out (by decide)) (fun _ hk => hk.2) (.int .i64 ((rd_T39 l0 x11_1).f0))) (fun _ hk => hk.2) (.string ((rd_T39 l0 x11_1).f1))) (fun _ hk => hk.2) (.slice A107_2 ((rd_T39 l0 x11_1).f2).length c107_2)) (fun _ hk => trivial)⟩, ⟨by repeat (first | (with_reducible first | exact HB.out | apply below_alloc | apply pw_below_drewN | apply below_drew1 | refine below_set ?_ GE108.out) | exact HB.out)⟩⟩
                    · rw [if_neg c37] at H
                      have c37b0 : (((rd_T39 l0 x11_1).f0) == 4) = false := beq_eq_false_iff_ne.mpr c37
                      have c37b1 : (((rd_T39 l0 x11_1).f0) != 4) = true := bne_iff_ne.mpr c37
                      by_cases c40 : ((rd_T39 l0 x11_1).f0) = 5
                      · rw [if_pos c40] at H
                        have c40b0 : (((rd_T39 l0 x11_1).f0) == 5) = true := beq_iff_eq.mpr c40
                        have c40b1 : (((rd_T39 l0 x11_1).f0) != 5) = false := bne_eq_false_iff_eq.mpr c40
                        clear c40
                        have H' := Aside0.mk H
                        clear H
                        have p107 : 0 ≤ (x11_1 : Int) := of_decide_eq_true (by first | (with_reducible assumption) | assumption)
                        have q107 : x11_1 < (l0.length : Int) := of_decide_eq_true (by first | (with_reducible assumption) | assumption)
                        obtain ⟨ad107, A107_2, c107_2, e107, hx107_0, hx107_1, hx107_2, hl107_2, hi107_2⟩ := at_T39 HR0.out x11_1 p107 q107
                        cases e107
                        replace hx107_0 := (HB.out.cell (World.block_lt_of_cell? w _ hx107_0)).trans hx107_0
                        replace hx107_1 := (HB.out.cell (World.block_lt_of_cell? w _ hx107_1)).trans hx107_1
                        replace hx107_2 := (HB.out.cell (World.block_lt_of_cell? w _ hx107_2)).trans hx107_2
                        have HR107_2 := Aside0.mk hi107_2
                        have HC107_2 := Aside0.mk hl107_2
                        clear hi107_2 hl107_2
                        replace p107 := eq_true p107
                        replace q107 := eq_true q107
                        go_wp2_with (first | ((with_reducible refine gate_dst (N := 6) rfl ?_); (try (refine gate_guard (by rfl) ?_; dsimp only)); refine box_event ?hg (N := 6) ?hd (cs := #[.int .i64 0, .string (⟨#[]⟩ : ByteArray), .slice none 0 0]) (t := 39) ?hr ?_; (case hd => rfl); (case hg => rfl); (case hr => first | (go_simp; done) | (go_simp; rfl)); intro gb108 hg w41 hbox hb; have n0_ := Aside0.mk (Kd.R_below (by (with_reducible repeat (first | apply Kd.R_alloc | apply Kd.R_drewN | apply Kd.R_drew)); exact HO_3.out) hb); have n1_ := Aside0.mk (below_step (by repeat (first | (with_reducible first | exact HB.out | apply below_alloc | apply pw_below_drewN | apply below_drew1) | exact HB.out)) hb); have n2_ := Aside0.mk (hbox); have n3_ := Aside0.mk ((by rw [hg]; exact (below_size (by repeat (first | (with_reducible first | exact HB.out | apply below_alloc | apply pw_below_drewN | apply below_drew1) | exact HB.out))) : w.heap.size ≤ gb108)); have n4_ := Aside0.mk ((by rw [hg]; exact (below_size (by repeat (first | (with_reducible first | exact HB.out | apply below_alloc | apply pw_below_drewN | apply below_drew1) | exact HB.out))) : w.heap.size ≤ gb108)); clear HO_3; clear HB; have HO_3 := n0_; have HB := n1_; have BK108 := n2_; have GW108 := n3_; have GE108 := n4_; clear n0_ n1_ n2_ n3_ n4_; clear hb hbox hg; have hcz42_0 : w41.cell? ⟨gb108, 0, none⟩ = some (.int .i64 0) := (blk_cell BK108.out 0).trans rfl; have hcz42_1 : w41.cell? ⟨gb108, 1, none⟩ = some (.string (⟨#[]⟩ : ByteArray)) := (blk_cell BK108.out 1).trans rfl; have hcz42_2 : w41.cell? ⟨gb108, 2, none⟩ = some (.slice none 0 0) := (blk_cell BK108.out 2).trans rfl; have hfz42_0 := blk_frozen BK108.out 0; have hfz42_1 := blk_frozen BK108.out 1; have hfz42_2 := blk_frozen BK108.out 2))
                        go_roundg k1
                        case measure => have := HK1.out; omega
                        case rel => exact ⟨(([] : List (S42))), (0), (wrap64 (x11_1 + 1)), (by first | rfl | (simp; done) | (simp [*]; done)), (by first | rfl | (simp; done) | (simp [*]; done)), H', ⟨by have := HK1.out; omega⟩, ⟨by first | exact Kd.R_nil _ _ _ _ _ | exact Kd.N_nil _ _ _ _ _ | exact Kd.V_nil _ _ _ _ _ | exact Kd.Q_nil _ _ _ _ _ | exact Kd.S_nil _ _ _ _ _⟩, ⟨by repeat (first | (with_reducible first | exact HB.out | apply below_alloc | apply pw_below_drewN | apply below_drew1 | refine below_set ?_ GE108.out) | exact HB.out)⟩⟩
                      · rw [if_neg c40] at H
                        have c40b0 : (((rd_T39 l0 x11_1).f0) == 5) = false := beq_eq_false_iff_ne.mpr c40
                        have c40b1 : (((rd_T39 l0 x11_1).f0) != 5) = true := bne_iff_ne.mpr c40
                        have H' := Aside0.mk H
                        clear H
                        have p107 : 0 ≤ (x11_1 : Int) := of_decide_eq_true (by first | (with_reducible assumption) | assumption)
                        have q107 : x11_1 < (l0.length : Int) := of_decide_eq_true (by first | (with_reducible assumption) | assumption)
                        obtain ⟨ad107, A107_2, c107_2, e107, hx107_0, hx107_1, hx107_2, hl107_2, hi107_2⟩ := at_T39 HR0.out x11_1 p107 q107
                        cases e107
                        replace hx107_0 := (HB.out.cell (World.block_lt_of_cell? w _ hx107_0)).trans hx107_0
                        replace hx107_1 := (HB.out.cell (World.block_lt_of_cell? w _ hx107_1)).trans hx107_1
                        replace hx107_2 := (HB.out.cell (World.block_lt_of_cell? w _ hx107_2)).trans hx107_2
                        have HR107_2 := Aside0.mk hi107_2
                        have HC107_2 := Aside0.mk hl107_2
                        clear hi107_2 hl107_2
                        replace p107 := eq_true p107
                        replace q107 := eq_true q107
                        go_wp2_with (first | ((with_reducible refine gate_dst (N := 6) rfl ?_); (try (refine gate_guard (by rfl) ?_; dsimp only)); refine box_event ?hg (N := 6) ?hd (cs := #[.int .i64 0, .string (⟨#[]⟩ : ByteArray), .slice none 0 0]) (t := 39) ?hr ?_; (case hd => rfl); (case hg => rfl); (case hr => first | (go_simp; done) | (go_simp; rfl)); intro gb108 hg w43 hbox hb; have n0_ := Aside0.mk (Kd.R_below (by (with_reducible repeat (first | apply Kd.R_alloc | apply Kd.R_drewN | apply Kd.R_drew)); exact HO_3.out) hb); have n1_ := Aside0.mk (below_step (by repeat (first | (with_reducible first | exact HB.out | apply below_alloc | apply pw_below_drewN | apply below_drew1) | exact HB.out)) hb); have n2_ := Aside0.mk (hbox); have n3_ := Aside0.mk ((by rw [hg]; exact (below_size (by repeat (first | (with_reducible first | exact HB.out | apply below_alloc | apply pw_below_drewN | apply below_drew1) | exact HB.out))) : w.heap.size ≤ gb108)); have n4_ := Aside0.mk ((by rw [hg]; exact (below_size (by repeat (first | (with_reducible first | exact HB.out | apply below_alloc | apply pw_below_drewN | apply below_drew1) | exact HB.out))) : w.heap.size ≤ gb108)); clear HO_3; clear HB; have HO_3 := n0_; have HB := n1_; have BK108 := n2_; have GW108 := n3_; have GE108 := n4_; clear n0_ n1_ n2_ n3_ n4_; clear hb hbox hg; have hcz44_0 : w43.cell? ⟨gb108, 0, none⟩ = some (.int .i64 0) := (blk_cell BK108.out 0).trans rfl; have hcz44_1 : w43.cell? ⟨gb108, 1, none⟩ = some (.string (⟨#[]⟩ : ByteArray)) := (blk_cell BK108.out 1).trans rfl; have hcz44_2 : w43.cell? ⟨gb108, 2, none⟩ = some (.slice none 0 0) := (blk_cell BK108.out 2).trans rfl; have hfz44_0 := blk_frozen BK108.out 0; have hfz44_1 := blk_frozen BK108.out 1; have hfz44_2 := blk_frozen BK108.out 2))
                        go_roundg k1
                        case measure => have := HK1.out; omega
                        case rel => exact ⟨(x3_1), (x4_1), (wrap64 (x11_1 + 1)), (by first | rfl | (simp; done) | (simp [*]; done)), (by first | rfl | (simp; done) | (simp [*]; done)), H', ⟨by have := HK1.out; omega⟩, ⟨by (with_reducible repeat (first | apply Kd.R_alloc | apply Kd.R_drewN | apply Kd.R_drew)); exact Kd.R_mono (Kd.R_far (p := ⟨gb108, 2, none⟩) (Kd.R_far (p := ⟨gb108, 1, none⟩) (Kd.R_far (p := ⟨gb108, 0, none⟩) (Kd.R_types HO_3.out BK108.out (by decide)) (fun _ hk => hk.2) (.int .i64 ((rd_T39 l0 x11_1).f0))) (fun _ hk => hk.2) (.string ((rd_T39 l0 x11_1).f1))) (fun _ hk => hk.2) (.slice A107_2 ((rd_T39 l0 x11_1).f2).length c107_2)) (fun _ hk => trivial)⟩, ⟨by repeat (first | (with_reducible first | exact HB.out | apply below_alloc | apply pw_below_drewN | apply below_drew1 | refine below_set ?_ GE108.out) | exact HB.out)⟩⟩
          · rw [if_neg c4] at H
            exact absurd H (by simp)
        · rw [if_neg c3] at H
          exact absurd H (by simp)
      · rw [if_neg c2] at H
        have c2b0 : decide (x11_1 < (l0.length : Int)) = false := decide_eq_false c2
        clear c2
        obtain rfl := Option.some.inj H
        go_wp2
        go_ret
        exact ⟨_, by first | rfl | (simp [errW_none, errW_some] <;> rfl) | (simp [*, errW_none, errW_some] <;> rfl), by (with_reducible repeat (first | apply Kd.R_alloc | apply Kd.R_drewN | apply Kd.R_drew)); exact HO_3.out, by repeat (first | (with_reducible first | exact HB.out | apply below_alloc | apply pw_below_drewN | apply below_drew1) | exact HB.out)⟩

-- FOREIGN: function 19 (spec_TxSimple)

end Go.Proofs.YthjpchabeemfmaaGreatDoor.P
