/- Printed by a program of this session (pf.sh): Go functions as Lean functions, with their contracts. -/
import Derived.Test.YteenhipldfdkaaaPx0
import Derived.Test.YteenhipldfdkaaaFf
namespace Go.Proofs.Yteenhipldfdkaaa.P
open Go.RowKit Go.Proofs.YteenhipldfdkaaaW.PrintWords Go.Proofs.YteenhipldfdkaaaW.PrintLast Go.Proofs.YteenhipldfdkaaaW.PrintMore
attribute [local go_sem] max2_int min2_int max_two min_two max_three min_three max_four min_four   -- for this text's walks alone
set_option linter.unusedVariables false
set_option linter.unusedSimpArgs false

/-! ### spec_Decimal: function 39 -/
def spec_Decimal.f : Nat → Int → Option (ByteArray)
  | 0, _ => none
  | k + 1, a0 => if a0 < 0 then (if a0 > (-10) then ((some (([(wrap64 (48 - a0)) % 256] : List Int) : List Int)).bind fun y152 => (if 1 + (strOfNums y152).size ≤ 9223372036854775807 then (some ((⟨#[45]⟩ : ByteArray) ++ (strOfNums y152))) else (none))) else ((some (([(wrap64 (48 - (Int.tmod a0 10))) % 256] : List Int) : List Int)).bind fun y155 => ((spec_Decimal.f k (wrap64 (Int.tdiv a0 10))).bind fun t158 => (if t158.size + (strOfNums y155).size ≤ 9223372036854775807 then (some (t158 ++ (strOfNums y155))) else (none))))) else (if a0 < 10 then (some (strOfNums (([(wrap64 (48 + a0)) % 256] : List Int)))) else ((spec_Decimal.f k (wrap64 (Int.tdiv a0 10))).bind fun t162 => ((some (([(wrap64 (48 + (Int.tmod a0 10))) % 256] : List Int) : List Int)).bind fun y163 => (if t162.size + (strOfNums y163).size ≤ 9223372036854775807 then (some (t162 ++ (strOfNums y163))) else (none)))))
theorem spec_Decimal.mono_l : ∀ k, (∀ y0, LeO (spec_Decimal.f k y0) (spec_Decimal.f (k + 1) y0))
  | 0 => fun _ r h => by simp [spec_Decimal.f] at h
  | k + 1 => by
    have ih0 := spec_Decimal.mono_l k
    · intro y0
      unfold spec_Decimal.f
      repeat' first
      | (with_reducible exact ih0 _)
      | (with_reducible exact LeO.refl _)
      | (with_reducible exact LeO.none _)
      | (with_reducible refine LeO.ite ?_ ?_)
      | (with_reducible refine LeO.bind ?_ (fun _ => ?_))
      | exact ih0 _
      | exact LeO.none _
      | refine LeO.ite ?_ ?_
      | refine LeO.bind ?_ (fun _ => ?_)
theorem spec_Decimal.mono : ∀ a0 k, LeO (spec_Decimal.f k a0) (spec_Decimal.f (k + 1) a0) := by
  intro a0 k
  have ih0 := spec_Decimal.mono_l k
  exact ih0 a0
def spec_Decimal.T9 : Bool × List (List Nat × List Nat) := (true, [([], []), ([0], [0]), ([1], [1]), ([], []), ([3], [3]), ([4], [4]), ([5], [5]), ([6], [6]), ([7], [7]), ([2, 8], [2, 8]), ([9, 2, 0, 1, 2, 3, 4, 5, 6, 7, 8, 9], [9])])
def spec_Decimal.B9 : List Nat := [0, 1, 3, 0, 8, 24, 56, 120, 248, 511, 1023]
theorem spec_Decimal.tab9 : rtab .any (opsOf Try.f39 9) = spec_Decimal.T9 := by kernel_rfl
theorem spec_Decimal.bits9 : waitsOk spec_Decimal.T9.2 spec_Decimal.B9 = true := by kernel_rfl
set_option maxHeartbeats 8000000 in
set_option maxRecDepth 100000 in
theorem spec_Decimal.calls (k : Nat) : ∀ (a0 : Int) (r : ByteArray) (w : World) (h : spec_Decimal.f k a0 = some r),
    Calls Try.prog 39 #[.int .i64 a0] w fun e w' => e = .returned (.string r) ∧ Below w.heap.size w w' := by
  induction k using Nat.strongRecOn with
  | _ k ih =>
  intro a0 r w h
  cases k with
  | zero => exact absurd h (by simp [spec_Decimal.f])
  | succ k =>
  simp only [spec_Decimal.f] at h
  have HB := Aside0.mk (Below.refl w.heap.size w)
  have H : (if a0 < 0 then (if a0 > (-10) then ((some (([(wrap64 (48 - a0)) % 256] : List Int) : List Int)).bind fun y152 => (if 1 + (strOfNums y152).size ≤ 9223372036854775807 then (some ((⟨#[45]⟩ : ByteArray) ++ (strOfNums y152))) else (none))) else ((some (([(wrap64 (48 - (Int.tmod a0 10))) % 256] : List Int) : List Int)).bind fun y155 => ((spec_Decimal.f k (wrap64 (Int.tdiv a0 10))).bind fun t158 => (if t158.size + (strOfNums y155).size ≤ 9223372036854775807 then (some (t158 ++ (strOfNums y155))) else (none))))) else (if a0 < 10 then (some (strOfNums (([(wrap64 (48 + a0)) % 256] : List Int)))) else ((spec_Decimal.f k (wrap64 (Int.tdiv a0 10))).bind fun t162 => ((some (([(wrap64 (48 + (Int.tmod a0 10))) % 256] : List Int) : List Int)).bind fun y163 => (if t162.size + (strOfNums y163).size ≤ 9223372036854775807 then (some (t162 ++ (strOfNums y163))) else (none)))))) = some r := h
  clear h
  by_cases c2 : a0 < 0
  · rw [if_pos c2] at H
    have c2b0 : decide (a0 < 0) = true := decide_eq_true c2
    clear c2
    by_cases c3 : a0 > (-10)
    · rw [if_pos c3] at H
      have c3b0 : decide ((-10) < a0) = true := decide_eq_true c3
      clear c3
      obtain ⟨y152, hy152⟩ : ∃ y_ : List Int, y_ = (([(wrap64 (48 - a0)) % 256] : List Int)) := ⟨_, rfl⟩
      replace H : (if 1 + (strOfNums y152).size ≤ 9223372036854775807 then (some ((⟨#[45]⟩ : ByteArray) ++ (strOfNums y152))) else (none)) = some r := by first | (rw [hy152]; with_reducible exact H) | (have H2_ := (Option.bind_some _ _).symm.trans H; rw [hy152]; with_reducible exact H2_) | (have H2_ := (Option.bind_some _ _).symm.trans H; with_reducible exact H2_) | with_reducible exact H | (rw [hy152]; exact H) | exact H
      have Ny152 := Aside0.mk hy152
      clear hy152
      by_cases c4 : 1 + (strOfNums y152).size ≤ 9223372036854775807
      · rw [if_pos c4] at H
        have c4b0 := eq_true c4
        have c4b1 : decide (1 + (strOfNums y152).size ≤ 9223372036854775807) = true := decide_eq_true c4
        try have c4b2 : (9223372036854775807 < 1 + (strOfNums y152).size) = False := eq_false (Nat.not_lt.2 c4)
        obtain rfl := Option.some.inj H
        go_enter Try.func39, Try.ntmps39
        go_wp2_with (first | ((with_reducible refine gate_dst (N := 11) rfl ?_); refine Kd.R_lit (Kd.int .u8) _ 5 ?hg (N := 11) ?hd (xs := ([(wrap64 (48 - a0)) % 256] : List Int)) (inner := [.int .u8 ((wrap64 (48 - a0)) % 256)]) (ok := fun _ => True) (okp := fun _ => True) ?hr ?hp (fun _ hk => hk) trivial (Below.refl _ _) (Nat.le_refl _) (by simp) ?_; (case hd => rfl); (case hg => rfl); (case hr => first | (go_simp; done) | (go_simp; rfl)); (case hp => exact (Reps.one (show Kd.M (Kd.int .u8) _ _ _ ((wrap64 (48 - a0)) % 256) [.int .u8 ((wrap64 (48 - a0)) % 256)] from rfl) (Reps.none _ _))); intro v153 w5 ho6 hb hg_ hnew_; clear hg_ hnew_; (first | rw [← Ny152.out] at ho6 | (simp only [Int.reduceToNat] at ho6; rw [← Ny152.out] at ho6)); have n0_ := Aside0.mk (Kd.R_lower ho6 (below_size (by repeat (first | (with_reducible first | exact HB.out | apply below_alloc | apply pw_below_drewN | apply below_drew1) | exact HB.out)))); have n1_ := Aside0.mk (below_step (by repeat (first | (with_reducible first | exact HB.out | apply below_alloc | apply pw_below_drewN | apply below_drew1) | exact HB.out)) hb); clear HB; have HO154 := n0_; have HB := n1_; clear n0_ n1_; clear hb ho6; have hcv7 := own_string (P := Try.prog) Try.underlying60 Try.underlying5 Try.underlying9 (Kd.own_of_R HO154.out)))
        go_ret
        exact ⟨by first | rfl | (simp [errW_none, errW_some] <;> rfl) | (have e_ : ∀ l_ : List UInt8, (l_ != []) = !l_.isEmpty := fun l_ => (by cases l_ <;> rfl); simp [errW_none, errW_some, e_]; done) | (simp [*, errW_none, errW_some] <;> rfl), by repeat (first | (with_reducible first | exact HB.out | apply below_alloc | apply pw_below_drewN | apply below_drew1) | exact HB.out)⟩
      · rw [if_neg c4] at H
        exact absurd H (by simp)
    · rw [if_neg c3] at H
      have c3b0 : decide ((-10) < a0) = false := decide_eq_false c3
      clear c3
      obtain ⟨y155, hy155⟩ : ∃ y_ : List Int, y_ = (([(wrap64 (48 - (Int.tmod a0 10))) % 256] : List Int)) := ⟨_, rfl⟩
      replace H : ((spec_Decimal.f k (wrap64 (Int.tdiv a0 10))).bind fun t158 => (if t158.size + (strOfNums y155).size ≤ 9223372036854775807 then (some (t158 ++ (strOfNums y155))) else (none))) = some r := by first | (rw [hy155]; with_reducible exact H) | (have H2_ := (Option.bind_some _ _).symm.trans H; rw [hy155]; with_reducible exact H2_) | (have H2_ := (Option.bind_some _ _).symm.trans H; with_reducible exact H2_) | with_reducible exact H | (rw [hy155]; exact H) | exact H
      have Ny155 := Aside0.mk hy155
      clear hy155
      replace H := Option.bind_eq_some_iff.mp H
      obtain ⟨t158, A80, H⟩ := H
      replace H : (if t158.size + (strOfNums y155).size ≤ 9223372036854775807 then (some (t158 ++ (strOfNums y155))) else (none)) = some r := H
      have A8 := Aside0.mk A80
      clear A80
      by_cases c9 : t158.size + (strOfNums y155).size ≤ 9223372036854775807
      · rw [if_pos c9] at H
        have c9b0 := eq_true c9
        have c9b1 : decide (t158.size + (strOfNums y155).size ≤ 9223372036854775807) = true := decide_eq_true c9
        try have c9b2 : (9223372036854775807 < t158.size + (strOfNums y155).size) = False := eq_false (Nat.not_lt.2 c9)
        obtain rfl := Option.some.inj H
        go_enter Try.func39, Try.ntmps39
        go_wp2_with (first | ((with_reducible refine gate_dst (N := 18) rfl ?_); refine Kd.R_lit (Kd.int .u8) _ 5 ?hg (N := 18) ?hd (xs := ([(wrap64 (48 - (Int.tmod a0 10))) % 256] : List Int)) (inner := [.int .u8 ((wrap64 (48 - (Int.tmod a0 10))) % 256)]) (ok := fun _ => True) (okp := fun _ => True) ?hr ?hp (fun _ hk => hk) trivial (Below.refl _ _) (Nat.le_refl _) (by simp) ?_; (case hd => rfl); (case hg => rfl); (case hr => first | (go_simp; done) | (go_simp; rfl)); (case hp => exact (Reps.one (show Kd.M (Kd.int .u8) _ _ _ ((wrap64 (48 - (Int.tmod a0 10))) % 256) [.int .u8 ((wrap64 (48 - (Int.tmod a0 10))) % 256)] from rfl) (Reps.none _ _))); intro v156 w10 ho11 hb hg_ hnew_; clear hg_ hnew_; (first | rw [← Ny155.out] at ho11 | (simp only [Int.reduceToNat] at ho11; rw [← Ny155.out] at ho11)); have n0_ := Aside0.mk (Kd.R_lower ho11 (below_size (by repeat (first | (with_reducible first | exact HB.out | apply below_alloc | apply pw_below_drewN | apply below_drew1) | exact HB.out)))); have n1_ := Aside0.mk (below_step (by repeat (first | (with_reducible first | exact HB.out | apply below_alloc | apply pw_below_drewN | apply below_drew1) | exact HB.out)) hb); clear HB; have HO157 := n0_; have HB := n1_; clear n0_ n1_; clear hb ho11; have hcv12 := own_string (P := Try.prog) Try.underlying60 Try.underlying5 Try.underlying9 (Kd.own_of_R HO157.out)) | ((with_reducible refine gate_callee (f := 39) rfl ?_); refine goesL_ (some 22) rfl rfl Try.func39 (by kernel_rfl) rfl #[.int .i64 (wrap64 (Int.tdiv a0 10))] rfl (by (try simp only [List.map_toArray, List.map_cons, List.map_nil]); first | done | rfl | (simp only [List.length_drop, List.length_take]; rfl)) ?_; (with_reducible refine (ih k (by omega) (wrap64 (Int.tdiv a0 10)) t158 _ A8.out).mono ?_); rintro e w13 ⟨rfl, hb⟩; refine ⟨_, rfl, ?_⟩; have n0_ := Aside0.mk (Kd.R_below (by (with_reducible repeat (first | apply Kd.R_alloc | apply Kd.R_drewN | apply Kd.R_drew)); exact HO157.out) hb); have n1_ := Aside0.mk (below_step (by repeat (first | (with_reducible first | exact HB.out | apply below_alloc | apply pw_below_drewN | apply below_drew1) | exact HB.out)) hb); clear HO157; clear HB; have HO157 := n0_; have HB := n1_; clear n0_ n1_; (try clear hb); (try clear hb2); (try clear hk); (try clear hi)))
        go_ret
        exact ⟨by first | rfl | (simp [errW_none, errW_some] <;> rfl) | (have e_ : ∀ l_ : List UInt8, (l_ != []) = !l_.isEmpty := fun l_ => (by cases l_ <;> rfl); simp [errW_none, errW_some, e_]; done) | (simp [*, errW_none, errW_some] <;> rfl), by repeat (first | (with_reducible first | exact HB.out | apply below_alloc | apply pw_below_drewN | apply below_drew1) | exact HB.out)⟩
      · rw [if_neg c9] at H
        exact absurd H (by simp)
  · rw [if_neg c2] at H
    have c2b0 : decide (a0 < 0) = false := decide_eq_false c2
    clear c2
    by_cases c14 : a0 < 10
    · rw [if_pos c14] at H
      have c14b0 : decide (a0 < 10) = true := decide_eq_true c14
      clear c14
      obtain ⟨y159, hy159⟩ : ∃ y_ : List Int, y_ = (([(wrap64 (48 + a0)) % 256] : List Int)) := ⟨_, rfl⟩
      replace H : (some (strOfNums y159)) = some r := by first | (rw [hy159]; with_reducible exact H) | (have H2_ := (Option.bind_some _ _).symm.trans H; rw [hy159]; with_reducible exact H2_) | (have H2_ := (Option.bind_some _ _).symm.trans H; with_reducible exact H2_) | with_reducible exact H | (rw [hy159]; exact H) | exact H
      have Ny159 := Aside0.mk hy159
      clear hy159
      obtain rfl := Option.some.inj H
      go_enter Try.func39, Try.ntmps39
      go_wp2_with (first | ((with_reducible refine gate_dst (N := 30) rfl ?_); refine Kd.R_lit (Kd.int .u8) _ 5 ?hg (N := 30) ?hd (xs := ([(wrap64 (48 + a0)) % 256] : List Int)) (inner := [.int .u8 ((wrap64 (48 + a0)) % 256)]) (ok := fun _ => True) (okp := fun _ => True) ?hr ?hp (fun _ hk => hk) trivial (Below.refl _ _) (Nat.le_refl _) (by simp) ?_; (case hd => rfl); (case hg => rfl); (case hr => first | (go_simp; done) | (go_simp; rfl)); (case hp => exact (Reps.one (show Kd.M (Kd.int .u8) _ _ _ ((wrap64 (48 + a0)) % 256) [.int .u8 ((wrap64 (48 + a0)) % 256)] from rfl) (Reps.none _ _))); intro v160 w15 ho16 hb hg_ hnew_; clear hg_ hnew_; (first | rw [← Ny159.out] at ho16 | (simp only [Int.reduceToNat] at ho16; rw [← Ny159.out] at ho16)); have n0_ := Aside0.mk (Kd.R_lower ho16 (below_size (by repeat (first | (with_reducible first | exact HB.out | apply below_alloc | apply pw_below_drewN | apply below_drew1) | exact HB.out)))); have n1_ := Aside0.mk (below_step (by repeat (first | (with_reducible first | exact HB.out | apply below_alloc | apply pw_below_drewN | apply below_drew1) | exact HB.out)) hb); clear HB; have HO161 := n0_; have HB := n1_; clear n0_ n1_; clear hb ho16; have hcv17 := own_string (P := Try.prog) Try.underlying60 Try.underlying5 Try.underlying9 (Kd.own_of_R HO161.out)))
      go_ret
      exact ⟨by first | rfl | (simp [errW_none, errW_some] <;> rfl) | (have e_ : ∀ l_ : List UInt8, (l_ != []) = !l_.isEmpty := fun l_ => (by cases l_ <;> rfl); simp [errW_none, errW_some, e_]; done) | (simp [*, errW_none, errW_some] <;> rfl), by repeat (first | (with_reducible first | exact HB.out | apply below_alloc | apply pw_below_drewN | apply below_drew1) | exact HB.out)⟩
    · rw [if_neg c14] at H
      have c14b0 : decide (a0 < 10) = false := decide_eq_false c14
      clear c14
      replace H := Option.bind_eq_some_iff.mp H
      obtain ⟨t162, A180, H⟩ := H
      replace H : ((some (([(wrap64 (48 + (Int.tmod a0 10))) % 256] : List Int) : List Int)).bind fun y163 => (if t162.size + (strOfNums y163).size ≤ 9223372036854775807 then (some (t162 ++ (strOfNums y163))) else (none))) = some r := H
      have A18 := Aside0.mk A180
      clear A180
      obtain ⟨y163, hy163⟩ : ∃ y_ : List Int, y_ = (([(wrap64 (48 + (Int.tmod a0 10))) % 256] : List Int)) := ⟨_, rfl⟩
      replace H : (if t162.size + (strOfNums y163).size ≤ 9223372036854775807 then (some (t162 ++ (strOfNums y163))) else (none)) = some r := by first | (rw [hy163]; with_reducible exact H) | (have H2_ := (Option.bind_some _ _).symm.trans H; rw [hy163]; with_reducible exact H2_) | (have H2_ := (Option.bind_some _ _).symm.trans H; with_reducible exact H2_) | with_reducible exact H | (rw [hy163]; exact H) | exact H
      have Ny163 := Aside0.mk hy163
      clear hy163
      by_cases c19 : t162.size + (strOfNums y163).size ≤ 9223372036854775807
      · rw [if_pos c19] at H
        have c19b0 := eq_true c19
        have c19b1 : decide (t162.size + (strOfNums y163).size ≤ 9223372036854775807) = true := decide_eq_true c19
        try have c19b2 : (9223372036854775807 < t162.size + (strOfNums y163).size) = False := eq_false (Nat.not_lt.2 c19)
        obtain rfl := Option.some.inj H
        go_enter Try.func39, Try.ntmps39
        try go_wp2
        have n0_ := Aside0.mk (below_drew1 HB.out)
        clear HB
        have HB := n0_
        clear n0_
        refine start_ (n := 11) (S := fun w' => True) (ds := []) #[false, false, false, false, false, false, false, false, false, false, false] (by kernel_rfl) rfl rfl trivial (fun hHeld => ?_); refine with_tabW spec_Decimal.tab9 spec_Decimal.bits9 (fun HT_ HW_ => ?_)
        generalize w.drew = w20 at HB hHeld ⊢
        refine pure_ (i := 0) (N := some 32) (v := ?_) (a' := ?_) #[true, false, false, false, false, false, false, false, false, false, false] rfl rfl (any_of HT_.out (by kernel_rfl)) (fun _ _ _ h => h) (Or.inl ⟨by rfl, ?_⟩) ?_ ?_
        rotate_left
        · intro w'
          go_simp
          with_reducible rfl
        rotate_left
        · simp only [Act.put, List.setIfInBounds_toArray, List.set_cons_zero, List.set_cons_succ, i64_w, i32_w]
          rfl
        refine pure_ (i := 1) (N := some 33) (v := ?_) (a' := ?_) #[true, true, false, false, false, false, false, false, false, false, false] rfl rfl (any_of HT_.out (by kernel_rfl)) (fun _ _ _ h => h) (Or.inl ⟨by rfl, ?_⟩) ?_ ?_
        rotate_left
        · intro w'
          go_simp
          with_reducible rfl
        rotate_left
        · simp only [Act.put, List.setIfInBounds_toArray, List.set_cons_zero, List.set_cons_succ, i64_w, i32_w]
          rfl
        refine pure_ (i := 3) (N := some 35) (v := ?_) (a' := ?_) #[true, true, false, true, false, false, false, false, false, false, false] rfl rfl (any_of HT_.out (by kernel_rfl)) (fun _ _ _ h => h) (Or.inl ⟨by rfl, ?_⟩) ?_ ?_
        rotate_left
        · intro w'
          go_simp
          with_reducible rfl
        rotate_left
        · simp only [Act.put, List.setIfInBounds_toArray, List.set_cons_zero, List.set_cons_succ, i64_w, i32_w]
          rfl
        refine pure_ (i := 4) (N := some 36) (v := ?_) (a' := ?_) #[true, true, false, true, true, false, false, false, false, false, false] rfl rfl (any_of HT_.out (by kernel_rfl)) (fun _ _ _ h => h) (Or.inl ⟨by rfl, ?_⟩) ?_ ?_
        rotate_left
        · intro w'
          go_simp
          with_reducible rfl
        rotate_left
        · simp only [Act.put, List.setIfInBounds_toArray, List.set_cons_zero, List.set_cons_succ, i64_w, i32_w]
          rfl
        refine pure_ (i := 5) (N := some 37) (v := ?_) (a' := ?_) #[true, true, false, true, true, true, false, false, false, false, false] rfl rfl (any_of HT_.out (by kernel_rfl)) (fun _ _ _ h => h) (Or.inl ⟨by rfl, ?_⟩) ?_ ?_
        rotate_left
        · intro w'
          go_simp
          with_reducible rfl
        rotate_left
        · simp only [Act.put, List.setIfInBounds_toArray, List.set_cons_zero, List.set_cons_succ, i64_w, i32_w]
          rfl
        refine pure_ (i := 6) (N := some 38) (v := ?_) (a' := ?_) #[true, true, false, true, true, true, true, false, false, false, false] rfl rfl (any_of HT_.out (by kernel_rfl)) (fun _ _ _ h => h) (Or.inl ⟨by rfl, ?_⟩) ?_ ?_
        rotate_left
        · intro w'
          go_simp
          with_reducible rfl
        rotate_left
        · simp only [Act.put, List.setIfInBounds_toArray, List.set_cons_zero, List.set_cons_succ, i64_w, i32_w]
          rfl
        refine join_ (σ := Value) 2 #[true, true, true, true, true, true, true, true, true, false, false] (fun s_ => [(34, .string t162), (39, s_), (40, .string (strOfNums y163))]) (fun s_ w' => (Kd.R (Kd.int .u8) 5 w' w.heap.size (fun _ => True) s_ y163) ∧ (Below w.heap.size w w')) ?_ ?_
        rotate_left
        · intro hCont
          refine two_ (i := 2) (j := 7) (Ni := some 34) (Nj := some 39) #[true, true, true, true, true, true, true, false, false, false, false] #[true, true, false, true, true, true, true, true, false, false, false] rfl rfl rfl rfl (two_of HT_.out (by kernel_rfl)) (by decide) (by decide) (fun K hK => ?_) (fun K hK => ?_)
          · skip
            refine goes_ Try.func39 (by kernel_rfl) rfl #[.int .i64 (wrap64 (Int.tdiv a0 10))] (by rfl) rfl rfl (by (try simp only [List.map_toArray, List.map_cons, List.map_nil]); first | done | rfl | (simp only [List.length_drop, List.length_take]; rfl)) ?_
            with_reducible refine (ih k (by omega) (wrap64 (Int.tdiv a0 10)) t162 _ A18.out).mono ?_
            rintro e w21 ⟨rfl, hb⟩
            refine ⟨_, rfl, ?_⟩
            have n0_ := Aside0.mk (below_step (by repeat (first | (with_reducible first | exact HB.out | apply below_alloc | apply pw_below_drewN | apply below_drew1) | exact HB.out)) hb)
            clear HB
            have HB := n0_
            clear n0_
            (try clear hb)
            (try clear hb2)
            (try clear hk)
            (try clear hi)
            refine hK.out _ _ trivial (fun hHeld => ?_)
            clear hK K
            refine norm_ (a' := ?_) ?_ ?_
            rotate_left
            · show Act.put _ (some 34) _ = _
              simp only [Act.put, List.setIfInBounds_toArray, List.set_cons_zero, List.set_cons_succ, i64_w, i32_w]
              rfl
            refine one_ (i := 7) (N := some 39) #[true, true, true, true, true, true, true, true, false, false, false] rfl rfl (one_of HT_.out (by kernel_rfl)) (by decide) (fun K hK => ?_)
            refine Kd.R_lit_step (Kd.int .u8) _ 5 ?hg (N := 39) ?hd (xs := ([(wrap64 (48 + (Int.tmod a0 10))) % 256] : List Int)) (inner := [.int .u8 ((wrap64 (48 + (Int.tmod a0 10))) % 256)]) (ok := fun _ => True) (okp := fun _ => True) ?hr ?hp (fun _ hk => hk) trivial (Below.refl _ _) (Nat.le_refl _) (by simp) ?_; (case hd => rfl); (case hg => rfl); (case hr => first | (go_simp; done) | (go_simp; rfl)); (case hp => exact (Reps.one (show Kd.M (Kd.int .u8) _ _ _ ((wrap64 (48 + (Int.tmod a0 10))) % 256) [.int .u8 ((wrap64 (48 + (Int.tmod a0 10))) % 256)] from rfl) (Reps.none _ _)))
            intro v164 w22 ho23 hb hg_ hnew_
            clear hg_ hnew_
            (first | rw [← Ny163.out] at ho23 | (simp only [Int.reduceToNat] at ho23; rw [← Ny163.out] at ho23))
            have n0_ := Aside0.mk (Kd.R_lower ho23 (below_size (by repeat (first | (with_reducible first | exact HB.out | apply below_alloc | apply pw_below_drewN | apply below_drew1) | exact HB.out))))
            have n1_ := Aside0.mk (below_step (by repeat (first | (with_reducible first | exact HB.out | apply below_alloc | apply pw_below_drewN | apply below_drew1) | exact HB.out)) hb)
            clear HB
            have HO165 := n0_
            have HB := n1_
            clear n0_ n1_
            clear hb ho23
            refine hK.out _ _ trivial (fun hHeld => ?_)
            clear hK K
            refine norm_ (a' := ?_) ?_ ?_
            rotate_left
            · show Act.put _ (some 39) _ = _
              simp only [Act.put, List.setIfInBounds_toArray, List.set_cons_zero, List.set_cons_succ, i64_w, i32_w]
              rfl
            refine one_ (i := 8) (N := some 40) #[true, true, true, true, true, true, true, true, true, false, false] rfl rfl (one_of HT_.out (by kernel_rfl)) (by decide) (fun K hK => ?_)
            have hcv24 := own_string (P := Try.prog) Try.underlying60 Try.underlying5 Try.underlying9 (Kd.own_of_R HO165.out)
            refine value_ (w1 := ?_) (v := ?_) (by rfl) rfl ?_ ?_
            rotate_left 2
            · go_simp
              constructor
              · rfl
              · rfl
            clear hcv24
            refine hK.out _ _ trivial (fun hHeld => ?_)
            clear hK K
            refine norm_ (a' := ?_) ?_ ?_
            rotate_left
            · show Act.put _ (some 40) _ = _
              simp only [Act.put, List.setIfInBounds_toArray, List.set_cons_zero, List.set_cons_succ, i64_w, i32_w]
              rfl
            exact norm_ (by simp only [putAll, Act.put, List.setIfInBounds_toArray, List.set_cons_zero, List.set_cons_succ]) (hCont (v164) _ ⟨(by (with_reducible repeat (first | apply Kd.R_alloc | apply Kd.R_drewN | apply Kd.R_drew)); exact HO165.out), (by repeat (first | (with_reducible first | exact HB.out | apply below_alloc | apply pw_below_drewN | apply below_drew1) | exact HB.out))⟩)
          · skip
            refine Kd.R_lit_step (Kd.int .u8) _ 5 ?hg (N := 39) ?hd (xs := ([(wrap64 (48 + (Int.tmod a0 10))) % 256] : List Int)) (inner := [.int .u8 ((wrap64 (48 + (Int.tmod a0 10))) % 256)]) (ok := fun _ => True) (okp := fun _ => True) ?hr ?hp (fun _ hk => hk) trivial (Below.refl _ _) (Nat.le_refl _) (by simp) ?_; (case hd => rfl); (case hg => rfl); (case hr => first | (go_simp; done) | (go_simp; rfl)); (case hp => exact (Reps.one (show Kd.M (Kd.int .u8) _ _ _ ((wrap64 (48 + (Int.tmod a0 10))) % 256) [.int .u8 ((wrap64 (48 + (Int.tmod a0 10))) % 256)] from rfl) (Reps.none _ _)))
            intro v164 w21 ho22 hb hg_ hnew_
            clear hg_ hnew_
            (first | rw [← Ny163.out] at ho22 | (simp only [Int.reduceToNat] at ho22; rw [← Ny163.out] at ho22))
            have n0_ := Aside0.mk (Kd.R_lower ho22 (below_size (by repeat (first | (with_reducible first | exact HB.out | apply below_alloc | apply pw_below_drewN | apply below_drew1) | exact HB.out))))
            have n1_ := Aside0.mk (below_step (by repeat (first | (with_reducible first | exact HB.out | apply below_alloc | apply pw_below_drewN | apply below_drew1) | exact HB.out)) hb)
            clear HB
            have HO165 := n0_
            have HB := n1_
            clear n0_ n1_
            clear hb ho22
            refine hK.out _ _ trivial (fun hHeld => ?_)
            clear hK K
            refine norm_ (a' := ?_) ?_ ?_
            rotate_left
            · show Act.put _ (some 39) _ = _
              simp only [Act.put, List.setIfInBounds_toArray, List.set_cons_zero, List.set_cons_succ, i64_w, i32_w]
              rfl
            refine two_ (i := 2) (j := 8) (Ni := some 34) (Nj := some 40) #[true, true, true, true, true, true, true, true, false, false, false] #[true, true, false, true, true, true, true, true, true, false, false] rfl rfl rfl rfl (two_of HT_.out (by kernel_rfl)) (by decide) (by decide) (fun K hK => ?_) (fun K hK => ?_)
            · skip
              refine goes_ Try.func39 (by kernel_rfl) rfl #[.int .i64 (wrap64 (Int.tdiv a0 10))] (by rfl) rfl rfl (by (try simp only [List.map_toArray, List.map_cons, List.map_nil]); first | done | rfl | (simp only [List.length_drop, List.length_take]; rfl)) ?_
              with_reducible refine (ih k (by omega) (wrap64 (Int.tdiv a0 10)) t162 _ A18.out).mono ?_
              rintro e w23 ⟨rfl, hb⟩
              refine ⟨_, rfl, ?_⟩
              have n0_ := Aside0.mk (Kd.R_below (by (with_reducible repeat (first | apply Kd.R_alloc | apply Kd.R_drewN | apply Kd.R_drew)); exact HO165.out) hb)
              have n1_ := Aside0.mk (below_step (by repeat (first | (with_reducible first | exact HB.out | apply below_alloc | apply pw_below_drewN | apply below_drew1) | exact HB.out)) hb)
              clear HO165
              clear HB
              have HO165 := n0_
              have HB := n1_
              clear n0_ n1_
              (try clear hb)
              (try clear hb2)
              (try clear hk)
              (try clear hi)
              refine hK.out _ _ trivial (fun hHeld => ?_)
              clear hK K
              refine norm_ (a' := ?_) ?_ ?_
              rotate_left
              · show Act.put _ (some 34) _ = _
                simp only [Act.put, List.setIfInBounds_toArray, List.set_cons_zero, List.set_cons_succ, i64_w, i32_w]
                rfl
              refine one_ (i := 8) (N := some 40) #[true, true, true, true, true, true, true, true, true, false, false] rfl rfl (one_of HT_.out (by kernel_rfl)) (by decide) (fun K hK => ?_)
              have hcv24 := own_string (P := Try.prog) Try.underlying60 Try.underlying5 Try.underlying9 (Kd.own_of_R HO165.out)
              refine value_ (w1 := ?_) (v := ?_) (by rfl) rfl ?_ ?_
              rotate_left 2
              · go_simp
                constructor
                · rfl
                · rfl
              clear hcv24
              refine hK.out _ _ trivial (fun hHeld => ?_)
              clear hK K
              refine norm_ (a' := ?_) ?_ ?_
              rotate_left
              · show Act.put _ (some 40) _ = _
                simp only [Act.put, List.setIfInBounds_toArray, List.set_cons_zero, List.set_cons_succ, i64_w, i32_w]
                rfl
              exact norm_ (by simp only [putAll, Act.put, List.setIfInBounds_toArray, List.set_cons_zero, List.set_cons_succ]) (hCont (v164) _ ⟨(by (with_reducible repeat (first | apply Kd.R_alloc | apply Kd.R_drewN | apply Kd.R_drew)); exact HO165.out), (by repeat (first | (with_reducible first | exact HB.out | apply below_alloc | apply pw_below_drewN | apply below_drew1) | exact HB.out))⟩)
            · skip
              have hcv23 := own_string (P := Try.prog) Try.underlying60 Try.underlying5 Try.underlying9 (Kd.own_of_R HO165.out)
              refine value_ (w1 := ?_) (v := ?_) (by rfl) rfl ?_ ?_
              rotate_left 2
              · go_simp
                constructor
                · rfl
                · rfl
              clear hcv23
              refine hK.out _ _ trivial (fun hHeld => ?_)
              clear hK K
              refine norm_ (a' := ?_) ?_ ?_
              rotate_left
              · show Act.put _ (some 40) _ = _
                simp only [Act.put, List.setIfInBounds_toArray, List.set_cons_zero, List.set_cons_succ, i64_w, i32_w]
                rfl
              refine one_ (i := 2) (N := some 34) #[true, true, true, true, true, true, true, true, true, false, false] rfl rfl (one_of HT_.out (by kernel_rfl)) (by decide) (fun K hK => ?_)
              refine goes_ Try.func39 (by kernel_rfl) rfl #[.int .i64 (wrap64 (Int.tdiv a0 10))] (by rfl) rfl rfl (by (try simp only [List.map_toArray, List.map_cons, List.map_nil]); first | done | rfl | (simp only [List.length_drop, List.length_take]; rfl)) ?_
              with_reducible refine (ih k (by omega) (wrap64 (Int.tdiv a0 10)) t162 _ A18.out).mono ?_
              rintro e w24 ⟨rfl, hb⟩
              refine ⟨_, rfl, ?_⟩
              have n0_ := Aside0.mk (Kd.R_below (by (with_reducible repeat (first | apply Kd.R_alloc | apply Kd.R_drewN | apply Kd.R_drew)); exact HO165.out) hb)
              have n1_ := Aside0.mk (below_step (by repeat (first | (with_reducible first | exact HB.out | apply below_alloc | apply pw_below_drewN | apply below_drew1) | exact HB.out)) hb)
              clear HO165
              clear HB
              have HO165 := n0_
              have HB := n1_
              clear n0_ n1_
              (try clear hb)
              (try clear hb2)
              (try clear hk)
              (try clear hi)
              refine hK.out _ _ trivial (fun hHeld => ?_)
              clear hK K
              refine norm_ (a' := ?_) ?_ ?_
              rotate_left
              · show Act.put _ (some 34) _ = _
                simp only [Act.put, List.setIfInBounds_toArray, List.set_cons_zero, List.set_cons_succ, i64_w, i32_w]
                rfl
              exact norm_ (by simp only [putAll, Act.put, List.setIfInBounds_toArray, List.set_cons_zero, List.set_cons_succ]) (hCont (v164) _ ⟨(by (with_reducible repeat (first | apply Kd.R_alloc | apply Kd.R_drewN | apply Kd.R_drew)); exact HO165.out), (by repeat (first | (with_reducible first | exact HB.out | apply below_alloc | apply pw_below_drewN | apply below_drew1) | exact HB.out))⟩)
        rintro v164 w25 ⟨h0_, h1_⟩
        have n0_ : Aside0 (Kd.R (Kd.int .u8) 5 w25 w.heap.size (fun _ => True) v164 y163) := ⟨h0_⟩
        have n1_ : Aside0 (Below w.heap.size w w25) := ⟨h1_⟩
        clear HB
        clear h0_ h1_
        have HO165 := n0_
        have HB := n1_
        clear n0_ n1_
        have hHeld := trivial
        refine norm_ (a' := ?_) ?_ ?_
        rotate_left
        · simp only [putAll, Act.put, List.setIfInBounds_toArray, List.set_cons_zero, List.set_cons_succ]
          rfl
        refine pure_ (i := 9) (N := some 41) (v := ?_) (a' := ?_) #[true, true, true, true, true, true, true, true, true, true, false] rfl rfl (any_of HT_.out (by kernel_rfl)) (fun _ _ _ h => h) (Or.inl ⟨by rfl, ?_⟩) ?_ ?_
        rotate_left
        · intro w'
          go_simp
          with_reducible rfl
        rotate_left
        · simp only [Act.put, List.setIfInBounds_toArray, List.set_cons_zero, List.set_cons_succ, i64_w, i32_w]
          rfl
        refine pure_ (i := 10) (N := some 2) (v := ?_) (a' := ?_) #[true, true, true, true, true, true, true, true, true, true, true] rfl rfl (any_of HT_.out (by kernel_rfl)) (fun _ _ _ h => h) (Or.inl ⟨by rfl, ?_⟩) ?_ ?_
        rotate_left
        · intro w'
          go_simp
          with_reducible rfl
        rotate_left
        · simp only [Act.put, List.setIfInBounds_toArray, List.set_cons_zero, List.set_cons_succ, i64_w, i32_w]
          rfl
        refine done_ (done_of HT_.out (by kernel_rfl)) ?_
        try go_wp2
        go_ret
        exact ⟨by first | rfl | (simp [errW_none, errW_some] <;> rfl) | (have e_ : ∀ l_ : List UInt8, (l_ != []) = !l_.isEmpty := fun l_ => (by cases l_ <;> rfl); simp [errW_none, errW_some, e_]; done) | (simp [*, errW_none, errW_some] <;> rfl), by repeat (first | (with_reducible first | exact HB.out | apply below_alloc | apply pw_below_drewN | apply below_drew1) | exact HB.out)⟩
      · rw [if_neg c19] at H
        exact absurd H (by simp)

end Go.Proofs.Yteenhipldfdkaaa.P
