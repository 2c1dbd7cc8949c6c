import Derived.Test.YtmljkiohekogbaaGreatDoorMg
import Derived.Lib.ConvBytes
import Derived.IntWalk
namespace Go.Proofs.YtmljkiohekogbaaGreatDoor
open Go.RowKit
set_option linter.unusedVariables false
set_option linter.unusedSimpArgs false
set_option maxHeartbeats 4000000
set_option maxRecDepth 100000
attribute [local go_sem] S_extract S_append run_cut_S run_head_S run_tail_S Nat.add_sub_cancel_left

/-! ### numbers read -/
def isDig (b : UInt8) : Bool := decide (48 ≤ b.toNat ∧ b.toNat ≤ 57)
/-- a number, and what is wrong with it: 0 nothing, 1 the text, 2 the range -/
def puF : List UInt8 → Nat → Nat × Nat
  | [], n => (n, 0)
  | b :: t, n => if isDig b then (if (18446744073709551615 - (b.toNat - 48)) / 10 < n then (18446744073709551615, 2) else puF t (n * 10 + (b.toNat - 48))) else (0, 1)
def parseUF (l : List UInt8) : Nat × Nat := if l = [] then (0, 1) else puF l 0
def parseIF (l : List UInt8) : Int × Nat := match l with
  | [] => (0, 1)
  | b :: t =>
    let r := parseUF (if b = 45 ∨ b = 43 then t else b :: t)
    if r.2 = 1 then (0, 1)
    else if b ≠ 45 ∧ 9223372036854775808 ≤ r.1 then (9223372036854775807, 2)
    else if b = 45 ∧ 9223372036854775808 < r.1 then (-9223372036854775808, 2)
    else if b = 45 then (-(r.1 : Int), 0) else ((r.1 : Int), 0)
def atoiF (l : List UInt8) : Option Int := if (parseIF l).2 = 0 then some (parseIF l).1 else none
/-- an error's value -/
def errV (k : Nat) : Value := if k = 0 then .nilIface else if k = 1 then .iface 129 (.string ⟨#[105, 110, 118, 97, 108, 105, 100, 32, 115, 121, 110, 116, 97, 120]⟩) else .iface 129 (.string ⟨#[118, 97, 108, 117, 101, 32, 111, 117, 116, 32, 111, 102, 32, 114, 97, 110, 103, 101]⟩)
theorem puF_bound : ∀ (l : List UInt8) (n : Nat), n < 18446744073709551616 → (puF l n).1 < 18446744073709551616
  | [], n, h => h
  | b :: t, n, h => by
    unfold puF
    split
    · split
      · omega
      · rename_i h1 h2
        have := of_decide_eq_true h1
        exact puF_bound t _ (by omega)
    · omega
theorem puF_code : ∀ (l : List UInt8) (n : Nat), (puF l n).2 = 0 ∨ (puF l n).2 = 1 ∨ (puF l n).2 = 2
  | [], n => .inl rfl
  | b :: t, n => by
    unfold puF
    split
    · split
      · exact .inr (.inr rfl)
      · exact puF_code t _
    · exact .inr (.inl rfl)
theorem low_bound : ∀ n : Nat, n < 256 → 0 ≤ bits BinOp.or IntKind.u8 (n : Int) 32 ∧ bits BinOp.or IntKind.u8 (n : Int) 32 ≤ 255 := by decide
theorem lower_ex (c : UInt8) : ∃ x : Int, 0 ≤ x ∧ x ≤ 255 ∧ ∀ w : World, Calls Tryz.prog 105 #[.int .u8 (c.toNat : Int)] w fun e w' => e = .returned (.int .u8 x) ∧ w = w' := by
  refine ⟨bits BinOp.or IntKind.u8 (c.toNat : Int) 32, (low_bound _ c.toNat_lt).1, (low_bound _ c.toNat_lt).2, fun w => ?_⟩
  go_enter Tryz.func105, Tryz.ntmps105
  go_wp2_with fail
  go_ret
  exact ⟨rfl, rfl⟩
theorem parseUint_calls (l : List UInt8) (w : World) (hl : l.length ≤ 1000000000) :
    Calls Tryz.prog 93 #[.string ⟨l.toArray⟩, .int .i64 10, .int .i64 0] w fun e w' => e = .returned (.tuple #[.int .u64 (parseUF l).1, errV (parseUF l).2]) ∧ Below w.heap.size w w' := by
  rcases l with _ | ⟨b0, t0⟩
  · go_enter Tryz.func93, Tryz.ntmps93
    go_wp2_with fail
    go_ret2
    exact ⟨rfl, Below.refl _ _⟩
  · obtain ⟨l, hL⟩ : ∃ l, l = b0 :: t0 := ⟨_, rfl⟩
    have hne : l.isEmpty = false := by rw [hL]; rfl
    have hne2 : (l == []) = false := by rw [hL]; rfl
    have HP := hid (show parseUF l = puF l 0 by unfold parseUF; rw [hL]; simp)
    rw [← hL] at hl ⊢
    clear hL
    have hcv := Lib.run_convert_string_bytes (P := Tryz.prog) w 9 49 5 ⟨l.toArray⟩ Tryz.underlying9 Tryz.underlying49 Tryz.underlying5
    have hcs : ∀ (j : Nat) (b : UInt8), l[j]? = some b → (Lib.bytesWorld w 5 ⟨l.toArray⟩).cell? ⟨w.heap.size, j, none⟩ = some (.int .u8 (b.toNat : Int)) := fun j b hj => by
      obtain ⟨h1, h2⟩ := List.getElem?_eq_some_iff.1 hj
      rw [Lib.bytesWorld_cell w _ _ j (by rw [S_size]; exact h1)]
      simp [h1, h2]
    have hbW : Below w.heap.size w (Lib.bytesWorld w 5 ⟨l.toArray⟩) := ⟨rfl, rfl, rfl, by rw [Lib.bytesWorld_size]; omega, fun j hj => Lib.bytesWorld_at_old w _ _ j hj⟩
    generalize Lib.bytesWorld w 5 ⟨l.toArray⟩ = W at *
    obtain ⟨M, hM⟩ : ∃ M : Int, M = 18446744073709551615 := ⟨_, rfl⟩
    have hmx : IntKind.u64.wrap (IntKind.u64.wrap 18446744073709551616 - 1) = M := by rw [hM]; decide
    have HM := hid hM
    clear hM
    have HC := hid hcs
    have HB := hid hbW
    clear hcs hbW
    go_enter Tryz.func93, Tryz.ntmps93
    go_wp2_with fail
    go_loop [88, 11, 12] (fun u n z => ∃ (k m : Nat), k ≤ l.length ∧ u = .int .i64 k ∧ n = .int .u64 m ∧ z = .bool false ∧ m < 18446744073709551616 ∧ Hid (puF (l.drop k) m = puF l 0)) (fun u _ _ => l.length - (intOf u).toNat)
    case atStart => exact ⟨0, 0, Nat.zero_le _, rfl, rfl, rfl, by omega, hid rfl⟩
    case round =>
      obtain ⟨k, m, hk, rfl, rfl, rfl, hm, hT⟩ := hrel
      by_cases hlt : k < l.length
      · obtain ⟨b, hb⟩ : ∃ b, l[k]? = some b := ⟨_, List.getElem?_eq_getElem hlt⟩
        have hc : W.cell? ⟨w.heap.size, k, none⟩ = some (.int .u8 (b.toNat : Int)) := HC.out k b hb
        have hdr : l.drop k = b :: l.drop (k + 1) := by
          obtain ⟨h1, h2⟩ := List.getElem?_eq_some_iff.1 hb
          rw [List.drop_eq_getElem_cons h1, h2]
        have HT2 := hid (show puF (b :: l.drop (k + 1)) m = puF l 0 by rw [← hdr]; exact hT.out)
        clear hdr hb hT
        have hlt' : (k : Int) < (l.length : Int) := by omega
        by_cases hd : isDig b = true
        · have hdb := of_decide_eq_true hd
          have h95 : ((b.toNat : Int) == 95) = false := by rw [beq_eq_false_iff_ne]; omega
          have e1 : (48 : Int) ≤ (b.toNat : Int) := by omega
          have e2 : (b.toNat : Int) ≤ 57 := by omega
          obtain ⟨q, hq⟩ : ∃ q : Nat, q = (18446744073709551615 - (b.toNat - 48)) / 10 := ⟨_, rfl⟩
          have hm1 : IntKind.u64.wrap (M - ((b.toNat : Int) - 48)) = M - ((b.toNat : Int) - 48) := IntWalk.u64_in _ (by rw [HM.out]; omega)
          have hm2 : IntKind.u64.wrap ((M - ((b.toNat : Int) - 48)).tdiv 10) = (q : Int) := by
            have : (M - ((b.toNat : Int) - 48)) = ((18446744073709551615 - (b.toNat - 48) : Nat) : Int) := by rw [HM.out]; omega
            rw [this, show (10 : Int) = ((10 : Nat) : Int) from rfl, ← Int.ofNat_tdiv, ← hq]
            exact IntWalk.u64_in _ (by omega)
          have e3 : (b.toNat : Int) - 48 < 10 := by omega
          have e4 : (b.toNat : Int) - 48 ≤ M := by rw [HM.out]; omega
          have HQ := hid hq
          clear hq
          by_cases hov : q < m
          · have e5 : (q : Int) < (m : Int) := by omega
            have HF := hid (show puF l 0 = (18446744073709551615, 2) by
              rw [← HT2.out]
              unfold puF
              rw [if_pos hd, if_pos (by rw [← HQ.out]; exact hov)])
            clear HT2 hd hdb hov
            go_wp2_with fail
            go_ret2
            exact ⟨by rw [HP.out, HF.out, HM.out]; rfl, HB.out⟩
          · have e5 : ¬ (q : Int) < (m : Int) := by omega
            have hb1 : m * 10 + (b.toNat - 48) < 18446744073709551616 := by rw [HQ.out] at hov; omega
            have hm3 : IntKind.u64.wrap ((m : Int) * 10) = (m : Int) * 10 := IntWalk.u64_in _ (by omega)
            have hm4 : IntKind.u64.wrap ((m : Int) * 10 + ((b.toNat : Int) - 48)) = (m : Int) * 10 + ((b.toNat : Int) - 48) := IntWalk.u64_in _ (by omega)
            have HT3 := hid (show puF (l.drop (k + 1)) (m * 10 + (b.toNat - 48)) = puF l 0 by
              rw [← HT2.out]
              conv => rhs; unfold puF
              rw [if_pos hd, if_neg (by rw [← HQ.out]; exact hov)])
            clear HT2 hd hov
            go_wp2_with fail
            go_round
            case rel => exact ⟨k + 1, m * 10 + (b.toNat - 48), by omega, by go_num, by congr 1; omega, rfl, hb1, HT3⟩
            case measure => simp [intOf]; omega
        · have HF := hid (show puF l 0 = (0, 1) by
            rw [← HT2.out]
            unfold puF
            rw [if_neg hd])
          have hnd : ¬ (48 ≤ b.toNat ∧ b.toNat ≤ 57) := fun h => hd (decide_eq_true h)
          obtain ⟨x, hx0, hx1, hlow⟩ := lower_ex b
          have KL := hid hlow
          clear HT2 hd hlow
          by_cases hx97 : 97 ≤ x
          all_goals
            by_cases hx122 : x ≤ 122
          all_goals
            cases h95 : ((b.toNat : Int) == 95)
          all_goals
            by_cases e1 : (48 : Int) ≤ (b.toNat : Int)
          all_goals
            have e2 : (48 : Int) ≤ (b.toNat : Int) → ¬ (b.toNat : Int) ≤ 57 := fun h => by omega
            try have e3 := e2 e1
            clear e2
            go_wp2_with (go_at_call 105; (with_reducible refine (KL.out _).mono ?_); rintro e w' ⟨rfl, rfl⟩)
            all_goals go_ret2
            all_goals exact ⟨by rw [HP.out, HF.out]; rfl, HB.out⟩
      · have hlt' : ¬ (k : Int) < (l.length : Int) := by omega
        have HF := hid (show puF l 0 = (m, 0) by
          rw [← hT.out, List.drop_eq_nil_of_le (by omega)]
          rfl)
        clear hT
        go_wp2_with fail
        go_ret2
        exact ⟨by rw [HP.out, HF.out]; rfl, HB.out⟩
theorem parseUF_bound (l : List UInt8) : (parseUF l).1 < 18446744073709551616 := by
  unfold parseUF
  split
  · omega
  · exact puF_bound l 0 (by omega)
theorem parseUF_code (l : List UInt8) : (parseUF l).2 = 0 ∨ (parseUF l).2 = 1 ∨ (parseUF l).2 = 2 := by
  unfold parseUF
  split
  · exact .inr (.inl rfl)
  · exact puF_code l 0
theorem parseIF_bound (l : List UInt8) : -9223372036854775808 ≤ (parseIF l).1 ∧ (parseIF l).1 ≤ 9223372036854775807 ∧ ((parseIF l).2 = 0 ∨ (parseIF l).2 = 1 ∨ (parseIF l).2 = 2) := by
  rcases l with _ | ⟨b, t⟩
  · simp [parseIF]
  · unfold parseIF
    simp only
    generalize parseUF (if b = 45 ∨ b = 43 then t else b :: t) = r
    by_cases h1 : r.2 = 1
    · rw [if_pos h1]; simp
    rw [if_neg h1]
    by_cases h2 : b ≠ 45 ∧ 9223372036854775808 ≤ r.1
    · rw [if_pos h2]; simp
    rw [if_neg h2]
    by_cases h3 : b = 45 ∧ 9223372036854775808 < r.1
    · rw [if_pos h3]; simp
    rw [if_neg h3]
    by_cases h4 : b = 45
    · rw [if_pos h4]
      have : ¬ 9223372036854775808 < r.1 := fun h => h3 ⟨h4, h⟩
      exact ⟨by simp only; omega, by simp only; omega, .inl rfl⟩
    · rw [if_neg h4]
      have : ¬ 9223372036854775808 ≤ r.1 := fun h => h2 ⟨h4, h⟩
      exact ⟨by simp only; omega, by simp only; omega, .inl rfl⟩
theorem ret_ie {a b : Int} {v u : Value} (h : a = b) (h2 : v = u) : Ending.returned (.tuple #[.int .i64 a, v]) = .returned (.tuple #[.int .i64 b, u]) := by rw [h, h2]
theorem S_zero (b : UInt8) (t : List UInt8) (h : 0 < (⟨(b :: t).toArray⟩ : ByteArray).size) : (⟨(b :: t).toArray⟩ : ByteArray)[0]'h = b := rfl
attribute [local go_sem] S_zero
theorem ne_syn (w : World) : (binOp BinOp.neq 71 (.iface 129 (.string ⟨#[105, 110, 118, 97, 108, 105, 100, 32, 115, 121, 110, 116, 97, 120]⟩)) (.iface 129 (.string ⟨#[118, 97, 108, 117, 101, 32, 111, 117, 116, 32, 111, 102, 32, 114, 97, 110, 103, 101]⟩))).run Tryz.prog w = .ok (.bool true) w := by kernel_rfl
theorem ne_rng (w : World) : (binOp BinOp.neq 71 (.iface 129 (.string ⟨#[118, 97, 108, 117, 101, 32, 111, 117, 116, 32, 111, 102, 32, 114, 97, 110, 103, 101]⟩)) (.iface 129 (.string ⟨#[118, 97, 108, 117, 101, 32, 111, 117, 116, 32, 111, 102, 32, 114, 97, 110, 103, 101]⟩))).run Tryz.prog w = .ok (.bool false) w := by kernel_rfl
theorem parseInt_calls (l : List UInt8) (w : World) (hl : l.length ≤ 1000000000) :
    Calls Tryz.prog 73 #[.string ⟨l.toArray⟩, .int .i64 10, .int .i64 0] w fun e w' => e = .returned (.tuple #[.int .i64 (parseIF l).1, errV (parseIF l).2]) ∧ Below w.heap.size w w' := by
  have hn1 := ne_syn
  have hn2 := ne_rng
  rcases l with _ | ⟨b, t⟩
  · go_enter Tryz.func73, Tryz.ntmps73
    go_wp2_with fail
    go_ret2
    exact ⟨rfl, Below.refl _ _⟩
  · obtain ⟨u, cd, hu⟩ : ∃ u cd, parseUF (if b = 45 ∨ b = 43 then t else b :: t) = (u, cd) := ⟨_, _, rfl⟩
    have hub := parseUF_bound (if b = 45 ∨ b = 43 then t else b :: t)
    have hcd := parseUF_code (if b = 45 ∨ b = 43 then t else b :: t)
    rw [hu] at hub hcd
    simp only at hub hcd
    have HP := hid (show parseIF (b :: t) = if cd = 1 then (0, 1) else if b ≠ 45 ∧ 9223372036854775808 ≤ u then (9223372036854775807, 2) else if b = 45 ∧ 9223372036854775808 < u then (-9223372036854775808, 2) else if b = 45 then (-(u : Int), 0) else ((u : Int), 0) by
      unfold parseIF
      simp only
      rw [hu])
    have KU := hid (fun w' => parseUint_calls (if b = 45 ∨ b = 43 then t else b :: t) w' (by split <;> simp only [List.length_cons] at hl ⊢ <;> omega))
    rw [hu] at KU
    simp only at KU
    clear hu
    obtain ⟨U, hU⟩ : ∃ U : Int, U = (u : Int) := ⟨_, rfl⟩
    rw [← hU] at KU
    have hU0 : 0 ≤ U := by omega
    have hU1 : U ≤ 18446744073709551615 := by omega
    have HU := hid hU
    have hub := hid hub
    clear hU
    by_cases h45 : b = 45
    · subst h45
      simp only [true_or, if_true] at KU
      rcases hcd with rfl | rfl | rfl
      · by_cases h63 : 9223372036854775808 < u
        · have k63 : 9223372036854775808 < U := by rw [HU.out]; omega
          have HP2 := hid (show parseIF (45 :: t) = (-9223372036854775808, 2) by rw [HP.out, if_neg (by decide), if_neg (fun h => h.1 rfl), if_pos ⟨rfl, h63⟩])
          clear HP h63
          go_enter Tryz.func73, Tryz.ntmps73
          go_wp2_with (go_at_call 93; (with_reducible refine (KU.out _).mono ?_); rintro e w1 ⟨rfl, hb1⟩; simp only [errV])
          all_goals go_ret2
          all_goals exact ⟨by rw [HP2.out]; exact ret_ie (by have := HU.out; first | rfl | exact this | (unfold wrap64; omega) | (rw [IntKind.wrap_u64]; unfold wrap64; omega)) rfl, hb1⟩
        · have k63 : ¬ 9223372036854775808 < U := by rw [HU.out]; omega
          have HP2 := hid (show parseIF (45 :: t) = (-(u : Int), 0) by rw [HP.out, if_neg (by decide), if_neg (fun h => h.1 rfl), if_neg (fun h => h63 h.2), if_pos rfl])
          clear HP h63
          go_enter Tryz.func73, Tryz.ntmps73
          go_wp2_with (go_at_call 93; (with_reducible refine (KU.out _).mono ?_); rintro e w1 ⟨rfl, hb1⟩; simp only [errV])
          all_goals go_ret2
          all_goals exact ⟨by rw [HP2.out]; exact ret_ie (by have := HU.out; first | rfl | exact this | (unfold wrap64; omega) | (rw [IntKind.wrap_u64]; unfold wrap64; omega)) rfl, hb1⟩
      · have HP2 := hid (show parseIF (45 :: t) = (0, 1) by rw [HP.out]; simp)
        clear HP
        go_enter Tryz.func73, Tryz.ntmps73
        go_wp2_with (go_at_call 93; (with_reducible refine (KU.out _).mono ?_); rintro e w1 ⟨rfl, hb1⟩; simp only [errV])
        all_goals go_ret2
        all_goals exact ⟨by rw [HP2.out]; exact ret_ie (by have := HU.out; first | rfl | exact this | (unfold wrap64; omega) | (rw [IntKind.wrap_u64]; unfold wrap64; omega)) rfl, hb1⟩
      · by_cases h63 : 9223372036854775808 < u
        · have k63 : 9223372036854775808 < U := by rw [HU.out]; omega
          have HP2 := hid (show parseIF (45 :: t) = (-9223372036854775808, 2) by rw [HP.out, if_neg (by decide), if_neg (fun h => h.1 rfl), if_pos ⟨rfl, h63⟩])
          clear HP h63
          go_enter Tryz.func73, Tryz.ntmps73
          go_wp2_with (go_at_call 93; (with_reducible refine (KU.out _).mono ?_); rintro e w1 ⟨rfl, hb1⟩; simp only [errV])
          all_goals go_ret2
          all_goals exact ⟨by rw [HP2.out]; exact ret_ie (by have := HU.out; first | rfl | exact this | (unfold wrap64; omega) | (rw [IntKind.wrap_u64]; unfold wrap64; omega)) rfl, hb1⟩
        · have k63 : ¬ 9223372036854775808 < U := by rw [HU.out]; omega
          have HP2 := hid (show parseIF (45 :: t) = (-(u : Int), 0) by rw [HP.out, if_neg (by decide), if_neg (fun h => h.1 rfl), if_neg (fun h => h63 h.2), if_pos rfl])
          clear HP h63
          go_enter Tryz.func73, Tryz.ntmps73
          go_wp2_with (go_at_call 93; (with_reducible refine (KU.out _).mono ?_); rintro e w1 ⟨rfl, hb1⟩; simp only [errV])
          all_goals go_ret2
          all_goals exact ⟨by rw [HP2.out]; exact ret_ie (by have := HU.out; first | rfl | exact this | (unfold wrap64; omega) | (rw [IntKind.wrap_u64]; unfold wrap64; omega)) rfl, hb1⟩
    · have h45b : ¬ (b.toNat : Int) = 45 := fun h => h45 (UInt8.toNat_inj.1 (by show b.toNat = 45; omega))
      have h45c : ((b.toNat : Int) == 45) = false := by rw [beq_eq_false_iff_ne]; exact h45b
      have HP3 := hid (show parseIF (b :: t) = if cd = 1 then (0, 1) else if 9223372036854775808 ≤ u then (9223372036854775807, 2) else ((u : Int), 0) by
        rw [HP.out]
        simp [h45])
      clear HP
      by_cases h43 : b = 43
      · subst h43
        simp only [or_true, if_true] at KU
        clear h45 h45b h45c
        rcases hcd with rfl | rfl | rfl
        · by_cases h63 : 9223372036854775807 < u
          · have k63 : 9223372036854775808 ≤ U := by rw [HU.out]; omega
            have HP2 := hid (show parseIF (43 :: t) = (9223372036854775807, 2) by rw [HP3.out, if_neg (by decide), if_pos (by omega)])
            clear HP3 h63
            go_enter Tryz.func73, Tryz.ntmps73
            go_wp2_with (go_at_call 93; (with_reducible refine (KU.out _).mono ?_); rintro e w1 ⟨rfl, hb1⟩; simp only [errV])
            all_goals go_ret2
            all_goals exact ⟨by rw [HP2.out]; exact ret_ie (by have := HU.out; first | rfl | exact this | (unfold wrap64; omega) | (rw [IntKind.wrap_u64]; unfold wrap64; omega)) rfl, hb1⟩
          · have k63 : ¬ 9223372036854775808 ≤ U := by rw [HU.out]; omega
            have HP2 := hid (show parseIF (43 :: t) = ((u : Int), 0) by rw [HP3.out, if_neg (by decide), if_neg (by omega)])
            clear HP3 h63
            go_enter Tryz.func73, Tryz.ntmps73
            go_wp2_with (go_at_call 93; (with_reducible refine (KU.out _).mono ?_); rintro e w1 ⟨rfl, hb1⟩; simp only [errV])
            all_goals go_ret2
            all_goals exact ⟨by rw [HP2.out]; exact ret_ie (by have := HU.out; first | rfl | exact this | (unfold wrap64; omega) | (rw [IntKind.wrap_u64]; unfold wrap64; omega)) rfl, hb1⟩
        · have HP2 := hid (show parseIF (43 :: t) = (0, 1) by rw [HP3.out]; simp)
          clear HP3
          go_enter Tryz.func73, Tryz.ntmps73
          go_wp2_with (go_at_call 93; (with_reducible refine (KU.out _).mono ?_); rintro e w1 ⟨rfl, hb1⟩; simp only [errV])
          all_goals go_ret2
          all_goals exact ⟨by rw [HP2.out]; exact ret_ie (by have := HU.out; first | rfl | exact this | (unfold wrap64; omega) | (rw [IntKind.wrap_u64]; unfold wrap64; omega)) rfl, hb1⟩
        · by_cases h63 : 9223372036854775807 < u
          · have k63 : 9223372036854775808 ≤ U := by rw [HU.out]; omega
            have HP2 := hid (show parseIF (43 :: t) = (9223372036854775807, 2) by rw [HP3.out, if_neg (by decide), if_pos (by omega)])
            clear HP3 h63
            go_enter Tryz.func73, Tryz.ntmps73
            go_wp2_with (go_at_call 93; (with_reducible refine (KU.out _).mono ?_); rintro e w1 ⟨rfl, hb1⟩; simp only [errV])
            all_goals go_ret2
            all_goals exact ⟨by rw [HP2.out]; exact ret_ie (by have := HU.out; first | rfl | exact this | (unfold wrap64; omega) | (rw [IntKind.wrap_u64]; unfold wrap64; omega)) rfl, hb1⟩
          · have k63 : ¬ 9223372036854775808 ≤ U := by rw [HU.out]; omega
            have HP2 := hid (show parseIF (43 :: t) = ((u : Int), 0) by rw [HP3.out, if_neg (by decide), if_neg (by omega)])
            clear HP3 h63
            go_enter Tryz.func73, Tryz.ntmps73
            go_wp2_with (go_at_call 93; (with_reducible refine (KU.out _).mono ?_); rintro e w1 ⟨rfl, hb1⟩; simp only [errV])
            all_goals go_ret2
            all_goals exact ⟨by rw [HP2.out]; exact ret_ie (by have := HU.out; first | rfl | exact this | (unfold wrap64; omega) | (rw [IntKind.wrap_u64]; unfold wrap64; omega)) rfl, hb1⟩
      · have h43b : ¬ (b.toNat : Int) = 43 := fun h => h43 (UInt8.toNat_inj.1 (by show b.toNat = 43; omega))
        have h43c : ((b.toNat : Int) == 43) = false := by rw [beq_eq_false_iff_ne]; exact h43b
        simp only [h45, h43, or_self, if_false] at KU
        rcases hcd with rfl | rfl | rfl
        · by_cases h63 : 9223372036854775807 < u
          · have k63 : 9223372036854775808 ≤ U := by rw [HU.out]; omega
            have HP2 := hid (show parseIF (b :: t) = (9223372036854775807, 2) by rw [HP3.out, if_neg (by decide), if_pos (by omega)])
            clear HP3 h63
            go_enter Tryz.func73, Tryz.ntmps73
            go_wp2_with (go_at_call 93; (with_reducible refine (KU.out _).mono ?_); rintro e w1 ⟨rfl, hb1⟩; simp only [errV])
            all_goals go_ret2
            all_goals exact ⟨by rw [HP2.out]; exact ret_ie (by have := HU.out; first | rfl | exact this | (unfold wrap64; omega) | (rw [IntKind.wrap_u64]; unfold wrap64; omega)) rfl, hb1⟩
          · have k63 : ¬ 9223372036854775808 ≤ U := by rw [HU.out]; omega
            have HP2 := hid (show parseIF (b :: t) = ((u : Int), 0) by rw [HP3.out, if_neg (by decide), if_neg (by omega)])
            clear HP3 h63
            go_enter Tryz.func73, Tryz.ntmps73
            go_wp2_with (go_at_call 93; (with_reducible refine (KU.out _).mono ?_); rintro e w1 ⟨rfl, hb1⟩; simp only [errV])
            all_goals go_ret2
            all_goals exact ⟨by rw [HP2.out]; exact ret_ie (by have := HU.out; first | rfl | exact this | (unfold wrap64; omega) | (rw [IntKind.wrap_u64]; unfold wrap64; omega)) rfl, hb1⟩
        · have HP2 := hid (show parseIF (b :: t) = (0, 1) by rw [HP3.out]; simp)
          clear HP3
          go_enter Tryz.func73, Tryz.ntmps73
          go_wp2_with (go_at_call 93; (with_reducible refine (KU.out _).mono ?_); rintro e w1 ⟨rfl, hb1⟩; simp only [errV])
          all_goals go_ret2
          all_goals exact ⟨by rw [HP2.out]; exact ret_ie (by have := HU.out; first | rfl | exact this | (unfold wrap64; omega) | (rw [IntKind.wrap_u64]; unfold wrap64; omega)) rfl, hb1⟩
        · by_cases h63 : 9223372036854775807 < u
          · have k63 : 9223372036854775808 ≤ U := by rw [HU.out]; omega
            have HP2 := hid (show parseIF (b :: t) = (9223372036854775807, 2) by rw [HP3.out, if_neg (by decide), if_pos (by omega)])
            clear HP3 h63
            go_enter Tryz.func73, Tryz.ntmps73
            go_wp2_with (go_at_call 93; (with_reducible refine (KU.out _).mono ?_); rintro e w1 ⟨rfl, hb1⟩; simp only [errV])
            all_goals go_ret2
            all_goals exact ⟨by rw [HP2.out]; exact ret_ie (by have := HU.out; first | rfl | exact this | (unfold wrap64; omega) | (rw [IntKind.wrap_u64]; unfold wrap64; omega)) rfl, hb1⟩
          · have k63 : ¬ 9223372036854775808 ≤ U := by rw [HU.out]; omega
            have HP2 := hid (show parseIF (b :: t) = ((u : Int), 0) by rw [HP3.out, if_neg (by decide), if_neg (by omega)])
            clear HP3 h63
            go_enter Tryz.func73, Tryz.ntmps73
            go_wp2_with (go_at_call 93; (with_reducible refine (KU.out _).mono ?_); rintro e w1 ⟨rfl, hb1⟩; simp only [errV])
            all_goals go_ret2
            all_goals exact ⟨by rw [HP2.out]; exact ret_ie (by have := HU.out; first | rfl | exact this | (unfold wrap64; omega) | (rw [IntKind.wrap_u64]; unfold wrap64; omega)) rfl, hb1⟩
theorem Atoi_calls (l : List UInt8) (w : World) (hl : l.length ≤ 1000000000) :
    Calls Tryz.prog 58 #[.string ⟨l.toArray⟩] w fun e w' => (∃ (x : Int) (v : Value), e = .returned (.tuple #[.int .i64 x, v]) ∧ ((atoiF l = some x ∧ v = .nilIface) ∨ (atoiF l = none ∧ ∃ T u, v = .iface T u))) ∧ Below w.heap.size w w' := by
  have KP := hid (fun w' => parseInt_calls l w' hl)
  have hx := parseIF_bound l
  obtain ⟨x, cd, hpi⟩ : ∃ x cd, parseIF l = (x, cd) := ⟨_, _, rfl⟩
  have HA := hid (show atoiF l = if cd = 0 then some x else none by unfold atoiF; rw [hpi])
  rw [hpi] at KP hx
  simp only at KP hx
  obtain ⟨hx1, hx2, hx3⟩ := hx
  clear hpi
  rcases hx3 with rfl | rfl | rfl
  all_goals
    go_enter Tryz.func58, Tryz.ntmps58
    go_wp2_with (go_at_call 73; (with_reducible refine (KP.out _).mono ?_); rintro e w1 ⟨rfl, hb1⟩; simp only [errV])
  · go_ret2
    exact ⟨⟨_, _, rfl, .inl ⟨by rw [HA.out]; rfl, rfl⟩⟩, hb1⟩
  all_goals
    go_ret2
    exact ⟨⟨_, _, rfl, .inr ⟨by rw [HA.out]; rfl, _, _, rfl⟩⟩, hb1.trans ((Below.refl _ _).alloc (hb1.size) _)⟩
end Go.Proofs.YtmljkiohekogbaaGreatDoor
