import Derived.Test.YtbbmboklpfjliaaDoorFe
namespace Go.Proofs.YtbbmboklpfjliaaDoor
open Go.RowKit
set_option linter.unusedVariables false
set_option linter.unusedSimpArgs false
set_option maxHeartbeats 4000000
set_option maxRecDepth 100000

/-! the search, a letter at a time -/
theorem hasSub_cons (c : UInt8) (t p : List UInt8) : hasSub (c :: t) p = (p.isPrefixOf (c :: t) || hasSub t p) := by
  unfold hasSub
  rw [zIdx]
  cases h : p.isPrefixOf (c :: t) <;> simp
theorem hasSub_nil (x : UInt8) (p : List UInt8) : hasSub [] (x :: p) = false := by simp [hasSub, zIdx]
theorem hasSub_skip {a : List UInt8} {x : UInt8} (p l : List UInt8) (h : ∀ b ∈ a, b ≠ x) : hasSub (a ++ l) (x :: p) = hasSub l (x :: p) := by
  induction a with
  | nil => rfl
  | cons c t ih =>
    have hc : c ≠ x := h c (by simp)
    rw [List.cons_append, hasSub_cons, ih (fun b hb => h b (by simp [hb]))]
    have : (x :: p).isPrefixOf (c :: (t ++ l)) = false := by
      simp only [List.isPrefixOf, Bool.and_eq_false_iff]
      left; simpa using fun e => hc e.symm
    rw [this, Bool.false_or]

theorem repAllF_fuel {old new : List UInt8} (ho : old ≠ []) : ∀ (f g : Nat) (s : List UInt8), s.length < f → f ≤ g → repAllF old new g s = repAllF old new f s
  | 0, g, s, h, _ => by omega
  | f + 1, 0, s, h, hg => by omega
  | f + 1, g + 1, s, h, hg => by
    unfold repAllF
    cases hz : zIdx old s with
    | none => rfl
    | some i =>
      have hb := zIdx_bound hz
      have := List.length_pos_iff.2 ho
      simp only []
      rw [repAllF_fuel ho f g _ (by simp; omega) (by omega)]
theorem repAll_nil {x : UInt8} {p new : List UInt8} : repAll (x :: p) new [] = [] := by simp [repAll, repAllF, zIdx]
theorem repAll_cons {old new t : List UInt8} {c : UInt8} (ho : old ≠ []) (h : old.isPrefixOf (c :: t) = false) : repAll old new (c :: t) = c :: repAll old new t := by
  have ho1 := List.length_pos_iff.2 ho
  unfold repAll
  rw [List.length_cons, repAllF, zIdx, if_neg (by simp [h])]
  cases hz : zIdx old t with
  | none => simp [repAllF, hz]
  | some i =>
    have hb := zIdx_bound hz
    simp only [Option.map_some]
    rw [repAllF_some t.length hz]
    rw [show i + 1 + old.length = (i + old.length) + 1 by omega, List.take_succ_cons, List.drop_succ_cons]
    rw [repAllF_fuel ho (t.length) (t.length + 1) (t.drop (i + old.length)) (by simp; omega) (by omega)]
    rfl
theorem repAll_hit {old new t : List UInt8} (ho : old ≠ []) : repAll old new (old ++ t) = new ++ repAll old new t := by
  have ho1 := List.length_pos_iff.2 ho
  have hz : zIdx old (old ++ t) = some 0 := by
    cases hs : old ++ t with
    | nil => simp at hs; exact absurd hs.1 ho
    | cons c r =>
      have hp : old.isPrefixOf (c :: r) = true := by rw [← hs]; exact List.isPrefixOf_iff_prefix.2 (List.prefix_append _ _)
      rw [zIdx, if_pos hp]
  unfold repAll
  rw [repAllF, hz]
  simp only [List.take_zero, List.nil_append, Nat.zero_add, List.drop_left]
  rw [repAllF_fuel ho (t.length + 1) _ t (by omega) (by simp; omega)]
theorem repAll_skip {a : List UInt8} {x : UInt8} (p new l : List UInt8) (h : ∀ b ∈ a, b ≠ x) : repAll (x :: p) new (a ++ l) = a ++ repAll (x :: p) new l := by
  induction a with
  | nil => rfl
  | cons c t ih =>
    have hc : c ≠ x := h c (by simp)
    have hp : (x :: p).isPrefixOf (c :: (t ++ l)) = false := by
      simp only [List.isPrefixOf, Bool.and_eq_false_iff]
      left; simpa using fun e => hc e.symm
    rw [List.cons_append, repAll_cons (by simp) hp, ih (fun b hb => h b (by simp [hb]))]
    rfl

/-! where escapes stand -/
def no27 (l : List UInt8) : Prop := ∀ b ∈ l, b ≠ 27
theorem no27_append {a b : List UInt8} (ha : no27 a) (hb : no27 b) : no27 (a ++ b) := fun x hx => by
  rcases List.mem_append.1 hx with h | h
  · exact ha x h
  · exact hb x h
theorem first27 : ∀ {u v x y : List UInt8}, no27 u → no27 v → u ++ 27 :: x = v ++ 27 :: y → u = v ∧ x = y
  | [], [], x, y, _, _, h => by simpa using h
  | [], b :: v, x, y, _, hv, h => by
    simp at h; exact absurd h.1.symm (hv b (by simp))
  | a :: u, [], x, y, hu, _, h => by
    simp at h; exact absurd h.1 (hu a (by simp))
  | a :: u, b :: v, x, y, hu, hv, h => by
    simp only [List.cons_append, List.cons.injEq] at h
    have := first27 (fun z hz => hu z (by simp [hz])) (fun z hz => hv z (by simp [hz])) h.2
    exact ⟨by rw [h.1, this.1], this.2⟩
theorem last27 {m m' t t' : List UInt8} (ht : no27 t) (ht' : no27 t') (h : m ++ 27 :: t = m' ++ 27 :: t') : t = t' := by
  have h1 : t.reverse ++ 27 :: m.reverse = t'.reverse ++ 27 :: m'.reverse := by
    have := congrArg List.reverse h
    simpa using this
  have h2 := first27 (fun z hz => ht z (by simpa using hz)) (fun z hz => ht' z (by simpa using hz)) h1
  have := congrArg List.reverse h2.1
  simpa using this
theorem pre27 {u v w rest : List UInt8} (hu : no27 u) (hv : no27 v) (hr : rest = [] ∨ ∃ y, rest = 27 :: y) (h : List.isPrefixOf (27 :: (u ++ 27 :: w)) (27 :: (v ++ rest)) = true) : u = v := by
  obtain ⟨z, hz⟩ := List.isPrefixOf_iff_prefix.1 h
  simp only [List.cons_append, List.append_assoc, List.cons.injEq, true_and] at hz
  rcases hr with rfl | ⟨y, rfl⟩
  · exfalso
    have : (27 : UInt8) ∈ v := by rw [List.append_nil] at hz; rw [← hz]; simp
    exact hv 27 this rfl
  · exact (first27 hu hv hz).1
theorem pre27_false {u v w rest : List UInt8} (hu : no27 u) (hv : no27 v) (hr : rest = [] ∨ ∃ y, rest = 27 :: y) (hne : u ≠ v) : List.isPrefixOf (27 :: (u ++ 27 :: w)) (27 :: (v ++ rest)) = false := by
  rw [Bool.eq_false_iff]; intro h; exact hne (pre27 hu hv hr h)

/-! sequences of one code -/
theorem dec_digit (n : Nat) : ∀ x ∈ Lib.decDigits n, 48 ≤ x.toNat ∧ x.toNat ≤ 57 := by
  intro x hx
  rw [Lib.decDigits_eq] at hx
  simp only [List.mem_map] at hx
  obtain ⟨t, _, rfl⟩ := hx
  unfold Lib.dg
  have : n / 10 ^ (Lib.nDigits n - 1 - t) % 10 < 10 := Nat.mod_lt _ (by decide)
  simp
  omega
def sq (c : Nat) : List UInt8 := 91 :: (Lib.decDigits c ++ [109])
theorem seq1_eq (c : Nat) : seq1 c = 27 :: sq c := rfl
theorem sq_no27 (c : Nat) : no27 (sq c) := by
  intro x hx
  simp only [sq, List.mem_cons, List.mem_append, List.not_mem_nil, or_false] at hx
  rcases hx with rfl | h | rfl
  · decide
  · have := dec_digit c x h
    intro e; subst e; simp at this
  · decide
theorem dec_109 {c c' : Nat} {b : List UInt8} (h : Lib.decDigits c ++ [109] = Lib.decDigits c' ++ 109 :: b) : b = [] := by
  have hd : ∀ n, ∀ x ∈ Lib.decDigits n, x ≠ 109 := fun n x hx e => by have := dec_digit n x hx; subst e; simp at this
  have key : ∀ {u v x y : List UInt8}, (∀ z ∈ u, z ≠ 109) → (∀ z ∈ v, z ≠ 109) → u ++ 109 :: x = v ++ 109 :: y → x = y := by
    intro u
    induction u with
    | nil =>
      intro v x y _ hv h
      cases v with
      | nil => simpa using h
      | cons b v => simp at h; exact absurd h.1.symm (hv b (by simp))
    | cons a u ih =>
      intro v x y hu hv h
      cases v with
      | nil => simp at h; exact absurd h.1 (hu a (by simp))
      | cons b v =>
        simp only [List.cons_append, List.cons.injEq] at h
        exact ih (fun z hz => hu z (by simp [hz])) (fun z hz => hv z (by simp [hz])) h.2
  exact (key (hd c) (hd c') h).symm
theorem sq_ext {c c' : Nat} {b : List UInt8} (h : sq c = sq c' ++ b) : b = [] := by
  simp only [sq, List.cons_append, List.cons.injEq, true_and, List.append_assoc, List.nil_append] at h
  exact dec_109 h
theorem decDigits_three {n : Nat} (h1 : 100 ≤ n) (h2 : n < 1000) : Lib.decDigits n = [UInt8.ofNat (48 + n / 10 / 10), UInt8.ofNat (48 + n / 10 % 10), UInt8.ofNat (48 + n % 10)] := by
  rw [Lib.decDigits, dif_neg (by omega), Lib.decDigits_two (by omega) (by omega)]
  rfl
theorem sq_ne {c : Nat} (h0 : 1 ≤ c) (h1 : c < 1000) : sq c ≠ [91, 48, 109] := by
  intro h
  simp only [sq, List.cons.injEq, true_and] at h
  have h2 : Lib.decDigits c = [48] := by
    have : Lib.decDigits c ++ [109] = [48] ++ [109] := h
    exact List.append_cancel_right this
  have hl := congrArg List.length h2
  by_cases hc : c < 10
  · rw [Lib.decDigits_one hc] at h2
    simp only [List.cons.injEq, and_true] at h2
    have := congrArg UInt8.toNat h2
    simp at this
    omega
  · by_cases hc2 : c < 100
    · rw [Lib.decDigits_two hc hc2] at hl; simp at hl
    · rw [decDigits_three (by omega) h1] at hl; simp at hl
end Go.Proofs.YtbbmboklpfjliaaDoor
