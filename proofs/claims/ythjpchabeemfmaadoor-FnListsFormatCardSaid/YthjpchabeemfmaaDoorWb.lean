import Derived.Test.YthjpchabeemfmaaDoorWa
import Derived.Test.YthjpchabeemfmaaDoorGb
namespace Go.Proofs.YthjpchabeemfmaaDoor
open Go.Shelf Go.RowKit Go.Lib
set_option linter.unusedVariables false
set_option linter.unusedSimpArgs false
set_option maxHeartbeats 4000000
set_option maxRecDepth 100000

/-- what a rune's bytes are: the rune, of ASCII, or no ASCII -/
theorem enc_bytes (r : Int) (h0 : 0 ≤ r) : ∀ b ∈ encodeRune r, (b.toNat : Int) = r ∨ 128 ≤ b.toNat := by
  intro b hb
  unfold encodeRune at hb
  obtain ⟨x, hx, rfl⟩ := List.mem_map.1 hb
  obtain ⟨hx0, hx1⟩ := encodeRuneZ_byte r x hx
  have e : ((x.toNat.toUInt8).toNat : Int) = x := by
    rw [show (x.toNat.toUInt8) = UInt8.ofNat x.toNat from rfl, UInt8.toNat_ofNat']
    omega
  rw [e]
  have key : x = r ∨ 128 ≤ x := by
    unfold encodeRuneZ at hx
    split at hx
    · simp only [List.mem_singleton] at hx; exact Or.inl hx
    · split at hx
      · simp only [List.mem_cons, List.mem_nil_iff, or_false] at hx; omega
      · split at hx
        · simp only [List.mem_cons, List.mem_nil_iff, or_false] at hx; omega
        · split at hx <;> (simp only [List.mem_cons, List.mem_nil_iff, or_false] at hx; omega)
  omega
theorem rowHigh : caseT.all (fun x => decide (x.2.1 ≤ 127) || [x.2.2.1, x.2.2.2.1].all fun d => decide (1114111 < d) && decide (15 ≤ x.1) || decide (d ≤ 1114111) && decide (15 ≤ (x.1 : Int) + d)) = true := by decide
theorem toR_high (c : Nat) (hc : c < 2) (r : Int) (h1 : 128 ≤ r) : 14 ≤ toR caseA c r := by
  unfold toR lookupGo
  cases hi : lookupIdx caseA r (caseA.size + 1) 0 caseA.size with
  | none => show 14 ≤ r; omega
  | some i =>
    obtain ⟨hil, hlo, hhi⟩ := lookupIdx_some caseA r _ _ _ i hi
    have hm : caseA.getD i (0, 0, 0, 0, 0) ∈ caseT := by
      have : caseA.getD i (0, 0, 0, 0, 0) ∈ caseA := by simp [Array.getD, hil]
      simpa [caseA] using this
    have := List.all_eq_true.1 rowHigh _ hm
    show 14 ≤ convertR c r (caseA.getD i (0, 0, 0, 0, 0))
    generalize caseA.getD i (0, 0, 0, 0, 0) = x at *
    simp only [Bool.or_eq_true, Bool.and_eq_true, decide_eq_true_eq, List.all_cons, List.all_nil, Bool.and_true] at this
    have hd : (1114111 < x.delta c ∧ 15 ≤ x.1) ∨ (x.delta c ≤ 1114111 ∧ 15 ≤ (x.1 : Int) + x.delta c) := by
      rcases this with h | h
      · omega
      · match c, hc with
        | 0, _ => exact h.1
        | 1, _ => exact h.2
    unfold convertR
    have : c % 2 = 0 ∨ c % 2 = 1 := by omega
    split <;> omega
/-- neither a tab nor a carriage return -/
def calm (r : Int) : Prop := 0 ≤ r ∧ r ≠ 9 ∧ r ≠ 13
theorem calm_upper {r : Int} (h : calm r) : calm (toUpperU r) := by
  obtain ⟨h0, h1, h2⟩ := h
  unfold toUpperU calm
  split
  · split <;> omega
  · have := toR_high 0 (by omega) r (by omega); omega
theorem calm_lower {r : Int} (h : calm r) : calm (toLowerU r) := by
  obtain ⟨h0, h1, h2⟩ := h
  unfold toLowerU calm
  split
  · split <;> omega
  · have := toR_high 1 (by omega) r (by omega); omega
theorem calm_enc {r : Int} (h : calm r) : ∀ b ∈ encodeRune r, b ≠ 9 ∧ b ≠ 13 := by
  intro b hb
  obtain ⟨h0, h1, h2⟩ := h
  rcases enc_bytes r h0 b hb with h | h
  · exact ⟨fun e => by subst e; exact h1 (by rw [← h]; rfl), fun e => by subst e; exact h2 (by rw [← h]; rfl)⟩
  · exact ⟨fun e => by subst e; revert h; decide, fun e => by subst e; revert h; decide⟩
theorem calm_decode {l : List UInt8} (hne : l ≠ []) (h : ∀ b ∈ l, b ≠ 9 ∧ b ≠ 13) : calm ((decodeL l).1 : Int) := by
  have key : ∀ n : Nat, n < 128 → (decodeL l).1 = n → ∃ b ∈ l, b.toNat = n := fun n hn e => by
    have he := encode_decode l hne (by omega)
    rw [e, encodeRune, encodeRuneZ_one (by omega) (by omega)] at he
    have hw := decodeL_width l
    refine ⟨UInt8.ofNat n, ?_, by rw [UInt8.toNat_ofNat']; omega⟩
    have : UInt8.ofNat n ∈ l.take (decodeL l).2 := by
      rw [← he]
      simp
    exact List.mem_of_mem_take this
  refine ⟨by omega, fun e => ?_, fun e => ?_⟩
  · obtain ⟨b, hb, e2⟩ := key 9 (by omega) (by omega)
    exact (h b hb).1 (UInt8.toNat_inj.1 e2)
  · obtain ⟨b, hb, e2⟩ := key 13 (by omega) (by omega)
    exact (h b hb).2 (UInt8.toNat_inj.1 e2)
theorem mapS_calm {σ : Type} (F : σ → Int → Int × σ) (hF : ∀ c r, calm r → calm (F c r).1) : ∀ (n : Nat) (l : List UInt8) (c : σ), l.length ≤ n → (∀ b ∈ l, b ≠ 9 ∧ b ≠ 13) → (∀ b ∈ mapS F c l, b ≠ 9 ∧ b ≠ 13) ∧ (mapS F c l).length ≤ 4 * l.length
  | n, [], c, _, _ => by rw [mapS_nil]; simp
  | 0, _ :: _, c, h, _ => by simp at h
  | n + 1, x :: t, c, hn, h => by
    rw [mapS_step F c (x :: t) (by simp)]
    have hw := decodeL_width (x :: t)
    have hwl := decodeL_le (x :: t) (by simp)
    have hd : (x :: t).drop (decodeL (x :: t)).2 = (x :: t).drop (decodeL (x :: t)).2 := rfl
    obtain ⟨i1, i2⟩ := mapS_calm F hF n ((x :: t).drop (decodeL (x :: t)).2) (F c (decodeL (x :: t)).1).2 (by rw [List.length_drop]; simp only [List.length_cons] at hn ⊢; omega) (fun b hb => h b (List.mem_of_mem_drop hb))
    have hc := hF c _ (calm_decode (by simp) h)
    refine ⟨fun b hb => ?_, ?_⟩
    · rcases List.mem_append.1 hb with hb | hb
      · exact calm_enc hc b hb
      · exact i1 b hb
    · have he := (enc_len (F c (decodeL (x :: t)).1).1).2
      rw [List.length_append]
      rw [List.length_drop] at i2
      omega
theorem mapGoD_calm (f : Int → Int) (hf : ∀ r, calm r → calm (f r)) : ∀ (n : Nat) (l : List UInt8), l.length ≤ n → (∀ b ∈ l, b ≠ 9 ∧ b ≠ 13) → (∀ b ∈ mapD f l, b ≠ 9 ∧ b ≠ 13) ∧ (mapD f l).length ≤ 4 * l.length
  | n, [], _, _ => by unfold mapD mapGoD; simp
  | 0, _ :: _, h, _ => by simp at h
  | n + 1, x :: t, hn, h => by
    rw [mapD_step f (x :: t) (by simp)]
    have hw := decodeL_width (x :: t)
    have hwl := decodeL_le (x :: t) (by simp)
    obtain ⟨i1, i2⟩ := mapGoD_calm f hf n ((x :: t).drop (decodeL (x :: t)).2) (by rw [List.length_drop]; simp only [List.length_cons] at hn ⊢; omega) (fun b hb => h b (List.mem_of_mem_drop hb))
    have hc := hf _ (calm_decode (by simp) h)
    refine ⟨fun b hb => ?_, ?_⟩
    · rcases List.mem_append.1 hb with hb | hb
      · split at hb
        · exact calm_enc hc b hb
        · simp at hb
      · exact i1 b hb
    · have he := (enc_len (f (decodeL (x :: t)).1)).2
      rw [List.length_append]
      rw [List.length_drop] at i2
      split
      · omega
      · simp only [List.length_nil]; omega
theorem fmtG_calm (k : Int) (l : List UInt8) (h : ∀ b ∈ l, b ≠ 9 ∧ b ≠ 13) : (∀ b ∈ fmtG k l, b ≠ 9 ∧ b ≠ 13) ∧ (fmtG k l).length ≤ 4 * l.length := by
  unfold fmtG
  split
  · exact mapGoD_calm _ (fun r => calm_lower) _ l (Nat.le_refl _) h
  · split
    · refine mapS_calm _ (fun c r hr => ?_) _ l _ (Nat.le_refl _) h
      unfold tiG
      split
      · exact hr
      · split
        · exact calm_upper hr
        · exact hr
    · split
      · refine mapS_calm _ (fun c r hr => ?_) _ l _ (Nat.le_refl _) h
        unfold upG
        split
        · exact hr
        · exact calm_upper hr
      · exact ⟨h, by omega⟩
end Go.Proofs.YthjpchabeemfmaaDoor
