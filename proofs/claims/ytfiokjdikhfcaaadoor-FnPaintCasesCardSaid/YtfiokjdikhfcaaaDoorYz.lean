import Derived.Test.YtfiokjdikhfcaaaDoorYy
namespace Go.Proofs.YtfiokjdikhfcaaaDoor
open Go.RowKit Go.Lib
set_option linter.unusedVariables false
set_option linter.unusedSimpArgs false
set_option maxHeartbeats 4000000
set_option maxRecDepth 100000

theorem digit_toNat {i : Nat} (h : i < 10) : (UInt8.ofNat (48 + i)).toNat = 48 + i := by
  rw [UInt8.toNat_ofNat']; omega
theorem digits_range : ∀ (n : Nat), ∀ b ∈ decDigits n, 48 ≤ b.toNat ∧ b.toNat ≤ 57 := by
  intro n
  induction n using Nat.strongRecOn with
  | ind n ih =>
    intro b hb
    rw [decDigits] at hb
    split at hb
    · simp only [List.mem_singleton] at hb
      subst hb
      rw [digit_toNat (by assumption)]
      omega
    · rcases List.mem_append.1 hb with hb | hb
      · exact ih _ (by omega) b hb
      · simp only [List.mem_singleton] at hb
        subst hb
        rw [digit_toNat (by omega)]
        omega
theorem semiT_seqB : ∀ (l : List Int), ∀ b ∈ semiT l, seqB b
  | [], b, h => by simp [semiT] at h
  | c :: t, b, h => by
    simp only [semiT, List.mem_cons, List.mem_append] at h
    rcases h with rfl | h | h
    · exact ⟨by decide, by decide⟩
    · have := digits_range _ b h
      exact ⟨by omega, by omega⟩
    · exact semiT_seqB t b h
theorem semi_seqB (l : List Int) : ∀ b ∈ semi l, seqB b := by
  intro b h
  cases l with
  | nil => simp [semi] at h
  | cons c t =>
    simp only [semi, List.mem_append] at h
    rcases h with h | h
    · have := digits_range _ b h
      exact ⟨by omega, by omega⟩
    · exact semiT_seqB t b h
theorem esc_txSeq (l : List Int) (r : List UInt8) : escOk false (txSeq l ++ r) = escOk false r := by
  unfold txSeq
  split
  · rfl
  · rw [List.cons_append, List.cons_append, List.append_assoc, escOk_cons, escOk_cons]
    rw [if_pos (by decide), if_pos (by decide)]
    rw [show decide (lowerB 27 = 27) = true by decide, show decide (lowerB 91 = 91) = true by decide, Bool.true_and, Bool.true_and]
    show escOk true (semi l ++ (109 :: r)) = _
    exact esc_seq _ _ (semi_seqB l)
theorem esc_written : ∀ (l : List Pc), (∀ b ∈ plainPc l, asciiOk b = true) → escOk false (writtenPc l) = true
  | [], _ => rfl
  | p :: t, h => by
    have e : writtenPc (p :: t) = txSeq p.codes ++ (p.text ++ writtenPc t) := by
      show (txSeq p.codes ++ p.text) ++ writtenPc t = _
      rw [List.append_assoc]
    have ep : plainPc (p :: t) = p.text ++ plainPc t := rfl
    rw [ep] at h
    rw [e, esc_txSeq, esc_text _ _ (fun b hb => h b (List.mem_append_left _ hb))]
    exact esc_written t fun b hb => h b (List.mem_append_right _ hb)
theorem ascii_txSeq (l : List Int) : asciiL (txSeq l) := by
  intro b hb
  unfold txSeq at hb
  split at hb
  · simp at hb
  · simp only [List.mem_cons, List.mem_append, List.mem_nil_iff, or_false] at hb
    rcases hb with rfl | rfl | hb | rfl
    · decide
    · decide
    · have := (semi_seqB l b hb).2; omega
    · decide
theorem ascii_ok {b : UInt8} (h : asciiOk b = true) : b.toNat < 128 := by
  unfold asciiOk at h
  simp only [Bool.or_eq_true, Bool.and_eq_true, decide_eq_true_eq] at h
  omega
theorem ascii_written : ∀ (l : List Pc), (∀ b ∈ plainPc l, b.toNat < 128) → asciiL (writtenPc l)
  | [], _ => by intro b hb; simp [writtenPc] at hb
  | p :: t, h => by
    have ep : plainPc (p :: t) = p.text ++ plainPc t := rfl
    rw [ep] at h
    intro b hb
    have e : writtenPc (p :: t) = (txSeq p.codes ++ p.text) ++ writtenPc t := rfl
    rw [e] at hb
    rcases List.mem_append.1 hb with hb | hb
    · rcases List.mem_append.1 hb with hb | hb
      · exact ascii_txSeq _ b hb
      · exact h b (List.mem_append_left _ hb)
    · exact ascii_written t (fun b hb => h b (List.mem_append_right _ hb)) b hb
theorem lowerB_ascii : ∀ i : Fin 128, (lowerB (UInt8.ofNat i.val)).toNat < 128 := by decide
theorem upperB_ascii : ∀ i : Fin 128, (upperB (UInt8.ofNat i.val)).toNat < 128 := by decide
theorem asciiL_lower {l : List UInt8} (h : asciiL l) : asciiL (toLowerA l) := by
  intro b hb
  obtain ⟨x, hx, rfl⟩ := List.mem_map.1 hb
  have := lowerB_ascii ⟨x.toNat, h x hx⟩
  simpa using this
theorem asciiL_up : ∀ {l : List UInt8} (c : Bool), asciiL l → asciiL (upL c l)
  | [], c, _ => by intro b hb; simp [upL] at hb
  | x :: t, c, h => by
    have hx : x.toNat < 128 := h x (by simp)
    have ht := fun c => asciiL_up (l := t) c fun b hb => h b (by simp [hb])
    have h1 := upperB_ascii ⟨x.toNat, hx⟩
    simp only [ofNat_back] at h1
    rw [upL_cons]
    split
    · intro b hb
      rcases List.mem_cons.1 hb with rfl | hb
      · exact hx
      · exact ht _ b hb
    · intro b hb
      rcases List.mem_cons.1 hb with rfl | hb
      · exact h1
      · exact ht _ b hb
theorem low_low1 : ∀ i : Fin 128, lowerB (lowerB (UInt8.ofNat i.val)) = lowerB (UInt8.ofNat i.val) := by decide
theorem low_low {l : List UInt8} (h : asciiL l) : toLowerA (toLowerA l) = toLowerA l := by
  unfold toLowerA
  rw [List.map_map]
  refine List.map_congr_left fun x hx => ?_
  have := low_low1 ⟨x.toNat, h x hx⟩
  simpa using this
theorem upL_len : ∀ (l : List UInt8) (c : Bool), (upL c l).length = l.length
  | [], _ => rfl
  | b :: t, c => by
    rw [upL_cons]
    split
    · rw [List.length_cons, List.length_cons, upL_len t]
    · rw [List.length_cons, List.length_cons, upL_len t]
/-- Formatting twice is formatting once, by the second way. -/
theorem cases_law (l : List UInt8) (ha : asciiL l) (he : escOk false l = true) (a b : Int) (h : a = 0 ∨ a = 1 ∨ a = 3) (hb : b = 1 ∨ b = 3) : fmtF b (fmtF a l) = fmtF b l := by
  have e0 : fmtF 0 l = l := rfl
  have e1 : ∀ x, fmtF 1 x = toLowerA x := fun _ => rfl
  have e3 : ∀ x, fmtF 3 x = mapS upF false x := fun _ => rfl
  have u : ∀ x, asciiL x → fmtF 3 x = upL false x := fun x hx => (e3 x).trans (up_bytes x false hx)
  rcases h with rfl | rfl | rfl <;> rcases hb with rfl | rfl
  · rw [e0]
  · rw [e0]
  · rw [e1, e1, low_low ha]
  · rw [e1, u _ (asciiL_lower ha), u _ ha, up_lower l false ha he]
  · rw [u _ ha, e1, e1, lower_up l false ha]
  · rw [u _ ha, u _ (asciiL_up false ha), up_up l false ha]
theorem cases_ascii (l : List UInt8) (ha : asciiL l) (a : Int) (h : a = 0 ∨ a = 1 ∨ a = 3) : asciiL (fmtF a l) ∧ (fmtF a l).length = l.length := by
  rcases h with rfl | rfl | rfl
  · exact ⟨ha, rfl⟩
  · exact ⟨asciiL_lower ha, by show (toLowerA l).length = _; simp [toLowerA]⟩
  · have e : fmtF 3 l = upL false l := up_bytes l false ha
    rw [e]
    exact ⟨asciiL_up false ha, upL_len l false⟩
theorem fmt_one (a : Int) (h : a = 0 ∨ a = 1 ∨ a = 3) : fmtF a [49] = [49] := by
  rcases h with rfl | rfl | rfl
  · rfl
  · rfl
  · exact (up_bytes [49] false (by intro b hb; simp only [List.mem_singleton] at hb; subst hb; decide)).trans (by decide)
end Go.Proofs.YtfiokjdikhfcaaaDoor
