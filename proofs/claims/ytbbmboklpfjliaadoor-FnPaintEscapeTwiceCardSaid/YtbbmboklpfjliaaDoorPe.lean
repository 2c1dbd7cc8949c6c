import Derived.Test.YtbbmboklpfjliaaDoorKn
namespace Go.Proofs.YtbbmboklpfjliaaDoor
open Go.RowKit
set_option linter.unusedVariables false
set_option linter.unusedSimpArgs false
set_option maxHeartbeats 4000000
set_option maxRecDepth 100000

theorem pre_head {a : List UInt8} (t : List UInt8) (x : List UInt8) (h : no27 a) (hne : a ≠ []) : List.isPrefixOf (27 :: x) (a ++ t) = false := by
  cases a with
  | nil => exact absurd rfl hne
  | cons c a =>
    have hc : c ≠ 27 := h c (by simp)
    rw [List.cons_append]
    simp only [List.isPrefixOf, Bool.and_eq_false_iff]
    left; simpa using fun e => hc e.symm
theorem rst_no27 : no27 [91, 48, 109] := by intro x hx; simp at hx; rcases hx with rfl | rfl | rfl <;> decide
/-- RST ends a text just if it is what stands behind the last escape -/
theorem suffix_last {m t : List UInt8} (ht : no27 t) (hne : t ≠ [91, 48, 109]) : List.isSuffixOf [27, 91, 48, 109] (m ++ 27 :: t) = false := by
  rw [Bool.eq_false_iff]
  intro h
  obtain ⟨z, hz⟩ := List.isSuffixOf_iff_suffix.1 h
  exact hne (last27 rst_no27 ht hz).symm
theorem suffix_rst (m : List UInt8) : List.isSuffixOf [27, 91, 48, 109] (m ++ [27, 91, 48, 109]) = true := List.isSuffixOf_iff_suffix.2 (List.suffix_append _ _)

theorem P2 (c : Nat) : seq1 c ++ [27, 91, 48, 109] = 27 :: (sq c ++ 27 :: [91, 48, 109]) := by rw [seq1_eq]; rfl
/-- the two sequences one behind the other: at an escape behind which v stands -/
theorem two_at {c : Nat} {v rest : List UInt8} (hv : no27 v) (hr : rest = [] ∨ ∃ y, rest = 27 :: y) (hne : sq c ≠ v) : hasSub (27 :: (v ++ rest)) (seq1 c ++ [27, 91, 48, 109]) = hasSub rest (seq1 c ++ [27, 91, 48, 109]) := by
  rw [P2, hasSub_cons, pre27_false (sq_no27 c) hv hr hne, Bool.false_or, hasSub_skip _ _ hv]
theorem two_nil (c : Nat) : hasSub [] (seq1 c ++ [27, 91, 48, 109]) = false := by rw [P2]; exact hasSub_nil _ _
theorem two_skip {c : Nat} {a l : List UInt8} (ha : no27 a) : hasSub (a ++ l) (seq1 c ++ [27, 91, 48, 109]) = hasSub l (seq1 c ++ [27, 91, 48, 109]) := by rw [P2]; exact hasSub_skip _ _ ha

theorem sq_app_ne {c d : Nat} {b : List UInt8} (hb : b ≠ []) : sq c ≠ sq d ++ b := fun h => hb (sq_ext h)

/-- a text without sequences gets a color -/
theorem esc_plain {b : List UInt8} (hb : no27 b) (hne : b ≠ []) {c : Nat} (h0 : 1 ≤ c) (h1 : c < 1000) : esc b (seq1 c) = 27 :: (sq c ++ (b ++ [27, 91, 48, 109])) := by
  have hp : List.isPrefixOf [27, 91] b = false := by have := pre_head (a := b) [] [91] hb hne; simpa using this
  have hr : repAll [27, 91, 48, 109] (27 :: 91 :: 48 :: 109 :: seq1 c) b = b := by
    have := repAll_skip (a := b) (x := 27) [91, 48, 109] (27 :: 91 :: 48 :: 109 :: seq1 c) [] hb
    rw [List.append_nil, repAll_nil, List.append_nil] at this
    exact this
  have hA : escA b (seq1 c) = 27 :: (sq c ++ b) := by unfold escA; rw [hp, hr]; simp [seq1_eq]
  have hs : List.isSuffixOf [27, 91, 48, 109] (27 :: (sq c ++ b)) = false := by
    have := suffix_last (m := []) (t := sq c ++ b) (no27_append (sq_no27 c) hb) (by
      intro e
      have hl := congrArg List.length e
      have h3 : 1 ≤ (Lib.decDigits c).length := by rw [Lib.decDigits_length]; exact Lib.nDigits_pos c
      have := List.length_pos_iff.2 hne
      simp [sq] at hl
      omega)
    simpa using this
  have hB : escB (escA b (seq1 c)) = 27 :: (sq c ++ (b ++ [27, 91, 48, 109])) := by unfold escB; rw [hA, hs]; simp
  have hC : hasSub (27 :: (sq c ++ (b ++ [27, 91, 48, 109]))) (seq1 c ++ [27, 91, 48, 109]) = false := by
    have e : 27 :: (sq c ++ (b ++ [27, 91, 48, 109])) = 27 :: ((sq c ++ b) ++ 27 :: ([91, 48, 109] ++ [])) := by simp
    rw [e, two_at (no27_append (sq_no27 c) hb) (.inr ⟨_, rfl⟩) (sq_app_ne hne), two_at rst_no27 (.inl rfl) (sq_ne h0 h1), two_nil]
  unfold esc escC
  rw [hB, hC]
  simp

/-- no color's sequence is the one that turns all off -/
theorem seq_not_rst {i : Nat} (i0 : 1 ≤ i) (i1 : i < 1000) (t : List UInt8) : List.isPrefixOf [27, 91, 48, 109] (27 :: (sq i ++ t)) = false := by
  rw [Bool.eq_false_iff]
  intro h
  obtain ⟨z, hz⟩ := List.isPrefixOf_iff_prefix.1 h
  simp only [sq, List.cons_append, List.cons.injEq, true_and, List.append_assoc, List.nil_append] at hz
  by_cases hc1 : i < 10
  · rw [Lib.decDigits_one hc1] at hz
    simp only [List.cons_append, List.cons.injEq] at hz
    have := congrArg UInt8.toNat hz.1
    simp at this
    omega
  · have hl2 : (109 : UInt8) = (Lib.decDigits i)[1]! := by
      have hlen : 2 ≤ (Lib.decDigits i).length := by
        by_cases hc2 : i < 100
        · rw [Lib.decDigits_two hc1 hc2]; simp
        · rw [decDigits_three (by omega) i1]; simp
      generalize Lib.decDigits i = d at *
      match d, hlen with
      | x :: y :: d, _ =>
        simp only [List.cons_append, List.cons.injEq] at hz
        simpa using hz.2.1
    have hm : (Lib.decDigits i)[1]! ∈ Lib.decDigits i := by
      have hlen : 2 ≤ (Lib.decDigits i).length := by
        by_cases hc2 : i < 100
        · rw [Lib.decDigits_two hc1 hc2]; simp
        · rw [decDigits_three (by omega) i1]; simp
      rw [getElem!_pos _ 1 (by omega)]
      exact List.getElem_mem _
    rw [← hl2] at hm
    have := dec_digit i 109 hm
    simp at this


/-- a color around a text that has one of its own -/
theorem esc_nest {a b c : List UInt8} (ha : no27 a) (hb : no27 b) (hc : no27 c) (hane : a ≠ []) (hbne : b ≠ []) (hcne : c ≠ []) {o i : Nat} (o0 : 1 ≤ o) (o1 : o < 1000) (i0 : 1 ≤ i) (i1 : i < 1000) :
    esc (a ++ (27 :: (sq i ++ (b ++ [27, 91, 48, 109])) ++ c)) (seq1 o) = 27 :: (sq o ++ (a ++ (27 :: (sq i ++ (b ++ ([27, 91, 48, 109] ++ (27 :: (sq o ++ (c ++ [27, 91, 48, 109]))))))))) := by
  have hp : List.isPrefixOf [27, 91] (a ++ (27 :: (sq i ++ (b ++ [27, 91, 48, 109])) ++ c)) = false := pre_head _ [91] ha hane
  have hr : repAll [27, 91, 48, 109] (27 :: 91 :: 48 :: 109 :: seq1 o) (a ++ (27 :: (sq i ++ (b ++ [27, 91, 48, 109])) ++ c)) = a ++ 27 :: (sq i ++ (b ++ ([27, 91, 48, 109] ++ (27 :: (sq o ++ c))))) := by
    rw [repAll_skip [91, 48, 109] _ _ ha]
    congr 1
    have hmiss : List.isPrefixOf [27, 91, 48, 109] (27 :: (sq i ++ (b ++ [27, 91, 48, 109]) ++ c)) = false := by rw [List.append_assoc]; exact seq_not_rst i0 i1 _
    have e1 : (27 :: (sq i ++ (b ++ [27, 91, 48, 109])) ++ c) = 27 :: (sq i ++ (b ++ [27, 91, 48, 109]) ++ c) := by simp
    rw [e1, repAll_cons (by simp) hmiss]
    congr 1
    have e2 : sq i ++ (b ++ [27, 91, 48, 109]) ++ c = (sq i ++ b) ++ ([27, 91, 48, 109] ++ c) := by simp
    rw [e2, repAll_skip [91, 48, 109] _ _ (no27_append (sq_no27 i) hb), repAll_hit (by simp)]
    have e3 := repAll_skip (a := c) (x := 27) [91, 48, 109] (27 :: 91 :: 48 :: 109 :: seq1 o) [] hc
    rw [List.append_nil, repAll_nil, List.append_nil] at e3
    rw [e3, seq1_eq]
    simp
  have hA : escA (a ++ (27 :: (sq i ++ (b ++ [27, 91, 48, 109])) ++ c)) (seq1 o) = 27 :: (sq o ++ (a ++ (27 :: (sq i ++ (b ++ ([27, 91, 48, 109] ++ (27 :: (sq o ++ c)))))))) := by
    unfold escA; rw [hp, hr]; simp [seq1_eq]
  have hs : List.isSuffixOf [27, 91, 48, 109] (27 :: (sq o ++ (a ++ (27 :: (sq i ++ (b ++ ([27, 91, 48, 109] ++ (27 :: (sq o ++ c))))))))) = false := by
    have e : 27 :: (sq o ++ (a ++ (27 :: (sq i ++ (b ++ ([27, 91, 48, 109] ++ (27 :: (sq o ++ c)))))))) = (27 :: (sq o ++ (a ++ (27 :: (sq i ++ (b ++ [27, 91, 48, 109])))))) ++ 27 :: (sq o ++ c) := by simp
    rw [e]
    refine suffix_last (no27_append (sq_no27 o) hc) ?_
    intro e
    have hl := congrArg List.length e
    have h3 : 1 ≤ (Lib.decDigits o).length := by rw [Lib.decDigits_length]; exact Lib.nDigits_pos o
    have := List.length_pos_iff.2 hcne
    simp [sq] at hl
    omega
  have hB : escB (escA (a ++ (27 :: (sq i ++ (b ++ [27, 91, 48, 109])) ++ c)) (seq1 o)) = 27 :: (sq o ++ (a ++ (27 :: (sq i ++ (b ++ ([27, 91, 48, 109] ++ (27 :: (sq o ++ (c ++ [27, 91, 48, 109]))))))))) := by
    unfold escB; rw [hA, hs]; simp
  have hC : hasSub (27 :: (sq o ++ (a ++ (27 :: (sq i ++ (b ++ ([27, 91, 48, 109] ++ (27 :: (sq o ++ (c ++ [27, 91, 48, 109])))))))))) (seq1 o ++ [27, 91, 48, 109]) = false := by
    have e : 27 :: (sq o ++ (a ++ (27 :: (sq i ++ (b ++ ([27, 91, 48, 109] ++ (27 :: (sq o ++ (c ++ [27, 91, 48, 109]))))))))) = 27 :: ((sq o ++ a) ++ 27 :: ((sq i ++ b) ++ 27 :: ([91, 48, 109] ++ 27 :: ((sq o ++ c) ++ 27 :: ([91, 48, 109] ++ []))))) := by simp
    rw [e, two_at (no27_append (sq_no27 o) ha) (.inr ⟨_, rfl⟩) (sq_app_ne hane), two_at (no27_append (sq_no27 i) hb) (.inr ⟨_, rfl⟩) (sq_app_ne hbne), two_at rst_no27 (.inr ⟨_, rfl⟩) (sq_ne o0 o1), two_at (no27_append (sq_no27 o) hc) (.inr ⟨_, rfl⟩) (sq_app_ne hcne), two_at rst_no27 (.inl rfl) (sq_ne o0 o1), two_nil]
  unfold esc escC
  rw [hB, hC]
  simp

end Go.Proofs.YtbbmboklpfjliaaDoor
