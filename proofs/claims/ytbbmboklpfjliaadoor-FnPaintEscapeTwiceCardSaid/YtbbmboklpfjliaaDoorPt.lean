import Derived.Test.YtbbmboklpfjliaaDoorPe
import Derived.Test.YtbbmboklpfjliaaDoorTs
namespace Go.Proofs.YtbbmboklpfjliaaDoor
open Go.RowKit
set_option linter.unusedVariables false
set_option linter.unusedSimpArgs false
set_option maxHeartbeats 4000000
set_option maxRecDepth 100000

theorem txSeq_one (c : Nat) : txSeq [(c : Int)] = seq1 c := by simp [txSeq, semi, semiT, seq1, dec]

/-- the replacing of the two sequences, at an escape behind which v stands -/
theorem rep2_at {c : Nat} {v rest : List UInt8} (hv : no27 v) (hr : rest = [] ∨ ∃ y, rest = 27 :: y) (hne : sq c ≠ v) : repAll (seq1 c ++ [27, 91, 48, 109]) [] (27 :: (v ++ rest)) = 27 :: (v ++ repAll (seq1 c ++ [27, 91, 48, 109]) [] rest) := by
  rw [P2, repAll_cons (by simp) (pre27_false (sq_no27 c) hv hr hne), repAll_skip _ _ _ hv]

/-- a text that has a color as a whole keeps just that -/
theorem esc_twice {s : List UInt8} (hs : no27 s) (hne : s ≠ []) {a b : Nat} (a0 : 1 ≤ a) (a1 : a < 1000) (b0 : 1 ≤ b) (b1 : b < 1000) :
    esc (27 :: (sq a ++ (s ++ [27, 91, 48, 109]))) (seq1 b) = 27 :: (sq a ++ (s ++ [27, 91, 48, 109])) := by
  have hp : List.isPrefixOf [27, 91] (27 :: (sq a ++ (s ++ [27, 91, 48, 109]))) = true := by simp [sq, List.isPrefixOf]
  have hr : repAll [27, 91, 48, 109] (27 :: 91 :: 48 :: 109 :: seq1 b) (27 :: (sq a ++ (s ++ [27, 91, 48, 109]))) = 27 :: (sq a ++ (s ++ ([27, 91, 48, 109] ++ seq1 b))) := by
    have hmiss : List.isPrefixOf [27, 91, 48, 109] (27 :: (sq a ++ (s ++ [27, 91, 48, 109]))) = false := seq_not_rst a0 a1 _
    rw [repAll_cons (by simp) hmiss]
    congr 1
    have e2 : sq a ++ (s ++ [27, 91, 48, 109]) = (sq a ++ s) ++ ([27, 91, 48, 109] ++ []) := by simp
    rw [e2, repAll_skip [91, 48, 109] _ _ (no27_append (sq_no27 a) hs), repAll_hit (by simp), repAll_nil]
    simp
  have hA : escA (27 :: (sq a ++ (s ++ [27, 91, 48, 109]))) (seq1 b) = 27 :: (sq a ++ (s ++ ([27, 91, 48, 109] ++ seq1 b))) := by
    unfold escA; rw [hp, hr]; simp
  have hsf : List.isSuffixOf [27, 91, 48, 109] (27 :: (sq a ++ (s ++ ([27, 91, 48, 109] ++ seq1 b)))) = false := by
    have e : 27 :: (sq a ++ (s ++ ([27, 91, 48, 109] ++ seq1 b))) = (27 :: (sq a ++ (s ++ [27, 91, 48, 109]))) ++ 27 :: sq b := by simp [seq1_eq]
    rw [e]
    exact suffix_last (sq_no27 b) (sq_ne b0 b1)
  have hB : escB (escA (27 :: (sq a ++ (s ++ [27, 91, 48, 109]))) (seq1 b)) = 27 :: (sq a ++ (s ++ ([27, 91, 48, 109] ++ (seq1 b ++ [27, 91, 48, 109])))) := by
    unfold escB; rw [hA, hsf]; simp
  have e3 : 27 :: (sq a ++ (s ++ ([27, 91, 48, 109] ++ (seq1 b ++ [27, 91, 48, 109])))) = 27 :: ((sq a ++ s) ++ 27 :: ([91, 48, 109] ++ ((seq1 b ++ [27, 91, 48, 109]) ++ []))) := by simp
  have hh : ∃ y, (seq1 b ++ [27, 91, 48, 109]) ++ [] = 27 :: y := ⟨_, by rw [P2, List.append_nil]⟩
  have hC : repAll (seq1 b ++ [27, 91, 48, 109]) [] (27 :: (sq a ++ (s ++ ([27, 91, 48, 109] ++ (seq1 b ++ [27, 91, 48, 109]))))) = 27 :: (sq a ++ (s ++ [27, 91, 48, 109])) := by
    rw [e3, rep2_at (no27_append (sq_no27 a) hs) (.inr ⟨_, rfl⟩) (sq_app_ne hne), rep2_at rst_no27 (.inr hh) (sq_ne b0 b1), repAll_hit (by simp)]
    rw [P2, repAll_nil]
    simp
  have hS : hasSub (27 :: (sq a ++ (s ++ ([27, 91, 48, 109] ++ (seq1 b ++ [27, 91, 48, 109]))))) (seq1 b ++ [27, 91, 48, 109]) = true := by
    rw [e3, two_at (no27_append (sq_no27 a) hs) (.inr ⟨_, rfl⟩) (sq_app_ne hne), two_at rst_no27 (.inr hh) (sq_ne b0 b1), List.append_nil, P2, hasSub_cons]
    simp
  unfold esc escC
  rw [hB, hC, hS]
  simp

theorem TextEscape_calls {s q r : List UInt8} {w : World} (h : Calls Tryd.prog 9 #[.string ⟨s.toArray⟩, .string ⟨q.toArray⟩] w fun e w' => e = .returned (.string ⟨r.toArray⟩) ∧ Below w.heap.size w w') :
    Calls Tryd.prog 6 #[.string ⟨s.toArray⟩, .string ⟨q.toArray⟩] w fun e w' => e = .returned (.string ⟨r.toArray⟩) ∧ Below w.heap.size w w' := by
  have K := hid h
  go_enter Tryd.func6, Tryd.ntmps6
  go_wp2_with (go_at_call 9; (with_reducible refine K.out.mono ?_); rintro e w1 ⟨rfl, hb1⟩)
  go_ret
  exact ⟨rfl, hb1⟩

theorem FnPaintEscapeTwice_walk (s : List UInt8) (a b : Int) (w : World) (ht : Tab w) :
    Calls Tryd.prog 3 #[.string ⟨s.toArray⟩, .int .i64 a, .int .i64 b] w fun e w' => e = .returned (.bool true) ∧ Below w.heap.size w w' := by
  by_cases hl : s.length ≤ 500
  · by_cases h0 : s = []
    · subst h0
      go_enter Tryd.func3, Tryd.ntmps3
      go_wp2_with fail
      go_ret
      exact ⟨rfl, Below.refl _ w⟩
    · have h1 : s.isEmpty = false := by simpa using h0
      have h2 : (s == []) = false := by simpa using h0
      have H0 := hid h0
      clear h0
      have KS := hid (TxSimple_calls ⟨s.toArray⟩ true w (by rw [S_size]; omega))
      cases hs : txSimple ⟨s.toArray⟩ true
      · rw [hs] at KS
        go_enter Tryd.func3, Tryd.ntmps3
        go_wp2_with (go_at_call 4; (with_reducible refine KS.out.mono ?_); rintro e w' ⟨rfl, hb⟩)
        go_ret
        exact ⟨rfl, hb⟩
      · rw [hs] at KS
        have hk : Kn s := by have := Kn.of_simple hs; simpa using this
        clear hs
        cases hoa : txAttr a <;> cases hob : txAttr b
        all_goals try (
          go_enter Tryd.func3, Tryd.ntmps3
          go_wp2_with (first
            | (go_at_call 4; (with_reducible refine KS.out.mono ?_); rintro e w' ⟨rfl, hb⟩)
            | (go_at_call_of 5 a; (with_reducible refine (TxAttribute_calls a _).mono ?_); rintro e w' ⟨rfl, rfl⟩; rw [hoa])
            | (go_at_call 5; (with_reducible refine (TxAttribute_calls b _).mono ?_); rintro e w' ⟨rfl, rfl⟩; rw [hob]))
          go_ret
          exact ⟨rfl, hb⟩)
        have hab : 1 ≤ a ∧ a < 1000 := by simp [txAttr] at hoa; omega
        have hbb : 1 ≤ b ∧ b < 1000 := by simp [txAttr] at hob; omega
        obtain ⟨x, rfl⟩ : ∃ n : Nat, a = n := ⟨a.toNat, by omega⟩
        obtain ⟨y, rfl⟩ : ∃ n : Nat, b = n := ⟨b.toNat, by omega⟩
        have x0 : 1 ≤ x := by omega
        have x1 : x < 1000 := by omega
        have y0 : 1 ≤ y := by omega
        have y1 : y < 1000 := by omega
        have ht2 := esc_plain hk.no27 H0.out x0 x1
        have ht3 := esc_twice hk.no27 H0.out x0 x1 y0 y1
        have lx := seq1_len x x1
        have ly := seq1_len y y1
        have KE1 := hid (fun w => Escape_small s (seq1 x) w (by omega) (by omega))
        have KE2 := hid (fun w => Escape_small (27 :: (sq x ++ (s ++ [27, 91, 48, 109]))) (seq1 y) w (by rw [seq1_eq] at lx; simp at lx ⊢; omega) (by omega))
        rw [ht2] at KE1
        rw [ht3] at KE2
        have hTne : ((27 :: (sq x ++ (s ++ [27, 91, 48, 109])) : List UInt8) == []) = false := rfl
        have hTe : ((27 :: (sq x ++ (s ++ [27, 91, 48, 109])) : List UInt8)).isEmpty = false := rfl
        generalize 27 :: (sq x ++ (s ++ [27, 91, 48, 109])) = t at *
        have KT := hid (fun (c : Nat) (hc : c < 1000) (w : World) (ht : Tab w) => show Calls Tryd.prog 7 #[.slice (some ⟨w.heap.size, 0, none⟩) 1 1] (w.alloc (.cells #[.int .i64 c] 3)) fun e w' => e = .returned (.string ⟨(seq1 c).toArray⟩) ∧ Below w.heap.size w w' from by
          refine (TxSequence_calls _ [(c : Int)] _ (RdI.new w [(c : Int)] 1 #[.int .i64 c] 3 rfl (by simp) (by simp) (by simp)) (by simp; omega) (by simp) (ht.below ((Below.refl _ w).alloc (Nat.le_refl _) _))).mono ?_
          rintro e w' ⟨rfl, hb⟩
          rw [txSeq_one]
          exact ⟨rfl, ((Below.refl _ w).alloc (Nat.le_refl _) _).trans (hb.mono (by simp))⟩)
        go_enter Tryd.func3, Tryd.ntmps3
        go_wp2_with (first
          | (go_at_call 4; (with_reducible refine KS.out.mono ?_); rintro e w0 ⟨rfl, hb0⟩)
          | (go_at_call_of 5 (x : Int); (with_reducible refine (TxAttribute_calls (x : Int) _).mono ?_); rintro e w' ⟨rfl, rfl⟩; rw [hoa])
          | (go_at_call 5; (with_reducible refine (TxAttribute_calls (y : Int) _).mono ?_); rintro e w' ⟨rfl, rfl⟩; rw [hob]))
        have hT0 := ht.below hb0
        go_at_call 7
        (with_reducible refine (KT.out x x1 w0 hT0).mono ?_)
        rintro e w1 ⟨rfl, hb1⟩
        replace hb1 := hb0.trans (hb1.mono hb0.size)
        go_wp2_with fail
        go_at_call 6
        (with_reducible refine (TextEscape_calls (KE1.out w1)).mono ?_)
        rintro e w2 ⟨rfl, hb2⟩
        replace hb2 := hb1.trans (hb2.mono hb1.size)
        go_wp2_with fail
        go_at_call 7
        (with_reducible refine (KT.out y y1 w2 (ht.below hb2)).mono ?_)
        rintro e w3 ⟨rfl, hb3⟩
        replace hb3 := hb2.trans (hb3.mono hb2.size)
        go_wp2_with fail
        go_at_call 6
        (with_reducible refine (TextEscape_calls (KE2.out w3)).mono ?_)
        rintro e w4 ⟨rfl, hb4⟩
        replace hb4 := hb3.trans (hb4.mono hb3.size)
        go_wp2_with fail
        go_ret
        exact ⟨ret_bool (by simp [hTe, hTne]), hb4⟩
  · by_cases hz : s.length ≤ 2147483647
    all_goals
      go_enter Tryd.func3, Tryd.ntmps3
      go_wp2_with fail
      go_ret
      exact ⟨rfl, Below.refl _ w⟩
end Go.Proofs.YtbbmboklpfjliaaDoor
