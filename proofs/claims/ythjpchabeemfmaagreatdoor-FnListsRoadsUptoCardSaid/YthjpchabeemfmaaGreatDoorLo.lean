import Derived.Test.YthjpchabeemfmaaGreatDoorGk
import Derived.Test.YthjpchabeemfmaaGreatDoorGb
namespace Go.Proofs.YthjpchabeemfmaaGreatDoor
set_option linter.unusedVariables false
set_option linter.unusedSimpArgs false
set_option maxHeartbeats 4000000
set_option maxRecDepth 100000

/-! lines of texts of ASCII -/
theorem enc_asc (b : UInt8) (h : b.toNat < 128) : Lib.encodeRune (b.toNat : Int) = [b] := by
  rw [Lib.encodeRune, Lib.encodeRuneZ_one (by omega) (by omega)]
  simp
def nums (l : List UInt8) : List Int := l.map fun b => (b.toNat : Int)
theorem asc_encs : ∀ l : List UInt8, (∀ b ∈ l, b.toNat < 128) → encs (nums l) = l
  | [], _ => rfl
  | b :: t, h => by
    rw [show nums (b :: t) = (b.toNat : Int) :: nums t from rfl, encs_cons, asc_encs t (fun x hx => h x (by simp [hx])), enc_asc b (h b (by simp))]
    rfl
theorem runesL_asc (l : List UInt8) (h : ∀ b ∈ l, b.toNat < 128) : runesL l = nums l := by
  conv => lhs; rw [← asc_encs l h]
  exact runesL_of_encs _ (fun r hr => by
    obtain ⟨b, hb, rfl⟩ := List.mem_map.1 hr
    have := h b hb
    unfold VR
    omega)
theorem linesR_run : ∀ (l cur : List UInt8) (rest : List Int), (∀ b ∈ l, b.toNat < 128 ∧ b ≠ 10) → linesR cur (nums l ++ rest) = linesR (cur ++ l) rest
  | [], cur, rest, _ => by simp [nums]
  | b :: t, cur, rest, h => by
    have hb := h b (by simp)
    have hne : (b.toNat : Int) ≠ 10 := fun e => hb.2 (UInt8.toNat_inj.1 (by show b.toNat = 10; omega))
    rw [show nums (b :: t) ++ rest = (b.toNat : Int) :: (nums t ++ rest) from rfl, linesR, if_neg hne, enc_asc b hb.1, linesR_run t _ rest (fun x hx => h x (by simp [hx]))]
    simp
theorem lines_of : ∀ (ss : List (List UInt8)) (s0 : List UInt8), (∀ s ∈ s0 :: ss, ∀ b ∈ s, b.toNat < 128 ∧ b ≠ 10) → linesR [] (nums (s0 ++ ss.flatMap (fun x => 10 :: x))) = s0 :: ss
  | [], s0, h => by
    have := linesR_run s0 [] [] (h s0 (by simp))
    simpa [nums, linesR] using this
  | s1 :: ss, s0, h => by
    have h1 := linesR_run s0 [] (nums (10 :: (s1 ++ ss.flatMap (fun x => 10 :: x)))) (h s0 (by simp))
    have h2 := lines_of ss s1 (fun s hs => h s (List.mem_cons_of_mem _ hs))
    have e : nums (s0 ++ (s1 :: ss).flatMap (fun x => 10 :: x)) = nums s0 ++ nums (10 :: (s1 ++ ss.flatMap (fun x => 10 :: x))) := by simp [nums]
    rw [e, h1, show nums (10 :: (s1 ++ ss.flatMap (fun x => 10 :: x))) = 10 :: nums (s1 ++ ss.flatMap (fun x => 10 :: x)) from rfl, linesR, if_pos rfl, h2]
    simp

/-- a line of HTML: whether a list begins, how many blanks stand ahead, what stands behind (the class) -/
structure HLn where
  ul : Bool
  pad : Nat
  tail : List UInt8
def ulHead : List UInt8 := [60, 117, 108, 32, 99, 108, 97, 115, 115, 61, 34]
def HLn.text (C : List UInt8) (x : HLn) : List UInt8 := pad2 x.pad ++ ((if x.ul then ulHead ++ C else []) ++ x.tail)
def oLn (l : Nat) : HLn := ⟨true, l + 1, 45 :: (Lib.decDigits (l + 1) ++ [34, 62])⟩
def cLn (l : Nat) : HLn := ⟨false, l, [60, 47, 117, 108, 62]⟩
def iLn (l : Nat) (t : List UInt8) : HLn := ⟨false, l + 1, [60, 108, 105, 62] ++ (t ++ [60, 47, 108, 105, 62])⟩
def opensL : Nat → Nat → List HLn
  | _, 0 => []
  | a, n + 1 => oLn a :: opensL (a + 1) n
def closesL : Nat → Nat → List HLn
  | _, 0 => []
  | a, n + 1 => cLn a :: closesL (a - 1) n
def linL : Nat → List It → List HLn
  | lev, [] => closesL lev lev ++ [cLn 0]
  | lev, x :: t => opensL lev (x.1 - lev) ++ (closesL lev (lev - x.1) ++ (iLn x.1 x.2 :: linL x.1 t))
def topL : HLn := ⟨true, 0, [34, 62]⟩
def nl (C : List UInt8) (l : List HLn) : List UInt8 := (l.map (HLn.text C)).flatMap fun x => 10 :: x
theorem nl_app (C : List UInt8) (a b : List HLn) : nl C (a ++ b) = nl C a ++ nl C b := by simp [nl]
theorem nl_cons (C : List UInt8) (a : HLn) (b : List HLn) : nl C (a :: b) = 10 :: (a.text C ++ nl C b) := by simp [nl]
theorem nl_opens (C : List UInt8) : ∀ n a, nl C (opensL a n) = opens C a n
  | 0, a => rfl
  | n + 1, a => by
    rw [opensL, nl_cons, nl_opens C n (a + 1), opens, ulO]
    simp [HLn.text, oLn, ulHead]
theorem nl_closes (C : List UInt8) : ∀ n a, nl C (closesL a n) = closes a n
  | 0, a => rfl
  | n + 1, a => by
    rw [closesL, nl_cons, nl_closes C n (a - 1), closes, ulC]
    simp [HLn.text, cLn]
theorem nl_lin (C : List UInt8) : ∀ (l : List It) (lev : Nat), nl C (linL lev l) = lin C lev l
  | [], lev => by
    rw [linL, lin, nl_app, nl_closes]
    simp [nl, HLn.text, cLn, pad2, Lib.repeatL]
  | x :: t, lev => by
    rw [linL, lin, nl_app, nl_app, nl_cons, nl_opens, nl_closes, nl_lin C t x.1, liS]
    simp [HLn.text, iLn]
/-- a list of HTML whose class has nothing to escape, line by line -/
theorem html_linL (cls : List UInt8) (hC : escH cls = cls) (x : It) (t : List It) (h : okL (x :: t)) : htmlOf cls (x :: t) = topL.text cls ++ nl cls (linL 0 ((x :: t).map htI)) := by
  rw [html_lin cls hC x t h, nl_lin]
  simp [topL, HLn.text, ulHead, pad2, Lib.repeatL]

/-- a letter, a digit, a blank -/
def nameB (b : UInt8) : Prop := (97 ≤ b.toNat ∧ b.toNat ≤ 122) ∨ (65 ≤ b.toNat ∧ b.toNat ≤ 90) ∨ (48 ≤ b.toNat ∧ b.toNat ≤ 57) ∨ b.toNat = 32
theorem nameB_htB {l : List UInt8} (h : ∀ b ∈ l, nameB b) : l.flatMap htB = l := by
  induction l with
  | nil => rfl
  | cons b t ih =>
    have hb := h b (by simp)
    have e : htB b = [b] := by
      have ne : ∀ c : UInt8, ¬ nameB c → b ≠ c := fun c hc e => hc (e ▸ hb)
      unfold htB escB1
      rw [if_neg (ne _ (by unfold nameB; decide)), if_neg (ne _ (by unfold nameB; decide)), if_neg (ne _ (by unfold nameB; decide)), if_neg (ne _ (by unfold nameB; decide)), if_neg (ne _ (by unfold nameB; decide)), if_neg (ne _ (by unfold nameB; decide))]
    rw [List.flatMap_cons, e, ih (fun c hc => h c (by simp [hc]))]
    rfl
theorem nameB_htI {l : List It} (h : ∀ it ∈ l, ∀ b ∈ it.2, nameB b) : l.map htI = l := by
  induction l with
  | nil => rfl
  | cons x t ih =>
    rw [List.map_cons, ih (fun it hit => h it (by simp [hit]))]
    unfold htI
    rw [nameB_htB (h x (by simp))]

/-- bytes of a line -/
def lineB (b : UInt8) : Prop := b.toNat < 128 ∧ b ≠ 10
instance (b : UInt8) : Decidable (lineB b) := by unfold lineB; infer_instance
theorem nameB.line {b : UInt8} (h : nameB b) : lineB b := by
  refine ⟨by unfold nameB at h; omega, fun e => ?_⟩
  subst e
  revert h
  unfold nameB
  decide
theorem pad2_mem {n : Nat} : ∀ b ∈ pad2 n, b = 32 := by
  unfold pad2
  induction n with
  | zero => intro b hb; cases hb
  | succ n ih =>
    intro b hb
    rw [Lib.repeatL, List.mem_append] at hb
    rcases hb with hb | hb
    · simpa using hb
    · exact ih b hb
theorem digits_mem : ∀ (m n : Nat), n ≤ m → ∀ b ∈ Lib.decDigits n, 48 ≤ b.toNat ∧ b.toNat ≤ 57
  | m, n, hm => by
    intro b hb
    by_cases h10 : n < 10
    · rw [Lib.decDigits_one h10] at hb
      simp only [List.mem_singleton] at hb
      subst hb
      simp
      omega
    · cases m with
      | zero => omega
      | succ m =>
        rw [Lib.decDigits, dif_neg h10, List.mem_append] at hb
        rcases hb with hb | hb
        · exact digits_mem m (n / 10) (by omega) b hb
        · simp only [List.mem_singleton] at hb
          subst hb
          simp
          omega
theorem tail_o (l : Nat) : ∀ b ∈ (oLn l).tail, lineB b := by
  intro b hb
  simp only [oLn, List.mem_cons, List.mem_append, List.not_mem_nil, or_false] at hb
  rcases hb with rfl | hb | rfl | rfl
  · unfold lineB; decide
  · have := digits_mem _ _ (Nat.le_refl _) b hb
    refine ⟨by omega, fun e => ?_⟩
    subst e
    revert this
    decide
  · unfold lineB; decide
  · unfold lineB; decide
theorem tail_i (l : Nat) (t : List UInt8) (h : ∀ b ∈ t, nameB b) : ∀ b ∈ (iLn l t).tail, lineB b := by
  intro b hb
  simp only [iLn, List.mem_append] at hb
  have k : ∀ (x : List UInt8), (x.all fun b => decide (b.toNat < 128 ∧ b ≠ 10)) = true → b ∈ x → lineB b := fun x hx hb => by
    have := List.all_eq_true.1 hx b hb
    exact of_decide_eq_true this
  rcases hb with hb | hb | hb
  · exact k _ (by decide) hb
  · exact (h b hb).line
  · exact k _ (by decide) hb
theorem tails_lin : ∀ (l : List It) (lev : Nat), (∀ it ∈ l, ∀ b ∈ it.2, nameB b) → ∀ x ∈ linL lev l, ∀ b ∈ x.tail, lineB b := by
  have hc : ∀ n a, ∀ x ∈ closesL a n, ∀ b ∈ x.tail, lineB b := by
    intro n
    induction n with
    | zero => intro a x hx; cases hx
    | succ n ih =>
      intro a x hx
      rw [closesL, List.mem_cons] at hx
      rcases hx with rfl | hx
      · intro b hb
        have : ([60, 47, 117, 108, 62] : List UInt8).all (fun b => decide (b.toNat < 128 ∧ b ≠ 10)) = true := by decide
        exact of_decide_eq_true (List.all_eq_true.1 this b hb)
      · exact ih _ x hx
  have ho : ∀ n a, ∀ x ∈ opensL a n, ∀ b ∈ x.tail, lineB b := by
    intro n
    induction n with
    | zero => intro a x hx; cases hx
    | succ n ih =>
      intro a x hx
      rw [opensL, List.mem_cons] at hx
      rcases hx with rfl | hx
      · exact tail_o a
      · exact ih _ x hx
  intro l
  induction l with
  | nil =>
    intro lev _ x hx
    rw [linL, List.mem_append] at hx
    rcases hx with hx | hx
    · exact hc _ _ x hx
    · exact hc 1 0 x hx
  | cons y t ih =>
    intro lev h x hx
    rw [linL, List.mem_append, List.mem_append, List.mem_cons] at hx
    rcases hx with hx | hx | rfl | hx
    · exact ho _ _ x hx
    · exact hc _ _ x hx
    · exact tail_i _ _ (h y (by simp))
    · exact ih y.1 (fun it hit => h it (by simp [hit])) x hx
theorem text_line (C : List UInt8) (hC : ∀ b ∈ C, lineB b) (x : HLn) (h : ∀ b ∈ x.tail, lineB b) : ∀ b ∈ x.text C, lineB b := by
  intro b hb
  unfold HLn.text at hb
  rw [List.mem_append, List.mem_append] at hb
  rcases hb with hb | hb | hb
  · rw [pad2_mem b hb]
    unfold lineB; decide
  · split at hb
    · rw [List.mem_append] at hb
      rcases hb with hb | hb
      · have : ulHead.all (fun b => decide (b.toNat < 128 ∧ b ≠ 10)) = true := by decide
        exact of_decide_eq_true (List.all_eq_true.1 this b hb)
      · exact hC b hb
    · cases hb
  · exact h b hb
/-- the lines of a list of HTML of names -/
theorem html_lines_of (C : List UInt8) (hC : ∀ b ∈ C, lineB b) (l : List HLn) (h : ∀ x ∈ l, ∀ b ∈ x.tail, lineB b) : linesR [] (runesL (topL.text C ++ nl C l)) = (topL :: l).map (HLn.text C) := by
  have hl : ∀ s ∈ topL.text C :: l.map (HLn.text C), ∀ b ∈ s, b.toNat < 128 ∧ b ≠ 10 := by
    intro s hs
    rcases List.mem_cons.1 hs with rfl | hs
    · refine text_line C hC topL ?_
      intro b hb
      have : ([34, 62] : List UInt8).all (fun b => decide (b.toNat < 128 ∧ b ≠ 10)) = true := by decide
      exact of_decide_eq_true (List.all_eq_true.1 this b hb)
    · obtain ⟨x, hx, rfl⟩ := List.mem_map.1 hs
      exact text_line C hC x (h x hx)
  rw [runesL_asc _ ?_]
  · exact lines_of _ _ hl
  · intro b hb
    unfold nl at hb
    rw [List.mem_append, List.mem_flatMap] at hb
    rcases hb with hb | ⟨s, hs, hb⟩
    · exact (hl _ (by simp) b hb).1
    · rcases List.mem_cons.1 hb with rfl | hb
      · decide
      · exact (hl s (by simp [hs]) b hb).1
end Go.Proofs.YthjpchabeemfmaaGreatDoor
