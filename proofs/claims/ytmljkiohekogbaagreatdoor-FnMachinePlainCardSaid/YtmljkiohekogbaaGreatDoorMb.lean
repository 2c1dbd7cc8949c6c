import Derived.Test.YtmljkiohekogbaaGreatDoorMa
namespace Go.Proofs.YtmljkiohekogbaaGreatDoor
open Go.RowKit
set_option linter.unusedVariables false
set_option linter.unusedSimpArgs false
set_option maxHeartbeats 2000000
set_option maxRecDepth 100000

/-! ### rising, and how many -/
theorem proc_rise {n : Int} {c : List Int} (h : Rise c) : Rise (procCode n c) := by
  unfold procCode
  repeat' split
  all_goals first | exact List.Pairwise.nil | exact h.ins | exact h | exact h.del.del | exact h.del | exact h.delR.delR.delR
theorem proc_len (n : Int) (c : List Int) : (procCode n c).length ≤ c.length + 1 := by
  have d : ∀ x (l : List Int), (delC x l).length ≤ l.length := delC_le
  have r : ∀ a b (l : List Int), (delR a b l).length ≤ l.length := delR_le
  have d2 := fun x y => Nat.le_trans (d x (delC y c)) (d y c)
  have r3 := fun a b a' b' a'' b'' => Nat.le_trans (r a b (delR a' b' (delR a'' b'' c))) (Nat.le_trans (r a' b' (delR a'' b'' c)) (r a'' b'' c))
  unfold procCode
  repeat' split
  all_goals first | exact insC_le _ _ | exact Nat.le_succ_of_le (d2 _ _) | exact Nat.le_succ_of_le (r3 _ _ _ _ _ _) | exact Nat.le_succ_of_le (d _ _) | (simp; done)
theorem set256_rise {b k : Int} {c : List Int} (h : Rise c) : Rise (set256 b k c) := List.Pairwise.filter _ h.ins
theorem set256_len (b k : Int) (c : List Int) : (set256 b k c).length ≤ c.length + 1 := Nat.le_trans (List.length_filter_le _ _) (insC_le _ _)
theorem clear_rise {f : Bool} {c : List Int} (h : Rise c) : Rise (clearRange f c) := by
  unfold clearRange
  split
  · exact h.delR.delR
  · exact h.delR.delR
theorem clear_len (f : Bool) (c : List Int) : (clearRange f c).length ≤ c.length := by
  unfold clearRange
  split
  · exact Nat.le_trans (delR_le _ _ _) (delR_le _ _ _)
  · exact Nat.le_trans (delR_le _ _ _) (delR_le _ _ _)
section
variable (atoi : List UInt8 → Option Int)
theorem all_rise : ∀ (f : Nat) (l : List (List UInt8)) (c : List Int), Rise c → Rise (all256 atoi f l c).1
  | 0, _, _, h => h
  | _ + 1, [], _, h => h
  | f + 1, x :: t, c, h => by
    unfold all256
    split
    · exact all_rise f _ _ (clear_rise (set256_rise h))
    · exact all_rise f _ _ h
theorem par256_three {l : List (List UInt8)} {q : Int × Int} (h : par256 atoi l = some q) : 3 ≤ l.length := by
  match l with
  | [] => simp [par256] at h
  | [_] => simp [par256] at h
  | [_, _] => simp [par256] at h
  | _ :: _ :: _ :: _ => simp
theorem all_len : ∀ (f : Nat) (l : List (List UInt8)) (c : List Int), (all256 atoi f l c).1.length ≤ c.length + l.length
  | 0, _, _ => by simp [all256]
  | _ + 1, [], _ => by simp [all256]
  | f + 1, x :: t, c => by
    unfold all256
    split
    · rename_i k b hp
      have h3 := par256_three atoi hp
      simp only [List.length_cons] at h3
      have := all_len f (t.drop 2) (clearRange (b == 1000) (set256 b k c))
      have := clear_len (b == 1000) (set256 b k c)
      have := set256_len b k c
      have hd : (t.drop 2).length = t.length - 2 := List.length_drop
      simp only [List.length_cons]
      omega
    · have := all_len f t c
      simp only [List.length_cons]
      omega
theorem regular_rise : ∀ (l : List (List UInt8)) (m : List Bool) (c : List Int), Rise c → Rise (regular atoi l m c)
  | [], _, _, h => h
  | x :: t, m, c, h => by
    unfold regular
    refine regular_rise t _ _ ?_
    split
    · exact h
    · split
      · exact h
      · exact proc_rise h
theorem regular_len : ∀ (l : List (List UInt8)) (m : List Bool) (c : List Int), (regular atoi l m c).length ≤ c.length + l.length
  | [], _, _ => by simp [regular]
  | x :: t, m, c => by
    unfold regular
    refine Nat.le_trans (regular_len t _ _) ?_
    simp only [List.length_cons]
    split
    · omega
    · split
      · omega
      · have := proc_len ‹Int› c; omega
theorem splitX_len (x : UInt8) : ∀ s : List UInt8, (splitX x s).length ≤ s.length + 1 ∧ 0 < (splitX x s).length
  | [] => by simp [splitX]
  | b :: t => by
    have := splitX_len x t
    unfold splitX
    split
    · simp only [List.length_cons]; omega
    · split
      · rename_i e; rw [e] at this; simp at this
      · rename_i l r e; rw [e] at this; simp only [List.length_cons] at this ⊢; omega
theorem splitX_each (x : UInt8) : ∀ (s : List UInt8), ∀ l ∈ splitX x s, l.length ≤ s.length
  | [], l, h => by simp [splitX] at h; simp [h]
  | b :: t, l, h => by
    have ih := splitX_each x t
    unfold splitX at h
    split at h
    · rcases List.mem_cons.1 h with rfl | h
      · simp
      · have := ih l h; simp only [List.length_cons]; omega
    · split at h
      · simp only [List.mem_singleton] at h; subst h; simp
      · rename_i l' r e
        rcases List.mem_cons.1 h with rfl | h
        · have := ih l' (by rw [e]; simp); simp only [List.length_cons]; omega
        · have := ih l (by rw [e]; simp [h]); simp only [List.length_cons]; omega
theorem strike1_len (old s : List UInt8) : (strike1 old s).length ≤ s.length := by
  unfold strike1
  split
  · exact Nat.le_refl _
  · simp only [List.length_append, List.length_take, List.length_drop]; omega
theorem stripSeq_len (k : Int) (s : List UInt8) : (stripSeq k s).length ≤ s.length := by
  unfold stripSeq
  split
  · exact Nat.le_trans (strike1_len _ _) (strike1_len _ _)
  · exact Nat.le_trans (strike1_len _ _) (strike1_len _ _)
variable (trim : List UInt8 → List UInt8)
theorem parseSeq_rise (s : List UInt8) (k : Int) {c : List Int} (h : Rise c) : Rise (parseSeq atoi trim s k c) := regular_rise atoi _ _ _ (all_rise atoi _ _ _ h)
theorem parseSeq_len (s : List UInt8) (k : Int) (c : List Int) : (parseSeq atoi trim s k c).length ≤ c.length + 2 * (s.length + 1) := by
  unfold parseSeq parsePieces
  refine Nat.le_trans (regular_len atoi _ _ _) ?_
  have h1 := all_len atoi ((splitX 59 (stripSeq k s)).map trim).length ((splitX 59 (stripSeq k s)).map trim) c
  have h2 := (splitX_len 59 (stripSeq k s)).1
  have h3 := stripSeq_len k s
  rw [List.length_map] at h1 ⊢
  omega
/-- what holds of a parser between characters -/
structure POk (p : PSt) (n : Nat) : Prop where
  rise : Rise p.codes
  few : p.codes.length ≤ n
  short : p.esc.length ≤ 2048
  shut : p.inn = false → p.kind = 0 ∧ p.esc = []
theorem POk.opened {p : PSt} {n : Nat} (h : POk p n) (r : Int) : Rise (p.opened r).codes ∧ (p.opened r).codes = p.codes ∧ (p.opened r).esc.length ≤ 2048 ∧ ((p.opened r).inn = false → p.opened r = p) := by
  unfold PSt.opened
  repeat' split
  all_goals first | exact ⟨h.rise, rfl, by simp, fun e => by cases e⟩ | exact ⟨h.rise, rfl, h.short, fun _ => rfl⟩ | (rename_i h1 _ _; exact ⟨h.rise, rfl, h.short, fun e => by have := h1.1; simp_all⟩) | (rename_i h1 _; exact ⟨h.rise, rfl, h.short, fun e => by have := h1.1; simp_all⟩)
theorem POk.consume {p : PSt} {n : Nat} (h : POk p n) (r : Int) : POk (p.consume atoi trim r) (n + 4098) := by
  obtain ⟨h1, h2, h3, h4⟩ := h.opened r
  unfold PSt.consume
  simp only
  split
  · rename_i e
    rw [h4 e]
    exact ⟨h.rise, Nat.le_trans h.few (by omega), h.short, h.shut⟩
  · split
    · exact ⟨h1, by show (p.opened r).codes.length ≤ _; rw [h2]; have := h.few; omega, by simp [PSt.reset], fun _ => ⟨rfl, rfl⟩⟩
    · rename_i hl
      split
      · refine ⟨parseSeq_rise atoi trim _ _ h1, ?_, by simp [PSt.reset], fun _ => ⟨rfl, rfl⟩⟩
        have := parseSeq_len atoi trim ((p.opened r).esc ++ Lib.encodeRune r) (p.opened r).kind (p.opened r).codes
        rw [h2] at this
        have := h.few
        show (parseSeq atoi trim ((p.opened r).esc ++ Lib.encodeRune r) (p.opened r).kind (p.opened r).codes).length ≤ _
        rw [h2]
        omega
      · rename_i hne _
        exact ⟨h1, by show (p.opened r).codes.length ≤ _; rw [h2]; have := h.few; omega, by show ((p.opened r).esc ++ Lib.encodeRune r).length ≤ _; omega, fun e => absurd e hne⟩
theorem POk.fold : ∀ (rs : List Int) {p : PSt} {n : Nat}, POk p n → POk (rs.foldl (PSt.consume atoi trim) p) (n + 4098 * rs.length)
  | [], p, n, h => by simpa using h
  | r :: t, p, n, h => by
    have := POk.fold t (h.consume atoi trim r)
    simp only [List.foldl_cons, List.length_cons]
    have e : n + 4098 * (t.length + 1) = n + 4098 + 4098 * t.length := by omega
    rw [e]
    exact this
theorem POk.resets {p : PSt} {n : Nat} (h : POk p n) : POk p.reset n := ⟨h.rise, h.few, by simp [PSt.reset], fun _ => ⟨rfl, rfl⟩⟩
theorem POk.same {p : PSt} {n : Nat} (h : POk p n) (e : p.inn = false) : p.reset = p := by
  obtain ⟨h1, h2⟩ := h.shut e
  cases p
  simp only [PSt.reset] at *
  subst e h1 h2
  rfl
theorem parse_two {p : PSt} {n : Nat} (h : POk p n) (a b : List Int) (e : (p.parse atoi trim a).inn = false) : (p.parse atoi trim a).parse atoi trim b = p.parse atoi trim (a ++ b) := by
  have h2 : POk (p.parse atoi trim a) _ := h.resets.fold atoi trim a
  unfold PSt.parse at *
  rw [h2.same e, List.foldl_append]

/-! ### when a parser is in a sequence -/
def inStep (q : Bool × Bool) (r : Int) : Bool × Bool :=
  if q.1 = false ∧ r = 27 then (true, false) else if q.1 = true ∧ q.2 = false ∧ r = 91 then (q.1, true) else if q.1 = true ∧ q.2 = true ∧ r = 109 then (false, q.2) else q
def inL : List Int → Bool × Bool → List Bool
  | [], _ => []
  | r :: t, q => (inStep q r).1 :: inL t (inStep q r)
def statesL : List Int → PSt → List PSt
  | [], _ => []
  | r :: t, p => p.consume atoi trim r :: statesL t (p.consume atoi trim r)
structure InOk (p : PSt) (q : Bool × Bool) (n : Nat) : Prop where
  inn : p.inn = q.1
  kind : q.1 = true → p.kind = if q.2 then 1 else 0
  esc : q.1 = true → (∀ b ∈ p.esc, b ≠ 93) ∧ p.esc.length ≤ n
theorem no_conceal {e : List UInt8} (h : ∀ b ∈ e, b ≠ 93) : conceal.isPrefixOf e = false := by
  match e with
  | [] => rfl
  | [a] => simp [conceal, List.isPrefixOf]
  | a :: b :: t =>
    have := h b (by simp)
    have e2 : ((93 : UInt8) == b) = false := by rw [beq_eq_false_iff_ne]; exact fun e => this e.symm
    simp [conceal, List.isPrefixOf, e2]
theorem InOk.step {p : PSt} {q : Bool × Bool} {n : Nat} (h : InOk p q n) (r : Int) (hr : r ≠ 93) (hb : ∀ b ∈ Lib.encodeRune r, b ≠ 93) (hn : n + (Lib.encodeRune r).length ≤ 2048) :
    InOk (p.consume atoi trim r) (inStep q r) (n + (Lib.encodeRune r).length) := by
  obtain ⟨i, o⟩ := q
  obtain ⟨h1, h2, h3⟩ := h
  simp only at h1 h2 h3
  cases i with
  | false =>
    by_cases e : r = 27
    · subst e
      have ho : p.opened 27 = { p with inn := true, kind := 0, esc := [] } := by unfold PSt.opened; rw [if_pos ⟨h1, rfl⟩]
      have he : Lib.encodeRune 27 = [27] := by decide
      have hs : inStep (false, o) 27 = (true, false) := rfl
      rw [hs]
      have hc : p.consume atoi trim 27 = { p with inn := true, kind := 0, esc := [27] } := by
        unfold PSt.consume
        rw [ho, he]
        simp [stopRune, conceal, List.isPrefixOf]
      rw [hc]
      exact ⟨rfl, fun _ => rfl, fun _ => ⟨by intro b hb; simp at hb; subst hb; decide, by rw [he]; simp⟩⟩
    · have ho : p.opened r = p := by unfold PSt.opened; rw [if_neg (fun x => e x.2), if_neg (fun x => by rw [h1] at x; exact absurd x.1 (by simp))]
      have hs : inStep (false, o) r = (false, o) := by unfold inStep; simp [e]
      have hc : p.consume atoi trim r = p := by unfold PSt.consume; rw [ho]; simp [h1]
      rw [hs, hc]
      exact ⟨h1, fun x => by simp at x, fun x => by simp at x⟩
  | true =>
    obtain ⟨h4, h5⟩ := h3 rfl
    have h2 := h2 rfl
    have hne : ∀ b ∈ p.esc ++ Lib.encodeRune r, b ≠ 93 := fun b hm => by
      rcases List.mem_append.1 hm with hm | hm
      · exact h4 b hm
      · exact hb b hm
    have hlen : ¬ 2048 < (p.esc ++ Lib.encodeRune r).length := by rw [List.length_append]; omega
    have hlen2 : (p.esc ++ Lib.encodeRune r).length ≤ n + (Lib.encodeRune r).length := by rw [List.length_append]; omega
    have hcon := no_conceal hne
    cases o with
    | false =>
      have hk : p.kind = 0 := h2
      by_cases e : r = 91
      · subst e
        have ho : p.opened 91 = { p with kind := 1 } := by unfold PSt.opened; rw [if_neg (fun x => by rw [h1] at x; exact absurd x.1 (by simp)), if_pos ⟨h1, hk⟩, if_pos rfl]
        have hc : p.consume atoi trim 91 = { p with kind := 1, esc := p.esc ++ Lib.encodeRune 91 } := by
          unfold PSt.consume
          rw [ho]
          simp only
          rw [if_neg (by rw [h1]; simp), if_neg hlen, if_neg (by unfold stopRune; rw [hcon]; simp)]
        have hs : inStep (true, false) 91 = (true, true) := rfl
        rw [hc, hs]
        exact ⟨h1, fun _ => rfl, fun _ => ⟨hne, hlen2⟩⟩
      · have ho : p.opened r = p := by unfold PSt.opened; rw [if_neg (fun x => by rw [h1] at x; exact absurd x.1 (by simp)), if_pos ⟨h1, hk⟩, if_neg e, if_neg hr]
        have hc : p.consume atoi trim r = { p with esc := p.esc ++ Lib.encodeRune r } := by
          unfold PSt.consume
          rw [ho]
          simp only
          rw [if_neg (by rw [h1]; simp), if_neg hlen, if_neg (by unfold stopRune; rw [hcon, hk]; simp)]
        have hs : inStep (true, false) r = (true, false) := by unfold inStep; simp [e]
        rw [hc, hs]
        exact ⟨h1, fun _ => h2, fun _ => ⟨hne, hlen2⟩⟩
    | true =>
      have hk : p.kind = 1 := h2
      have ho : p.opened r = p := by unfold PSt.opened; rw [if_neg (fun x => by rw [h1] at x; exact absurd x.1 (by simp)), if_neg (fun x => by rw [hk] at x; exact absurd x.2 (by decide))]
      by_cases e : r = 109
      · subst e
        have hc : p.consume atoi trim 109 = ({ p with codes := parseSeq atoi trim (p.esc ++ Lib.encodeRune 109) p.kind p.codes }).reset := by
          unfold PSt.consume
          rw [ho]
          simp only
          rw [if_neg (by rw [h1]; simp), if_neg hlen, if_pos (by unfold stopRune; rw [hcon, hk]; simp)]
        have hs : inStep (true, true) 109 = (false, true) := rfl
        rw [hc, hs]
        exact ⟨rfl, fun x => by simp at x, fun x => by simp at x⟩
      · have hc : p.consume atoi trim r = { p with esc := p.esc ++ Lib.encodeRune r } := by
          unfold PSt.consume
          rw [ho]
          simp only
          rw [if_neg (by rw [h1]; simp), if_neg hlen, if_neg (by unfold stopRune; rw [hcon, hk]; simp [e])]
        have hs : inStep (true, true) r = (true, true) := by unfold inStep; simp [e]
        rw [hc, hs]
        exact ⟨h1, fun _ => h2, fun _ => ⟨hne, hlen2⟩⟩
theorem in_law : ∀ (rs : List Int) (p : PSt) (q : Bool × Bool) (n : Nat), InOk p q n → (∀ r ∈ rs, r ≠ 93 ∧ ∀ b ∈ Lib.encodeRune r, b ≠ 93) → n + (encs rs).length ≤ 2048 → (statesL atoi trim rs p).map PSt.inn = inL rs q
  | [], _, _, _, _, _, _ => rfl
  | r :: t, p, q, n, h, hr, hn => by
    have hl : (encs (r :: t)).length = (Lib.encodeRune r).length + (encs t).length := by unfold encs; rw [List.flatMap_cons, List.length_append]
    rw [hl] at hn
    have hs := h.step atoi trim r (hr r (by simp)).1 (hr r (by simp)).2 (by omega)
    simp only [statesL, inL, List.map_cons]
    rw [hs.inn, in_law t _ _ _ hs (fun x hx => hr x (List.mem_cons_of_mem _ hx)) (by omega)]
end
end Go.Proofs.YtmljkiohekogbaaGreatDoor
