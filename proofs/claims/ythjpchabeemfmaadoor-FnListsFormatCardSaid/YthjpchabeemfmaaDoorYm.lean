import Derived.Shelf.Strings.MapGrows
namespace Go.Proofs.YthjpchabeemfmaaDoor
open Go.Shelf Go.RowKit Go.Lib
set_option linter.unusedVariables false
set_option linter.unusedSimpArgs false
variable {P : Program} {ρ : Ren}

/-- From block B on the world W' has what W had; the streams are as they were. -/
structure Above (B : Nat) (W W' : World) : Prop where
  os : W'.os = W.os
  tape : W'.tape = W.tape
  output : W'.output = W.output
  size : W.heap.size ≤ W'.heap.size
  block : ∀ k, B ≤ k → k < W.heap.size → W'.heap[k]? = W.heap[k]?
theorem Above.at {B : Nat} {W W' : World} (h : Above B W W') {k : Nat} {o : Obj} (hB : B ≤ k) (hk : W.heap[k]? = some o) : W'.heap[k]? = some o :=
  (h.block k hB (Array.getElem?_eq_some_iff.1 hk).1).trans hk
theorem Above.builder {T e : TypeId} {B b : Nat} {bs : List Value} {W W' : World} (h : Above B W W') (hb : IsBuilderF T e B b bs W) : IsBuilderF T e B b bs W' := by
  have one : ∀ p, BuilderAtF T e B b p bs W → BuilderAtF T e B b p bs W' := by
    rintro p ⟨hB, v, hv, hown, hne⟩
    refine ⟨hB, v, h.at hB hv, ⟨hown.1, ?_⟩, hne⟩
    rcases hown.2 with hn | ⟨g, cap, cur, fz, hx, hbg, hg, rest⟩
    · exact .inl hn
    · exact .inr ⟨g, cap, cur, fz, hx, hbg, h.at hbg hg, rest⟩
  exact hb.elim (fun x => .inl (one _ x)) (fun x => .inr (one _ x))

/-- A text, rune by rune, by a function that keeps a state. -/
def mapSG {σ : Type} (F : σ → Int → Int × σ) : Nat → σ → List UInt8 → List UInt8
  | 0, _, _ => []
  | n + 1, c, l => if l = [] then [] else encodeRune (F c (decodeL l).1).1 ++ mapSG F n (F c (decodeL l).1).2 (l.drop (decodeL l).2)
def mapS {σ : Type} (F : σ → Int → Int × σ) (c : σ) (l : List UInt8) : List UInt8 := mapSG F l.length c l
theorem mapSG_nil {σ : Type} (F : σ → Int → Int × σ) (n : Nat) (c : σ) : mapSG F n c [] = [] := by cases n <;> simp [mapSG]
theorem mapS_nil {σ : Type} (F : σ → Int → Int × σ) (c : σ) : mapS F c [] = [] := rfl
theorem mapSG_fuel {σ : Type} (F : σ → Int → Int × σ) : ∀ (n m : Nat) (c : σ) (l : List UInt8), l.length ≤ n → l.length ≤ m → mapSG F n c l = mapSG F m c l
  | n, m, c, [], _, _ => by rw [mapSG_nil, mapSG_nil]
  | 0, _, _, _ :: _, h, _ => by simp at h
  | _ + 1, 0, _, _ :: _, _, h => by simp at h
  | n + 1, m + 1, c, x :: l, hn, hm => by
    have hw := decodeL_width (x :: l)
    have hl : 0 < (x :: l).length := by simp
    simp only [mapSG, if_neg (List.cons_ne_nil x l)]
    rw [mapSG_fuel F n m _ _ (by rw [List.length_drop]; omega) (by rw [List.length_drop]; omega)]
theorem mapS_step {σ : Type} (F : σ → Int → Int × σ) (c : σ) (l : List UInt8) (hne : l ≠ []) :
    mapS F c l = encodeRune (F c (decodeL l).1).1 ++ mapS F (F c (decodeL l).1).2 (l.drop (decodeL l).2) := by
  obtain ⟨x, r, rfl⟩ : ∃ x r, l = x :: r := by cases l with | nil => exact absurd rfl hne | cons x r => exact ⟨x, r, rfl⟩
  have hw := decodeL_width (x :: r)
  have hl : 0 < (x :: r).length := by simp
  show mapSG F (r.length + 1) c (x :: r) = _
  simp only [mapSG, if_neg (List.cons_ne_nil x r)]
  rw [mapSG_fuel F r.length _ _ _ (by rw [List.length_drop]; simp; omega) (Nat.le_refl _)]
  rfl
theorem mapS_same {σ : Type} (F : σ → Int → Int × σ) (c : σ) (l : List UInt8) (hne : l ≠ []) (hf : (F c (decodeL l).1).1 = (decodeL l).1) (hv : ¬ ((decodeL l).1 = 65533 ∧ (decodeL l).2 = 1)) :
    mapS F c l = l.take (decodeL l).2 ++ mapS F (F c (decodeL l).1).2 (l.drop (decodeL l).2) := by
  rw [mapS_step F c l hne, hf, encode_decode l hne hv]
theorem enc_len (r : Int) : 1 ≤ (encodeRune r).length ∧ (encodeRune r).length ≤ 4 := by
  unfold encodeRune encodeRuneZ
  rw [List.length_map]
  constructor <;> (repeat' split) <;> simp

/-- One rune of a text at a place: what 'next' gives, and how the text goes on. -/
theorem runeAt {σ : Type} (F : σ → Int → Int × σ) (c : σ) (s : ByteArray) (pos : Nat) (hlt : pos < s.size) :
    ∃ R K : Nat, Utf8.decode s pos = (R, K) ∧ 1 ≤ K ∧ pos + K ≤ s.size ∧ R ≤ 1114111 ∧ decodeL (s.data.toList.drop pos) = (R, K) ∧
      mapS F c (s.data.toList.drop pos) = encodeRune (F c R).1 ++ mapS F (F c R).2 (s.data.toList.drop (pos + K)) ∧
      ((F c R).1 = R → ¬ (R = 65533 ∧ K = 1) → mapS F c (s.data.toList.drop pos) = (s.data.toList.drop pos).take K ++ mapS F (F c R).2 (s.data.toList.drop (pos + K))) := by
  have hlen : s.data.toList.length = s.size := (size_eq s).symm
  have hne : s.data.toList.drop pos ≠ [] := by
    intro h0
    have := congrArg List.length h0
    rw [List.length_drop, hlen] at this
    simp at this
    omega
  have hd := decodeL_drop s pos
  refine ⟨(Utf8.decode s pos).1, (Utf8.decode s pos).2, rfl, width_pos s pos, ?_, rune_le s pos, hd, ?_, ?_⟩
  · have := decodeL_le _ hne
    rw [hd, List.length_drop, hlen] at this
    omega
  · have := mapS_step F c _ hne
    rw [hd, List.drop_drop] at this
    exact this
  · intro h1 h2
    have := mapS_same F c (s.data.toList.drop pos) hne
    rw [hd, List.drop_drop] at this
    exact this h1 h2
#print axioms runeAt
end Go.Proofs.YthjpchabeemfmaaDoor
