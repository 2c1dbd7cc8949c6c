import Derived.Test.YthjpchabeemfmaaGreatDoorDe
import Derived.Test.YthjpchabeemfmaaGreatDoorGk
namespace Go.Proofs.YthjpchabeemfmaaGreatDoor
open Go.RowKit
set_option linter.unusedVariables false
set_option linter.unusedSimpArgs false
set_option maxHeartbeats 4000000
set_option maxRecDepth 100000
attribute [local go_sem] S_extract S_append run_cut_S run_head_S run_tail_S Nat.add_sub_cancel_left

/-- a style whose texts are short -/
structure ShortSt (s : Sty) : Prop where
  single : s.single.length ≤ 20
  top : s.top.length ≤ 20
  first : s.first.length ≤ 20
  middle : s.middle.length ≤ 20
  vert : s.vert.length ≤ 20
  bottom : s.bottom.length ≤ 20
  newline : s.newline.length ≤ 20
  pre : s.pre.length ≤ 20
theorem spacesF_len {s : Sty} (h : ShortSt s) : (spacesF s).length ≤ 20 := by
  have := Lib.runeCount_le ⟨s.vert.toArray⟩
  rw [S_size] at this
  unfold spacesF
  rw [List.length_replicate]
  have := h.vert
  omega
theorem links_len {v sp : List UInt8} (hv : v.length ≤ 20) (hs : sp.length ≤ 20) (t : List It) : ∀ n l, (linksF v sp t l n).length ≤ 20 * n
  | 0, l => by simp [linksF]
  | n + 1, l => by
    have := links_len hv hs t n (l + 1)
    rw [linksF, List.length_append]
    split <;> omega
theorem mark_len {s : Sty} (h : ShortSt s) (hn : Hint) (k : Nat) : (markF s (spacesF s) hn k).length ≤ 21 := by
  have h1 := spacesF_len h
  obtain ⟨a, b, c, d, e, f, g, i⟩ := h
  unfold markF bulletF
  repeat' split
  all_goals try simp only [List.length_append, List.length_cons, List.length_nil]
  all_goals omega
theorem lines_len {s : Sty} (h : ShortSt s) (hn : Hint) (ah : List UInt8) (m : Nat) (ha : ah.length ≤ m) : ∀ (ls : List (List UInt8)) (k n : Nat), (∀ l ∈ ls, l.length ≤ n) → (linesF s (spacesF s) hn ah k ls).length ≤ ls.length * (m + n + 22)
  | [], k, n, _ => by simp [linesF]
  | l :: r, k, n, hl => by
    have ih := lines_len h hn ah m ha r (k + 1) n (fun x hx => hl x (by simp [hx]))
    have h1 := mark_len h hn k
    have h2 := hl l (by simp)
    rw [linesF]
    simp only [List.length_append, List.length_cons, Nat.succ_mul]
    split <;> (try simp only [List.length_cons, List.length_nil]) <;> omega
theorem splitN_each : ∀ (l : List UInt8), ∀ x ∈ splitN l, x.length ≤ l.length
  | [], x, h => by simp [splitN] at h; simp [h]
  | b :: t, x, h => by
    have ih := splitN_each t
    unfold splitN at h
    split at h
    · rcases List.mem_cons.1 h with rfl | h
      · simp
      · have := ih x h; simp only [List.length_cons]; omega
    · split at h
      · simp only [List.mem_singleton] at h
        subst h
        simp
      · rename_i l r e
        rcases List.mem_cons.1 h with rfl | h
        · have := ih l (by rw [e]; simp)
          simp only [List.length_cons]; omega
        · have := ih x (by rw [e]; simp [h])
          simp only [List.length_cons]; omega
theorem textF_len {s : Sty} (h : ShortSt s) (t : List UInt8) : (textF s t).length ≤ 20 * t.length := by
  have hn := h.newline
  unfold textF
  split
  · omega
  · rw [repAll_one]
    exact flatMap_len _ 20 (fun b => by split <;> (try simp only [List.length_cons, List.length_nil]) <;> omega) t
theorem item_len {s : Sty} (h : ShortSt s) (prev : Option Nat) (x : It) (t : List It) (h1 : x.1 ≤ 200) (h2 : x.2.length ≤ 200) : (itemF s (spacesF s) prev x t).length ≤ 40000000 := by
  have ht := textF_len h x.2
  have hsn := splitN_len (textF s x.2)
  have ha : (aheadF s (spacesF s) x t).length ≤ 4020 := by
    have := links_len h.vert (spacesF_len h) t x.1 0
    have := h.pre
    unfold aheadF
    rw [List.length_append]
    omega
  have hl := lines_len h (hintF prev x t) _ 4020 ha (splitN (textF s x.2)) 0 4000 (fun l hl => by have := splitN_each _ l hl; omega)
  have hm : (splitN (textF s x.2)).length * (4020 + 4000 + 22) ≤ 4001 * (4020 + 4000 + 22) := Nat.mul_le_mul_right _ (by omega)
  unfold itemF
  rw [List.length_append]
  split <;> (try simp only [List.length_cons, List.length_nil]) <;> omega
theorem out_len {s : Sty} (h : ShortSt s) : ∀ (l : List It) (prev : Option Nat), (∀ it ∈ l, it.1 ≤ 200 ∧ it.2.length ≤ 200) → (outF s (spacesF s) prev l).length ≤ 40000000 * l.length
  | [], prev, _ => by simp [outF]
  | x :: t, prev, hi => by
    have ih := out_len h t (some x.1) (fun it hit => hi it (by simp [hit]))
    have h1 := item_len h prev x t (hi x (by simp)).1 (hi x (by simp)).2
    rw [outF, List.length_append, List.length_cons]
    omega
theorem dfl_short : ShortSt dfl := ⟨by decide, by decide, by decide, by decide, by decide, by decide, by decide, by decide⟩
theorem steps_short (l : List Stp) (hl : l.length ≤ 200) (hok : ∀ p ∈ l, StSh p) : (playK l l.length).1.length ≤ 2000 ∧ ∀ it ∈ (playK l l.length).1, it.1 ≤ 200 ∧ it.2.length ≤ 200 := by
  obtain ⟨h1, h2, h3⟩ := playK_inv l (fun t => t.length ≤ 200) (fun p hp => ⟨(hok p hp).2.2.1, (hok p hp).1, fun t ht => ((hok p hp).2.2.2 t ht).1⟩) l.length (Nat.le_refl _)
  exact ⟨by omega, fun it hi => by have := h3 it hi; omega⟩

end Go.Proofs.YthjpchabeemfmaaGreatDoor
