import Derived.Test.YtbbmboklpfjliaaF
import Derived.Lib.Join
namespace Go.Proofs.Ytbbmboklpfjliaa
open Go.RowKit
set_option linter.unusedVariables false
set_option linter.unusedSimpArgs false
set_option maxHeartbeats 4000000
set_option maxRecDepth 100000

theorem repAllF_len {old new : List UInt8} (ho : old ≠ []) : ∀ (f : Nat) (s : List UInt8), (repAllF old new f s).length ≤ s.length + s.length * new.length
  | 0, s => by simp [repAllF]
  | f + 1, s => by
    unfold repAllF
    split
    · omega
    · rename_i i hi
      have hb := zIdx_bound hi
      have hl := repAllF_len (new := new) ho f (s.drop (i + old.length))
      have ho1 := List.length_pos_iff.2 ho
      have h1 : (s.length - (i + old.length)) * new.length + new.length ≤ s.length * new.length := by
        have : (s.length - (i + old.length)) + 1 ≤ s.length := by omega
        calc (s.length - (i + old.length)) * new.length + new.length = ((s.length - (i + old.length)) + 1) * new.length := by rw [Nat.add_mul, Nat.one_mul]
          _ ≤ s.length * new.length := Nat.mul_le_mul_right _ this
      simp only [List.length_append, List.length_take, List.length_drop] at hl ⊢
      omega
theorem repAll_len {old new : List UInt8} (ho : old ≠ []) (s : List UInt8) : (repAll old new s).length ≤ s.length + s.length * new.length := repAllF_len ho _ _

theorem seq1_len (c : Nat) (h : c < 1000) : (seq1 c).length ≤ 23 := by
  have := decDigits_len c (by omega)
  simp [seq1]; omega
theorem seq1_ne (c : Nat) : ((seq1 c == []) = false) := by simp [seq1]

theorem Escape_small (s q : List UInt8) (w : World) (hs : s.length ≤ 1000000) (hq : q.length ≤ 1000) :
    Calls Try.prog 22 #[.string ⟨s.toArray⟩, .string ⟨q.toArray⟩] w fun e w' => e = .returned (.string ⟨(esc s q).toArray⟩) ∧ Below w.heap.size w w' := by
  refine Escape_calls s q w (by omega) (by omega) ?_
  have h := repAll_len (new := 27 :: 91 :: 48 :: 109 :: q) (old := [27, 91, 48, 109]) (by simp) s
  have h2 : s.length * (27 :: 91 :: 48 :: 109 :: q).length ≤ 1000000 * 1004 := Nat.mul_le_mul hs (by simp; omega)
  omega

theorem colorize_calls (s : List UInt8) (c : Nat) (w : World) (hs : s.length ≤ 1000000) (hc : c < 1000) :
    Calls Try.prog 19 #[.string ⟨s.toArray⟩, .string ⟨(seq1 c).toArray⟩] w fun e w' => e = .returned (.string ⟨(esc s (seq1 c)).toArray⟩) ∧ Below w.heap.size w w' := by
  have K := hid (fun w => Escape_small s (seq1 c) w hs (by have := seq1_len c hc; omega))
  have h1 : (seq1 c).isEmpty = false := by simp [seq1]
  have h2 : ((seq1 c) == ([] : List UInt8)) = false := by simp [seq1]
  go_enter Try.func19, Try.ntmps19
  go_wp2_with (go_at_call 22; (with_reducible refine (K.out _).mono ?_); rintro e w' ⟨rfl, hb⟩)
  go_ret
  exact ⟨rfl, hb⟩

theorem join_nil (xs : List (List UInt8)) : Lib.join xs [] = xs.flatten := by
  unfold Lib.join
  induction xs with
  | nil => rfl
  | cons a t ih => cases t with
    | nil => simp
    | cons b t => simp [List.intercalate] at ih ⊢; exact ih

/-- the texts behind a slice -/
def Texts (w : World) (bk o : Nat) (xs : List (List UInt8)) : Prop := bk < w.heap.size ∧ ∀ (j : Nat) x, xs[j]? = some x → w.cell? ⟨bk, o + j, none⟩ = some (.string ⟨x.toArray⟩)

theorem Join0_calls (bk o c : Nat) (xs : List (List UInt8)) (w : World) (h : Texts w bk o xs) (hcap : xs.length ≤ c) (hl : xs.length ≤ 1000000) (hf : xs.flatten.length ≤ 1000000) :
    Calls Try.prog 20 #[.slice (some ⟨bk, o, none⟩) xs.length c, .string ⟨#[]⟩] w fun e w' => e = .returned (.string ⟨xs.flatten.toArray⟩) ∧ Below w.heap.size w w' := by
  have e1 : ((xs.map fun x => (⟨x.toArray⟩ : ByteArray)).map (·.data.toList)) = xs := by
    rw [List.map_map]
    conv => rhs; rw [← List.map_id xs]
    apply List.map_congr_left
    intro a _
    simp
  have hj : Lib.join ((xs.map fun x => (⟨x.toArray⟩ : ByteArray)).map (·.data.toList)) (⟨#[]⟩ : ByteArray).data.toList = xs.flatten := by rw [e1]; exact join_nil xs
  have h2 := Try.strings_Join bk o c (xs.map fun x => (⟨x.toArray⟩ : ByteArray)) ⟨#[]⟩ w (fun j x hx => by
    simp only [List.getElem?_map, Option.map_eq_some_iff] at hx
    obtain ⟨y, hy, rfl⟩ := hx
    exact h.2 j y hy) h.1 (by simp; omega) (by simpa using hcap) (by rw [hj]; omega)
  rw [hj, List.length_map] at h2
  exact h2

theorem Sprint_calls (col : Nat) (bk o c : Nat) (xs : List (List UInt8)) (w : World) (hcol : col < 1000) (h : Texts w bk o xs) (hcap : xs.length ≤ c) (hl : xs.length ≤ 1000000) (hf : xs.flatten.length ≤ 1000000) :
    Calls Try.prog 13 #[.int .i64 col, .slice (some ⟨bk, o, none⟩) xs.length c] w fun e w' => e = .returned (.string ⟨(esc xs.flatten (seq1 col)).toArray⟩) ∧ Below w.heap.size w w' := by
  have KJ := hid (Join0_calls bk o c xs w h hcap hl hf)
  have KE := hid (fun w => EscapeSeq_calls col w hcol)
  have KC := hid (fun w => colorize_calls xs.flatten col w hf hcol)
  go_enter Try.func13, Try.ntmps13
  go_outline
  go_wp2_with (first
    | (go_at_call 20; (with_reducible refine KJ.out.mono ?_); rintro e w1 ⟨rfl, hb1⟩)
    | (go_at_call 21; (with_reducible refine (KE.out _).mono ?_); rintro e w2 ⟨rfl, hb2⟩)
    | (go_at_call 19; (with_reducible refine (KC.out _).mono ?_); rintro e w3 ⟨rfl, hb3⟩))
  go_ret
  exact ⟨rfl, (hb1.trans (hb2.mono hb1.size)).trans (hb3.mono (Nat.le_trans hb1.size hb2.size))⟩

theorem TextColorPrint_calls (col : Nat) (bk o c : Nat) (xs : List (List UInt8)) (w : World) (hcol : col < 1000) (h : Texts w bk o xs) (hcap : xs.length ≤ c) (hl : xs.length ≤ 1000000) (hf : xs.flatten.length ≤ 1000000) :
    Calls Try.prog 8 #[.int .i64 col, .slice (some ⟨bk, o, none⟩) xs.length c] w fun e w' => e = .returned (.string ⟨(esc xs.flatten (seq1 col)).toArray⟩) ∧ Below w.heap.size w w' := by
  have K := hid (Sprint_calls col bk o c xs w hcol h hcap hl hf)
  go_enter Try.func8, Try.ntmps8
  go_wp2_with (go_at_call 13; (with_reducible refine K.out.mono ?_); rintro e w1 ⟨rfl, hb1⟩)
  go_ret
  exact ⟨rfl, hb1⟩
end Go.Proofs.Ytbbmboklpfjliaa
