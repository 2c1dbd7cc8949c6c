import Derived.Test.YtfiokjdikhfcaaaDoorYx
import Derived.Test.YtfiokjdikhfcaaaDoorYw
namespace Go.Proofs.YtfiokjdikhfcaaaDoor
open Go.RowKit Go.Lib
set_option linter.unusedVariables false
set_option linter.unusedSimpArgs false
set_option maxHeartbeats 4000000
set_option maxRecDepth 100000

/-- bytes of a sequence's codes: digits and semicolons -/
def seqB (b : UInt8) : Prop := 48 ≤ b.toNat ∧ b.toNat ≤ 59
theorem low_seq : ∀ i : Fin 128, 48 ≤ i.val → i.val ≤ 59 → lowerB (UInt8.ofNat i.val) = UInt8.ofNat i.val := by decide
theorem esc_seq : ∀ (x r : List UInt8), (∀ b ∈ x, seqB b) → escOk true (x ++ 109 :: r) = escOk false r
  | [], r, _ => by
    rw [List.nil_append, escOk_cons]
    rfl
  | b :: t, r, h => by
    have hb : seqB b := h b (by simp)
    have h1 := low_seq ⟨b.toNat, by have := hb.2; omega⟩ hb.1 hb.2
    dsimp only at h1
    rw [ofNat_back] at h1
    rw [List.cons_append, escOk_cons, if_pos (by simp), h1, decide_eq_true rfl, Bool.true_and, show (!decide (b.toNat = 109)) = true by have := hb.2; simp; omega]
    exact esc_seq t r fun x hx => h x (by simp [hx])
theorem esc_text : ∀ (x r : List UInt8), (∀ b ∈ x, asciiOk b = true) → escOk false (x ++ r) = escOk false r
  | [], r, _ => rfl
  | b :: t, r, h => by
    have hb := h b (by simp)
    unfold asciiOk at hb
    simp only [Bool.or_eq_true, Bool.and_eq_true, decide_eq_true_eq] at hb
    rw [List.cons_append, escOk_cons, if_neg (by simp; omega)]
    exact esc_text t r fun x hx => h x (by simp [hx])
end Go.Proofs.YtfiokjdikhfcaaaDoor
