import Derived.Test.YtfiokjdikhfcaaaDoorYp
namespace Go.Proofs.YtfiokjdikhfcaaaDoor
open Go.RowKit Go.Lib
set_option linter.unusedVariables false
set_option linter.unusedSimpArgs false
set_option maxHeartbeats 4000000
set_option maxRecDepth 100000

/-- toUpper of ASCII, byte by byte. -/
def upL : Bool → List UInt8 → List UInt8
  | _, [] => []
  | c, b :: t => if c || decide (b.toNat = 27) then b :: upL (!decide (b.toNat = 109)) t else upperB b :: upL false t
theorem upL_cons (c : Bool) (b : UInt8) (t : List UInt8) : upL c (b :: t) = if c || decide (b.toNat = 27) then b :: upL (!decide (b.toNat = 109)) t else upperB b :: upL false t := rfl
theorem enc_byte : ∀ i : Fin 128, encodeRune (i.val : Int) = [UInt8.ofNat i.val] := by decide
theorem enc_up : ∀ i : Fin 128, encodeRune (toUpperR (i.val : Int)) = [upperB (UInt8.ofNat i.val)] := by decide
theorem ofNat_back (b : UInt8) : UInt8.ofNat b.toNat = b := by simp
theorem up_bytes : ∀ (l : List UInt8) (c : Bool), asciiL l → mapS upF c l = upL c l
  | [], c, _ => rfl
  | b :: t, c, h => by
    have hb : b.toNat < 128 := h b (by simp)
    have ht := fun c => up_bytes t c fun x hx => h x (by simp [hx])
    rw [mapS_step upF c (b :: t) (by simp), decodeL_ascii b t hb]
    dsimp only
    rw [List.drop_succ_cons, List.drop_zero, ht]
    rw [upL_cons]
    unfold upF
    by_cases h27 : (c || decide ((b.toNat : Int) = 27)) = true
    · have h27' : (c || decide (b.toNat = 27)) = true := by
        rw [← h27]; congr 2; exact propext ⟨fun h => by omega, fun h => by omega⟩
      rw [if_pos h27, if_pos h27']
      dsimp only
      have := enc_byte ⟨b.toNat, hb⟩
      dsimp only at this
      rw [this, ofNat_back, show decide ((b.toNat : Int) = 109) = decide (b.toNat = 109) by congr 1; exact propext ⟨fun h => by omega, fun h => by omega⟩]
      rfl
    · have h27' : ¬ (c || decide (b.toNat = 27)) = true := by
        intro h; apply h27; rw [← h]; congr 2; exact propext ⟨fun h => by omega, fun h => by omega⟩
      rw [if_neg h27, if_neg h27']
      dsimp only
      have := enc_up ⟨b.toNat, hb⟩
      dsimp only at this
      rw [this, ofNat_back]
      rfl
theorem low_up1 : ∀ i : Fin 128, lowerB (upperB (UInt8.ofNat i.val)) = lowerB (UInt8.ofNat i.val) := by decide
theorem up_up1 : ∀ i : Fin 128, upperB (upperB (UInt8.ofNat i.val)) = upperB (UInt8.ofNat i.val) ∧ ((upperB (UInt8.ofNat i.val)).toNat = 27 ↔ i.val = 27) := by decide
theorem lower_up : ∀ (l : List UInt8) (c : Bool), asciiL l → toLowerA (upL c l) = toLowerA l
  | [], c, _ => rfl
  | b :: t, c, h => by
    have hb : b.toNat < 128 := h b (by simp)
    have ht := fun c => lower_up t c fun x hx => h x (by simp [hx])
    have h1 := low_up1 ⟨b.toNat, hb⟩
    dsimp only at h1
    rw [ofNat_back] at h1
    rw [upL_cons]
    unfold toLowerA at ht ⊢
    split
    · rw [List.map_cons, List.map_cons, ht]
    · rw [List.map_cons, List.map_cons, ht, h1]
theorem up_up : ∀ (l : List UInt8) (c : Bool), asciiL l → upL c (upL c l) = upL c l
  | [], c, _ => rfl
  | b :: t, c, h => by
    have hb : b.toNat < 128 := h b (by simp)
    have ht := fun c => up_up t c fun x hx => h x (by simp [hx])
    have h1 := up_up1 ⟨b.toNat, hb⟩
    dsimp only at h1
    rw [ofNat_back] at h1
    rw [upL_cons]
    by_cases h27 : (c || decide (b.toNat = 27)) = true
    · rw [if_pos h27, upL_cons, if_pos h27, ht]
    · rw [if_neg h27, upL_cons]
      have : ¬ (c || decide ((upperB b).toNat = 27)) = true := by
        intro h2; apply h27; rw [← h2]; congr 2; exact propext h1.2.symm
      rw [if_neg this, ht, h1.1]
/-- Within sequences no letter of the upper case. -/
def escOk : Bool → List UInt8 → Bool
  | _, [] => true
  | c, b :: t => if c || decide (b.toNat = 27) then decide (lowerB b = b) && escOk (!decide (b.toNat = 109)) t else escOk false t
theorem escOk_cons (c : Bool) (b : UInt8) (t : List UInt8) : escOk c (b :: t) = if c || decide (b.toNat = 27) then decide (lowerB b = b) && escOk (!decide (b.toNat = 109)) t else escOk false t := rfl
theorem up_low1 : ∀ i : Fin 128, upperB (lowerB (UInt8.ofNat i.val)) = upperB (UInt8.ofNat i.val) ∧ ((lowerB (UInt8.ofNat i.val)).toNat = 27 ↔ i.val = 27) := by decide
theorem up_lower : ∀ (l : List UInt8) (c : Bool), asciiL l → escOk c l = true → upL c (toLowerA l) = upL c l
  | [], c, _, _ => rfl
  | b :: t, c, h, he => by
    have hb : b.toNat < 128 := h b (by simp)
    have ht := fun c => up_lower t c fun x hx => h x (by simp [hx])
    have h1 := up_low1 ⟨b.toNat, hb⟩
    dsimp only at h1
    rw [ofNat_back] at h1
    rw [escOk_cons] at he
    have hm : toLowerA (b :: t) = lowerB b :: toLowerA t := rfl
    rw [hm, upL_cons, upL_cons]
    by_cases h27 : (c || decide (b.toNat = 27)) = true
    · rw [if_pos h27] at he ⊢
      simp only [Bool.and_eq_true, decide_eq_true_eq] at he
      rw [he.1, if_pos h27, ht _ he.2]
    · rw [if_neg h27] at he ⊢
      have : ¬ (c || decide ((lowerB b).toNat = 27)) = true := by
        intro h2; apply h27; rw [← h2]; congr 2; exact propext h1.2.symm
      rw [if_neg this, ht _ he, h1.1]
end Go.Proofs.YtfiokjdikhfcaaaDoor
