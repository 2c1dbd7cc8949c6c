import Derived.Test.YtbbmboklpfjliaaDoorL
import Derived.Lib.MapLaws
import Derived.Lib.TrimUEq
import Derived.Lib.RuneBytes
import Derived.Lib.QuoteLoop
namespace Go.Proofs.YtbbmboklpfjliaaDoor
open Go.RowKit
set_option linter.unusedVariables false
set_option linter.unusedSimpArgs false
set_option maxHeartbeats 4000000
set_option maxRecDepth 100000

/-- a number that is a rune -/
def VR (r : Int) : Prop := (0 ≤ r ∧ r < 55296) ∨ (57343 < r ∧ r ≤ 1114111)
def encs (rs : List Int) : List UInt8 := rs.flatMap Lib.encodeRune
theorem encs_nil : encs [] = [] := rfl
theorem encs_cons (r : Int) (rs : List Int) : encs (r :: rs) = Lib.encodeRune r ++ encs rs := rfl
theorem encs_append (a b : List Int) : encs (a ++ b) = encs a ++ encs b := by simp [encs]

theorem u8_nat (x : Int) (h0 : 0 ≤ x) (h1 : x < 256) : (x.toNat.toUInt8).toNat = x.toNat := by
  simp; omega

theorem decode_enc (r : Int) (hv : VR r) (t : List UInt8) : Lib.decodeL (Lib.encodeRune r ++ t) = (r.toNat, (Lib.encodeRune r).length) := by
  rw [Lib.decodeL_N]
  unfold VR at hv
  by_cases h1 : r ≤ 127
  · rw [Lib.encodeRune, Lib.encodeRuneZ_one (by omega) h1]
    simp only [List.map_cons, List.map_nil, List.cons_append, List.nil_append, List.getD_cons_zero, List.length_cons, List.length_nil]
    rw [u8_nat r (by omega) (by omega)]
    unfold Lib.decodeN
    rw [if_pos (by omega)]
  · by_cases h2 : r ≤ 2047
    · rw [Lib.encodeRune, Lib.encodeRuneZ_two (by omega) h2]
      simp only [List.map_cons, List.map_nil, List.cons_append, List.nil_append, List.getD_cons_zero, List.getD_cons_succ, List.length_cons, List.length_nil]
      rw [u8_nat (192 + r / 64) (by omega) (by omega), u8_nat (128 + r % 64) (by omega) (by omega)]
      unfold Lib.decodeN
      rw [if_neg (by omega), if_pos ⟨by omega, by omega, by omega⟩, if_pos (by omega)]
      congr 1
      omega
    · by_cases h3 : r ≤ 65535
      · rw [Lib.encodeRune, Lib.encodeRuneZ_three (by omega)]
        simp only [List.map_cons, List.map_nil, List.cons_append, List.nil_append, List.getD_cons_zero, List.getD_cons_succ, List.length_cons, List.length_nil]
        rw [u8_nat (224 + r / 4096) (by omega) (by omega), u8_nat (128 + r / 64 % 64) (by omega) (by omega), u8_nat (128 + r % 64) (by omega) (by omega)]
        unfold Lib.decodeN
        rw [if_neg (by omega), if_neg (by omega), if_pos ⟨by omega, ⟨by omega, by omega⟩, by omega, by omega⟩, if_pos ⟨by omega, by omega⟩]
        congr 1
        omega
      · rw [Lib.encodeRune, Lib.encodeRuneZ_four (by omega) (by omega)]
        simp only [List.map_cons, List.map_nil, List.cons_append, List.nil_append, List.getD_cons_zero, List.getD_cons_succ, List.length_cons, List.length_nil]
        rw [u8_nat (240 + r / 262144) (by omega) (by omega), u8_nat (128 + r / 4096 % 64) (by omega) (by omega), u8_nat (128 + r / 64 % 64) (by omega) (by omega), u8_nat (128 + r % 64) (by omega) (by omega)]
        unfold Lib.decodeN
        rw [if_neg (by omega), if_neg (by omega), if_neg (by omega), if_pos ⟨by omega, ⟨by omega, by omega⟩, ⟨by omega, by omega⟩, by omega, by omega⟩, if_pos ⟨by omega, by omega⟩]
        congr 1
        omega

theorem enc_len (r : Int) : 1 ≤ (Lib.encodeRune r).length ∧ (Lib.encodeRune r).length ≤ 4 := by
  have := Lib.encodeRuneZ_length r; simpa [Lib.encodeRune] using this
theorem width_pos (s : ByteArray) (pos : Nat) (h : pos < s.size) : 1 ≤ (Utf8.decode s pos).2 := by
  by_cases ha : (s[pos]'h).toNat < 128
  · rw [decode_ascii s pos h ha]
    exact Nat.le_refl _
  · exact (decode_high s pos h (by omega)).2

/-- the runes that 'for _, r := range s' gives from a place on -/
def runesFrom (s : ByteArray) : Nat → Nat → List Int
  | 0, _ => []
  | fuel + 1, pos => if pos < s.size then ((Utf8.decode s pos).1 : Int) :: runesFrom s fuel (pos + (Utf8.decode s pos).2) else []
def runes (s : ByteArray) : List Int := runesFrom s s.size 0

theorem runesFrom_end (s : ByteArray) (fuel pos : Nat) (h : ¬ pos < s.size) : runesFrom s fuel pos = [] := by
  cases fuel with
  | zero => rfl
  | succ f => simp [runesFrom, h]

theorem runesFrom_step (s : ByteArray) (f pos : Nat) (hp : pos < s.size) : runesFrom s (f + 1) pos = ((Utf8.decode s pos).1 : Int) :: runesFrom s f (pos + (Utf8.decode s pos).2) := by simp [runesFrom, hp]


/-- the runes of a list of bytes -/
def runesLF : Nat → List UInt8 → List Int
  | 0, _ => []
  | f + 1, l => if l = [] then [] else ((Lib.decodeL l).1 : Int) :: runesLF f (l.drop (Lib.decodeL l).2)
theorem runesFrom_L (s : ByteArray) : ∀ (f pos : Nat), runesFrom s f pos = runesLF f (s.data.toList.drop pos)
  | 0, _ => rfl
  | f + 1, pos => by
    unfold runesFrom runesLF
    have hd := Lib.decodeL_drop s pos
    by_cases h : pos < s.size
    · have hne : s.data.toList.drop pos ≠ [] := by
        intro e
        have := congrArg List.length e
        have hs : s.data.toList.length = s.size := by rw [Array.length_toList]; rfl
        rw [List.length_drop, hs, List.length_nil] at this
        omega
      rw [if_pos h, if_neg hne, hd, runesFrom_L s f, List.drop_drop]
    · have he : s.data.toList.drop pos = [] := by
        apply List.drop_of_length_le
        have hs : s.data.toList.length = s.size := by rw [Array.length_toList]; rfl
        omega
      rw [if_neg h, if_pos he]
theorem decodeL_pos (l : List UInt8) (h : l ≠ []) : 1 ≤ (Lib.decodeL l).2 := by
  unfold Lib.decodeL
  exact width_pos _ 0 (by rw [S_size]; exact List.length_pos_iff.2 h)
theorem runesLF_more : ∀ (f g : Nat) (l : List UInt8), l.length ≤ f → f ≤ g → runesLF g l = runesLF f l
  | 0, g, l, h, _ => by
    have : l = [] := List.eq_nil_of_length_eq_zero (by omega)
    subst this
    cases g <;> simp [runesLF]
  | f + 1, 0, l, h, hg => by omega
  | f + 1, g + 1, l, h, hg => by
    unfold runesLF
    by_cases hl : l = []
    · rw [if_pos hl, if_pos hl]
    · rw [if_neg hl, if_neg hl, runesLF_more f g _ (by have := decodeL_pos l hl; simp; omega) (by omega)]
def runesL (l : List UInt8) : List Int := runesLF l.length l
theorem runes_L (l : List UInt8) : runes ⟨l.toArray⟩ = runesL l := by
  unfold runes runesL
  rw [runesFrom_L]
  simp [ByteArray.size]
theorem runesL_nil : runesL [] = [] := rfl
theorem runesL_cons (l : List UInt8) (h : l ≠ []) : runesL l = ((Lib.decodeL l).1 : Int) :: runesL (l.drop (Lib.decodeL l).2) := by
  have hp := List.length_pos_iff.2 h
  have e : runesLF l.length l = runesLF (l.length - 1 + 1) l := by rw [Nat.sub_add_cancel hp]
  unfold runesL
  rw [e, runesLF, if_neg h, runesLF_more _ (l.length - 1) _ (Nat.le_refl _) (by have := decodeL_pos l h; simp; omega)]
/-- what is encoded is read back -/
theorem runesL_enc (r : Int) (hv : VR r) (t : List UInt8) : runesL (Lib.encodeRune r ++ t) = r :: runesL t := by
  have h1 := enc_len r
  have hne : Lib.encodeRune r ++ t ≠ [] := by intro e; have := congrArg List.length e; rw [List.length_append, List.length_nil] at this; omega
  have h0 : 0 ≤ r := by unfold VR at hv; omega
  rw [runesL_cons _ hne, decode_enc r hv t]
  simp only [List.drop_left]
  rw [Int.toNat_of_nonneg h0]
theorem runesL_encs (rs : List Int) (hv : ∀ r ∈ rs, VR r) (t : List UInt8) : runesL (encs rs ++ t) = rs ++ runesL t := by
  induction rs with
  | nil => simp [encs]
  | cons r rs ih =>
    rw [encs_cons, List.append_assoc, runesL_enc r (hv r (by simp)), ih (fun q hq => hv q (by simp [hq]))]
    rfl
theorem runesL_of_encs (rs : List Int) (hv : ∀ r ∈ rs, VR r) : runesL (encs rs) = rs := by
  have := runesL_encs rs hv []
  simpa [runesL_nil] using this
/-- a text whose runes are no errors is what its runes encode to -/
theorem encs_runesL : ∀ (n : Nat) (l : List UInt8), l.length ≤ n → (∀ r ∈ runesL l, r ≠ 65533) → encs (runesL l) = l
  | n, l, hn, h => by
    by_cases hl : l = []
    · subst hl; rfl
    · rw [runesL_cons l hl] at h ⊢
      have h1 : ((Lib.decodeL l).1 : Int) ≠ 65533 := h _ (by simp)
      have hp := decodeL_pos l hl
      have hlen := List.length_pos_iff.2 hl
      cases n with
      | zero => omega
      | succ n =>
        rw [encs_cons, encs_runesL n _ (by simp; omega) (fun r hr => h r (by simp [hr])), Lib.encode_decode l hl (by rintro ⟨e, _⟩; rw [e] at h1; exact h1 rfl), List.take_append_drop]
theorem VR_runesL : ∀ (n : Nat) (l : List UInt8), l.length ≤ n → ∀ r ∈ runesL l, VR r
  | n, l, hn, r, hr => by
    by_cases hl : l = []
    · subst hl; simp [runesL_nil] at hr
    · rw [runesL_cons l hl] at hr
      have hp := decodeL_pos l hl
      have hlen := List.length_pos_iff.2 hl
      cases n with
      | zero => omega
      | succ n =>
        rcases List.mem_cons.1 hr with hr | hr
        · subst hr
          rw [Lib.decodeL_N]
          have := Lib.decodeN_valid l.length (l.getD 0 0).toNat (l.getD 1 0).toNat (l.getD 2 0).toNat (l.getD 3 0).toNat (l.getD 0 0).toNat_lt
          unfold VR
          omega
        · exact VR_runesL n _ (by simp; omega) r hr
end Go.Proofs.YtbbmboklpfjliaaDoor
