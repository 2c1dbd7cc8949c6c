import Derived.Test.YtbbmboklpfjliaaV
namespace Go.Proofs.Ytbbmboklpfjliaa
open Go.RowKit
set_option linter.unusedVariables false
set_option linter.unusedSimpArgs false
set_option maxHeartbeats 4000000
set_option maxRecDepth 100000

/-! texts of known characters -/
theorem enc27 (r : Int) (hv : VR r) (h : (27 : UInt8) ∈ Lib.encodeRune r) : r = 27 := by
  unfold VR at hv
  have k : ∀ x : Int, 0 ≤ x → x < 256 → (27 : UInt8) = x.toNat.toUInt8 → x = 27 := by
    intro x h0 h1 e
    have := congrArg UInt8.toNat e
    rw [u8_nat x h0 h1] at this
    have e2 : (27 : UInt8).toNat = 27 := rfl
    omega
  by_cases h1 : r ≤ 127
  · rw [Lib.encodeRune, Lib.encodeRuneZ_one (by omega) h1] at h
    simp only [List.map_cons, List.map_nil, List.mem_singleton] at h
    exact k r (by omega) (by omega) h
  · exfalso
    by_cases h2 : r ≤ 2047
    · rw [Lib.encodeRune, Lib.encodeRuneZ_two (by omega) h2] at h
      simp only [List.map_cons, List.map_nil, List.mem_cons, List.not_mem_nil, or_false] at h
      rcases h with h | h
      · have := k _ (by omega) (by omega) h; omega
      · have := k _ (by omega) (by omega) h; omega
    · by_cases h3 : r ≤ 65535
      · rw [Lib.encodeRune, Lib.encodeRuneZ_three (by omega)] at h
        simp only [List.map_cons, List.map_nil, List.mem_cons, List.not_mem_nil, or_false] at h
        rcases h with h | h | h
        · have := k _ (by omega) (by omega) h; omega
        · have := k _ (by omega) (by omega) h; omega
        · have := k _ (by omega) (by omega) h; omega
      · rw [Lib.encodeRune, Lib.encodeRuneZ_four (by omega) (by omega)] at h
        simp only [List.map_cons, List.map_nil, List.mem_cons, List.not_mem_nil, or_false] at h
        rcases h with h | h | h | h
        · have := k _ (by omega) (by omega) h; omega
        · have := k _ (by omega) (by omega) h; omega
        · have := k _ (by omega) (by omega) h; omega
        · have := k _ (by omega) (by omega) h; omega

/-- a text of known characters (line ends let in) -/
def Kn (l : List UInt8) : Prop := ∀ r ∈ runesL l, txKnown r = true ∨ r = 10
theorem known_ne {r : Int} (h : txKnown r = true ∨ r = 10) : r ≠ 65533 ∧ r ≠ 27 := by
  rcases h with h | h
  · simp only [txKnown, txBoxed, txWide, decide_eq_true_eq] at h; omega
  · omega
theorem Kn.encs {l : List UInt8} (h : Kn l) : encs (runesL l) = l := encs_runesL l.length l (Nat.le_refl _) fun r hr => (known_ne (h r hr)).1
theorem Kn.vr {l : List UInt8} (h : Kn l) : ∀ r ∈ runesL l, VR r := VR_runesL l.length l (Nat.le_refl _)
theorem Kn.append {l : List UInt8} (h : Kn l) (t : List UInt8) : runesL (l ++ t) = runesL l ++ runesL t := by
  conv => lhs; rw [← h.encs]
  exact runesL_encs _ h.vr t
theorem Kn.no27 {l : List UInt8} (h : Kn l) : no27 l := by
  intro x hx e
  subst e
  rw [← h.encs] at hx
  simp only [Proofs.Ytbbmboklpfjliaa.encs, List.mem_flatMap] at hx
  obtain ⟨r, hr, hx⟩ := hx
  exact (known_ne (h r hr)).2 (enc27 r (h.vr r hr) hx)
theorem Kn.of_simple {s : ByteArray} {lines : Bool} (h : txSimple s lines = true) : Kn s.data.toList := by
  intro r hr
  have e : runes s = runesL s.data.toList := by
    have := runes_L s.data.toList
    simpa using this
  unfold txSimple txSimpleL at h
  rw [e, List.all_eq_true] at h
  have := h r hr
  simp only [Bool.or_eq_true, Bool.and_eq_true, beq_iff_eq] at this
  rcases this with h | ⟨_, h⟩
  · exact .inl h
  · exact .inr h

/-! reading -/
theorem runesL_ascii (x : UInt8) (t : List UInt8) (h : x.toNat < 128) : runesL (x :: t) = (x.toNat : Int) :: runesL t := by
  have e : Lib.encodeRune (x.toNat : Int) = [x] := by
    rw [Lib.encodeRune, Lib.encodeRuneZ_one (by omega) (by omega)]
    simp
  have := runesL_enc (x.toNat : Int) (by unfold VR; omega) t
  rw [e] at this
  exact this
theorem runesL_asciis (a t : List UInt8) (h : ∀ x ∈ a, x.toNat < 128) : runesL (a ++ t) = (a.map fun b => (b.toNat : Int)) ++ runesL t := by
  induction a with
  | nil => rfl
  | cons x a ih => rw [List.cons_append, runesL_ascii x _ (h x (by simp)), ih (fun y hy => h y (by simp [hy]))]; rfl
theorem ofNat48 (n : Nat) (h : n < 100) : ((UInt8.ofNat (48 + n)).toNat : Int) = 48 + n := by
  simp; omega
theorem runesL_seq (c : Nat) (t : List UInt8) : runesL (27 :: (sq c ++ t)) = 27 :: 91 :: ((Lib.decDigits c).map (fun b => (b.toNat : Int)) ++ 109 :: runesL t) := by
  have h := runesL_asciis (27 :: sq c) t (by
    intro x hx
    simp only [sq, List.mem_cons, List.mem_append, List.not_mem_nil, or_false] at hx
    rcases hx with rfl | rfl | h | rfl
    · decide
    · decide
    · have := dec_digit c x h; omega
    · decide)
  rw [List.cons_append] at h
  rw [h]
  simp [sq]
theorem rdA_seq (c : Nat) (hc : c < 1000) (rest : List Int) (on : List Int) : rdA (27 :: 91 :: ((Lib.decDigits c).map (fun b => (b.toNat : Int)) ++ 109 :: rest)) 0 0 0 on = rdA rest 0 0 0 (with1 on c) := by
  by_cases h1 : c < 10
  · rw [Lib.decDigits_one h1]
    simp only [List.map_cons, List.map_nil, List.cons_append, List.nil_append]
    rw [ofNat48 c (by omega)]
    rw [rdA, if_pos rfl, if_pos rfl, rdA, if_neg (by decide), if_pos rfl, if_pos rfl, rdA, if_neg (by decide), if_neg (by decide), if_pos ⟨by omega, by omega, by omega⟩, rdA, if_neg (by decide), if_neg (by decide), if_neg (by omega), if_pos ⟨.inr rfl, by omega⟩, if_pos rfl]
    congr 2
    omega
  · by_cases h2 : c < 100
    · rw [Lib.decDigits_two h1 h2]
      simp only [List.map_cons, List.map_nil, List.cons_append, List.nil_append]
      rw [ofNat48 (c / 10) (by omega), ofNat48 (c % 10) (by omega)]
      rw [rdA, if_pos rfl, if_pos rfl, rdA, if_neg (by decide), if_pos rfl, if_pos rfl, rdA, if_neg (by decide), if_neg (by decide), if_pos ⟨by omega, by omega, by omega⟩, rdA, if_neg (by decide), if_neg (by decide), if_pos ⟨by omega, by omega, by omega⟩, rdA, if_neg (by decide), if_neg (by decide), if_neg (by omega), if_pos ⟨.inr rfl, by omega⟩, if_pos rfl]
      congr 2
      omega
    · rw [decDigits_three (by omega) hc]
      simp only [List.map_cons, List.map_nil, List.cons_append, List.nil_append]
      rw [ofNat48 (c / 10 / 10) (by omega), ofNat48 (c / 10 % 10) (by omega), ofNat48 (c % 10) (by omega)]
      rw [rdA, if_pos rfl, if_pos rfl, rdA, if_neg (by decide), if_pos rfl, if_pos rfl, rdA, if_neg (by decide), if_neg (by decide), if_pos ⟨by omega, by omega, by omega⟩, rdA, if_neg (by decide), if_neg (by decide), if_pos ⟨by omega, by omega, by omega⟩, rdA, if_neg (by decide), if_neg (by decide), if_pos ⟨by omega, by omega, by omega⟩, rdA, if_neg (by decide), if_neg (by decide), if_neg (by omega), if_pos ⟨.inr rfl, by omega⟩, if_pos rfl]
      congr 2
      omega
theorem rdA_plain (rs rest : List Int) (on : List Int) (h : ∀ r ∈ rs, r ≠ 27) : rdA (rs ++ rest) 0 0 0 on = (rdA rest 0 0 0 on).map fun p => (rs.map (·, on) ++ p.1, p.2) := by
  induction rs with
  | nil => simp
  | cons r rs ih =>
    rw [List.cons_append, rdA, if_pos rfl, if_neg (h r (by simp)), ih (fun q hq => h q (by simp [hq]))]
    simp [Option.map_map, Function.comp_def]
/-- reading bytes -/
def rdB (l : List UInt8) (on : List Int) : Option (List (Int × List Int) × List Int) := rdA (runesL l) 0 0 0 on
theorem rdB_seq (c : Nat) (hc : c < 1000) (t : List UInt8) (on : List Int) : rdB (27 :: (sq c ++ t)) on = rdB t (with1 on c) := by
  unfold rdB; rw [runesL_seq, rdA_seq c hc]
theorem rdB_text {l : List UInt8} (h : Kn l) (t : List UInt8) (on : List Int) : rdB (l ++ t) on = (rdB t on).map fun p => ((runesL l).map (·, on) ++ p.1, p.2) := by
  unfold rdB; rw [h.append, rdA_plain _ _ _ (fun r hr => (known_ne (h r hr)).2)]
theorem rst_sq : ([27, 91, 48, 109] : List UInt8) = 27 :: sq 0 := by
  have : Lib.decDigits 0 = [48] := Lib.decDigits_one (by decide)
  simp [sq, this]
theorem rdB_rst (t : List UInt8) (on : List Int) : rdB ([27, 91, 48, 109] ++ t) on = rdB t [] := by
  rw [rst_sq, List.cons_append, rdB_seq 0 (by decide)]
  simp [with1]
theorem rdB_nil (on : List Int) : rdB [] on = some ([], on) := by simp [rdB, runesL_nil, rdA]
theorem txRead_B (l : List UInt8) : txRead (runes ⟨l.toArray⟩) = rdB l [] := by rw [runes_L]; rfl
end Go.Proofs.Ytbbmboklpfjliaa
