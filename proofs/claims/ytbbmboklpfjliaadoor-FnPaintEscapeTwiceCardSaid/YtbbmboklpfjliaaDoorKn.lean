import Derived.Test.YtbbmboklpfjliaaDoorV
import Derived.Test.YtbbmboklpfjliaaDoorB
namespace Go.Proofs.YtbbmboklpfjliaaDoor
open Go.RowKit
set_option linter.unusedVariables false
set_option linter.unusedSimpArgs false
set_option maxHeartbeats 4000000
set_option maxRecDepth 100000

/-! texts of known characters -/
theorem enc27 (r : Int) (hv : VR r) (h : (27 : UInt8) ∈ Lib.encodeRune r) : r = 27 := by
  unfold VR at hv
  have k : ∀ x : Int, 0 ≤ x → x < 256 → (27 : UInt8) = x.toNat.toUInt8 → x = 27 := by
    intro x h0 h1 e
    have := congrArg UInt8.toNat e
    rw [u8_nat x h0 h1] at this
    have e2 : (27 : UInt8).toNat = 27 := rfl
    omega
  by_cases h1 : r ≤ 127
  · rw [Lib.encodeRune, Lib.encodeRuneZ_one (by omega) h1] at h
    simp only [List.map_cons, List.map_nil, List.mem_singleton] at h
    exact k r (by omega) (by omega) h
  · exfalso
    by_cases h2 : r ≤ 2047
    · rw [Lib.encodeRune, Lib.encodeRuneZ_two (by omega) h2] at h
      simp only [List.map_cons, List.map_nil, List.mem_cons, List.not_mem_nil, or_false] at h
      rcases h with h | h
      · have := k _ (by omega) (by omega) h; omega
      · have := k _ (by omega) (by omega) h; omega
    · by_cases h3 : r ≤ 65535
      · rw [Lib.encodeRune, Lib.encodeRuneZ_three (by omega)] at h
        simp only [List.map_cons, List.map_nil, List.mem_cons, List.not_mem_nil, or_false] at h
        rcases h with h | h | h
        · have := k _ (by omega) (by omega) h; omega
        · have := k _ (by omega) (by omega) h; omega
        · have := k _ (by omega) (by omega) h; omega
      · rw [Lib.encodeRune, Lib.encodeRuneZ_four (by omega) (by omega)] at h
        simp only [List.map_cons, List.map_nil, List.mem_cons, List.not_mem_nil, or_false] at h
        rcases h with h | h | h | h
        · have := k _ (by omega) (by omega) h; omega
        · have := k _ (by omega) (by omega) h; omega
        · have := k _ (by omega) (by omega) h; omega
        · have := k _ (by omega) (by omega) h; omega

/-- a text of known characters (line ends let in) -/
def Kn (l : List UInt8) : Prop := ∀ r ∈ runesL l, txKnown r = true ∨ r = 10
theorem known_ne {r : Int} (h : txKnown r = true ∨ r = 10) : r ≠ 65533 ∧ r ≠ 27 := by
  rcases h with h | h
  · simp only [txKnown, txBoxed, txWide, decide_eq_true_eq] at h; omega
  · omega
theorem Kn.encs {l : List UInt8} (h : Kn l) : encs (runesL l) = l := encs_runesL l.length l (Nat.le_refl _) fun r hr => (known_ne (h r hr)).1
theorem Kn.vr {l : List UInt8} (h : Kn l) : ∀ r ∈ runesL l, VR r := VR_runesL l.length l (Nat.le_refl _)
theorem Kn.append {l : List UInt8} (h : Kn l) (t : List UInt8) : runesL (l ++ t) = runesL l ++ runesL t := by
  conv => lhs; rw [← h.encs]
  exact runesL_encs _ h.vr t
theorem Kn.no27 {l : List UInt8} (h : Kn l) : no27 l := by
  intro x hx e
  subst e
  rw [← h.encs] at hx
  simp only [Proofs.YtbbmboklpfjliaaDoor.encs, List.mem_flatMap] at hx
  obtain ⟨r, hr, hx⟩ := hx
  exact (known_ne (h r hr)).2 (enc27 r (h.vr r hr) hx)
theorem Kn.of_simple {s : ByteArray} {lines : Bool} (h : txSimple s lines = true) : Kn s.data.toList := by
  intro r hr
  have e : runes s = runesL s.data.toList := by
    have := runes_L s.data.toList
    simpa using this
  unfold txSimple txSimpleL at h
  rw [e, List.all_eq_true] at h
  have := h r hr
  simp only [Bool.or_eq_true, Bool.and_eq_true, beq_iff_eq] at this
  rcases this with h | ⟨_, h⟩
  · exact .inl h
  · exact .inr h

end Go.Proofs.YtbbmboklpfjliaaDoor
