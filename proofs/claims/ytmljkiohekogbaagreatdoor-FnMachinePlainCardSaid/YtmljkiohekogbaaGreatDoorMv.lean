import Derived.Test.YtmljkiohekogbaaGreatDoorMu
namespace Go.Proofs.YtmljkiohekogbaaGreatDoor
open Go.RowKit Go.Maps
set_option linter.unusedVariables false
set_option linter.unusedSimpArgs false
set_option maxHeartbeats 4000000
set_option maxRecDepth 100000

/-! ### what a parser holds is bounded by what it was given -/
section
variable (atoi : List UInt8 → Option Int) (trim : List UInt8 → List UInt8)
structure PB (p : PSt) (n : Nat) : Prop where
  rise : Rise p.codes
  few : p.codes.length + 2 * p.esc.length ≤ n
  short : p.esc.length ≤ 2048
  shut : p.inn = false → p.kind = 0 ∧ p.esc = []
theorem PB.ok {p : PSt} {n : Nat} (h : PB p n) : POk p n := ⟨h.rise, by have := h.few; omega, h.short, h.shut⟩
theorem PB.more {p : PSt} {n m : Nat} (h : PB p n) (hm : n ≤ m) : PB p m := ⟨h.rise, Nat.le_trans h.few hm, h.short, h.shut⟩
theorem opened_esc (p : PSt) (r : Int) : (p.opened r).esc.length ≤ p.esc.length := by
  unfold PSt.opened
  repeat' split
  all_goals simp
theorem PB.consume {p : PSt} {n : Nat} (h : PB p n) (r : Int) : PB (p.consume atoi trim r) (n + 4 * (Lib.encodeRune r).length) := by
  obtain ⟨h1, h2, h3, h4⟩ := h.ok.opened r
  have h5 := opened_esc p r
  have h6 := enc_len r
  have hf := h.few
  unfold PSt.consume
  simp only
  split
  · rename_i e
    rw [h4 e]
    exact h.more (by omega)
  · split
    · exact ⟨h1, by show (p.opened r).codes.length + 2 * (PSt.reset _).esc.length ≤ _; rw [h2]; simp [PSt.reset]; omega, by simp [PSt.reset], fun _ => ⟨rfl, rfl⟩⟩
    · rename_i hl
      split
      · refine ⟨parseSeq_rise atoi trim _ _ h1, ?_, by simp [PSt.reset], fun _ => ⟨rfl, rfl⟩⟩
        have := parseSeq_len atoi trim ((p.opened r).esc ++ Lib.encodeRune r) (p.opened r).kind (p.opened r).codes
        rw [h2] at this
        rw [List.length_append] at this
        show (parseSeq atoi trim ((p.opened r).esc ++ Lib.encodeRune r) (p.opened r).kind (p.opened r).codes).length + 2 * ([] : List UInt8).length ≤ _
        rw [h2]
        simp only [List.length_nil]
        omega
      · rename_i hne _
        refine ⟨h1, ?_, by show ((p.opened r).esc ++ Lib.encodeRune r).length ≤ _; omega, fun e => absurd e hne⟩
        show (p.opened r).codes.length + 2 * ((p.opened r).esc ++ Lib.encodeRune r).length ≤ _
        rw [h2, List.length_append]
        omega
theorem PB.fold : ∀ (rs : List Int) {p : PSt} {n : Nat}, PB p n → PB (rs.foldl (PSt.consume atoi trim) p) (n + 4 * (encs rs).length)
  | [], p, n, h => by simpa [encs] using h
  | r :: t, p, n, h => by
    have := PB.fold t (h.consume atoi trim r)
    have e2 : (encs (r :: t)).length = (Lib.encodeRune r).length + (encs t).length := by rw [encs_cons, List.length_append]
    rw [e2]
    have e : n + 4 * ((Lib.encodeRune r).length + (encs t).length) = n + 4 * (Lib.encodeRune r).length + 4 * (encs t).length := by omega
    rw [e]
    exact this
theorem PB.resets {p : PSt} {n : Nat} (h : PB p n) : PB p.reset n := ⟨h.rise, by have := h.few; simp [PSt.reset]; omega, by simp [PSt.reset], fun _ => ⟨rfl, rfl⟩⟩
theorem PB.parse {p : PSt} {n : Nat} (h : PB p n) (rs : List Int) : PB (p.parse atoi trim rs) (n + 4 * (encs rs).length) := h.resets.fold atoi trim rs
end
def p0 : PSt := ⟨false, 0, [], []⟩
theorem PB.zero : PB p0 0 := ⟨List.Pairwise.nil, by simp [p0], by simp [p0], fun _ => ⟨rfl, rfl⟩⟩
abbrev cons0 : PSt → Int → PSt := PSt.consume atoiF Lib.trimSpaceD

/-! ### steps of a parser -/
structure Stq where
  kind : Int
  rune : Int
  text : List UInt8
def stq (p : PSt) (x : Stq) : PSt := if x.kind = 0 then p.consume atoiF Lib.trimSpaceD x.rune else if x.kind = 1 then p.parse atoiF Lib.trimSpaceD (runesL x.text) else if x.kind = 2 then p.reset else p
def toldQ (p : PSt) (x : Stq) : List UInt8 := if x.kind = 1 then seqOf itoaF p.codes else []
def runQ : List Stq → PSt → List (PSt × List UInt8)
  | [], _ => []
  | x :: t, p => (stq p x, toldQ (stq p x) x) :: runQ t (stq p x)
theorem runQ_len : ∀ (l : List Stq) (p : PSt), (runQ l p).length = l.length
  | [], _ => rfl
  | x :: t, p => by simp [runQ, runQ_len t]
theorem runQ_snoc : ∀ (l : List Stq) (p : PSt) (x : Stq), runQ (l ++ [x]) p = runQ l p ++ [(stq (l.foldl stq p) x, toldQ (stq (l.foldl stq p) x) x)]
  | [], _, _ => rfl
  | y :: t, p, x => by simp [runQ, runQ_snoc t]
/-- what a step may bring -/
structure SqOk (m : Nat) (x : Stq) : Prop where
  lo : -2147483648 ≤ x.rune
  hi : x.rune ≤ 2147483647
  text : (encs (runesL x.text)).length ≤ m
  size : x.text.length ≤ 1000000000
theorem PB.stq {p : PSt} {n m : Nat} (hm : 4 ≤ m) (h : PB p n) {x : Stq} (hx : SqOk m x) : PB (stq p x) (n + 4 * m) := by
  unfold Go.Proofs.YtmljkiohekogbaaGreatDoor.stq
  have := enc_len x.rune
  have := hx.text
  repeat' split
  · exact (h.consume atoiF Lib.trimSpaceD x.rune).more (by omega)
  · exact (h.parse atoiF Lib.trimSpaceD _).more (by omega)
  · exact h.resets.more (by omega)
  · exact h.more (by omega)
end Go.Proofs.YtmljkiohekogbaaGreatDoor
