import Derived.Test.YtmljkiohekogbaaGreatDoorMv
import Derived.Test.YtmljkiohekogbaaGreatDoorMc
namespace Go.Proofs.YtmljkiohekogbaaGreatDoor
open Go.RowKit Go.Maps
set_option linter.unusedVariables false
set_option linter.unusedSimpArgs false
set_option maxHeartbeats 4000000
set_option maxRecDepth 100000

/-! ### texts that are UTF-8 -/
def ptValidB (s : List UInt8) : Bool := decide (s.length ≤ 400) && (encs (runesL s) == s)
theorem ptValid_facts {s : List UInt8} (h : ptValidB s = true) : s.length ≤ 400 ∧ encs (runesL s) = s ∧ ∀ r ∈ runesL s, VR r := by
  unfold ptValidB at h
  simp only [Bool.and_eq_true, decide_eq_true_eq, beq_iff_eq] at h
  exact ⟨h.1, h.2, VR_runesL _ s (Nat.le_refl _)⟩
theorem VR.lo {r : Int} (h : VR r) : -2147483648 ≤ r := by unfold VR at h; omega
theorem VR.hi {r : Int} (h : VR r) : r ≤ 2147483647 := by unfold VR at h; omega
/-- a text, parsed at once -/
def pS (s : List UInt8) : Stq := ⟨1, 0, s⟩
/-- a character -/
def cS (r : Int) : Stq := ⟨0, r, []⟩
theorem pS_ok {s : List UInt8} (h : ptValidB s = true) : SqOk 400 (pS s) := by
  obtain ⟨h1, h2, _⟩ := ptValid_facts h
  exact ⟨by simp [pS], by simp [pS], by show (encs (runesL s)).length ≤ 400; rw [h2]; exact h1, by show s.length ≤ _; omega⟩
theorem pS_ok2 {s t : List UInt8} (h : ptValidB s = true) (h' : ptValidB t = true) : SqOk 800 (pS (s ++ t)) := by
  obtain ⟨h1, h2, h3⟩ := ptValid_facts h
  obtain ⟨h4, h5, _⟩ := ptValid_facts h'
  refine ⟨by simp [pS], by simp [pS], ?_, by show (s ++ t).length ≤ _; rw [List.length_append]; omega⟩
  show (encs (runesL (s ++ t))).length ≤ 800
  have := runesL_encs (runesL s) h3 t
  rw [h2] at this
  rw [this]
  have e : encs (runesL s ++ runesL t) = s ++ t := by rw [← congrArg (· ++ t) h2, ← congrArg (encs (runesL s) ++ ·) h5]; simp [encs]
  rw [e, List.length_append]
  omega
theorem cS_ok {r : Int} (h : VR r) : SqOk 400 (cS r) := ⟨h.lo, h.hi, by simp [cS, runesL_nil, encs], by simp [cS]⟩
theorem runes_two {s t : List UInt8} (h : ptValidB s = true) : runesL (s ++ t) = runesL s ++ runesL t := by
  obtain ⟨_, h2, h3⟩ := ptValid_facts h
  have := runesL_encs (runesL s) h3 t
  rwa [h2] at this
theorem plain_runes {s : List UInt8} (h : ptValidB s = true) (hp : ∀ b ∈ s, b ≠ 93) : ∀ r ∈ runesL s, r ≠ 93 ∧ ∀ b ∈ Lib.encodeRune r, b ≠ 93 := by
  obtain ⟨_, h2, h3⟩ := ptValid_facts h
  intro r hr
  have hb : ∀ b ∈ Lib.encodeRune r, b ∈ s := fun b hb => by
    rw [← h2]
    unfold encs
    exact List.mem_flatMap.2 ⟨r, hr, hb⟩
  refine ⟨fun e => ?_, fun b hb' => hp b (hb b hb')⟩
  subst e
  exact hp 93 (hb 93 (by decide)) rfl
theorem cons_steps : ∀ (rs : List Int) (p : PSt), (runQ (rs.map cS) p).map (·.1) = statesL atoiF Lib.trimSpaceD rs p
  | [], _ => rfl
  | r :: t, p => by
    have e : stq p (cS r) = p.consume atoiF Lib.trimSpaceD r := if_pos rfl
    show stq p (cS r) :: (runQ (t.map cS) (stq p (cS r))).map (·.1) = _
    rw [e, cons_steps t]
    rfl
theorem p0_in : InOk p0 (false, false) 0 := ⟨rfl, (fun h => by cases h), (fun h => by cases h)⟩
theorem in_steps {s : List UInt8} (h : ptValidB s = true) (hp : ∀ b ∈ s, b ≠ 93) : (statesL atoiF Lib.trimSpaceD (runesL s) p0).map PSt.inn = inL (runesL s) (false, false) := by
  obtain ⟨h1, h2, h3⟩ := ptValid_facts h
  exact in_law atoiF Lib.trimSpaceD _ _ _ 0 p0_in (plain_runes h hp) (by rw [h2]; omega)
theorem getLastD_map {α β : Type} (f : α → β) : ∀ (l : List α) (a : α), (l.map f).getLastD (f a) = f (l.getLastD a)
  | [], _ => rfl
  | x :: t, a => by
    rw [List.map_cons, List.getLastD_cons, List.getLastD_cons]
    exact getLastD_map f t x
theorem statesL_last : ∀ (rs : List Int) (p : PSt), (statesL atoiF Lib.trimSpaceD rs p).getLastD p = rs.foldl (PSt.consume atoiF Lib.trimSpaceD) p
  | [], _ => rfl
  | r :: t, p => by
    show (p.consume atoiF Lib.trimSpaceD r :: statesL atoiF Lib.trimSpaceD t (p.consume atoiF Lib.trimSpaceD r)).getLastD p = _
    rw [List.getLastD_cons, statesL_last t]
    rfl
theorem p0_reset : p0.reset = p0 := rfl
/-- a text ends outside if the last of its states is -/
theorem parse_in {s : List UInt8} (h : ptValidB s = true) (hp : ∀ b ∈ s, b ≠ 93) : (p0.parse atoiF Lib.trimSpaceD (runesL s)).inn = (inL (runesL s) (false, false)).getLastD false := by
  have h1 := getLastD_map PSt.inn (statesL atoiF Lib.trimSpaceD (runesL s) p0) p0
  rw [in_steps h hp, statesL_last] at h1
  exact h1.symm
theorem parse_split {s t : List UInt8} (h : ptValidB s = true) (hp : ∀ b ∈ s, b ≠ 93) (hl : (inL (runesL s) (false, false)).getLastD false = false) :
    (p0.parse atoiF Lib.trimSpaceD (runesL s)).parse atoiF Lib.trimSpaceD (runesL t) = p0.parse atoiF Lib.trimSpaceD (runesL (s ++ t)) := by
  rw [runes_two h]
  exact parse_two atoiF Lib.trimSpaceD PB.zero.ok _ _ (by rw [parse_in h hp]; exact hl)

/-! ### numbers that are alike -/
def amongB (l : List Int) (n : Int) : Bool := l.any fun c => c == n
def alikeB (a b : List Int) : Bool := (a.all fun c => amongB b c) && (b.all fun c => amongB a c)
theorem amongB_iff {l : List Int} {n : Int} : amongB l n = true ↔ n ∈ l := by
  unfold amongB
  rw [List.any_eq_true]
  constructor
  · rintro ⟨x, hx, e⟩
    have : x = n := by simpa using e
    exact this ▸ hx
  · intro h
    exact ⟨n, h, by simp⟩
theorem alikeB_of {a b : List Int} (h : ∀ x, x ∈ a ↔ x ∈ b) : alikeB a b = true := by
  unfold alikeB
  rw [Bool.and_eq_true, List.all_eq_true, List.all_eq_true]
  exact ⟨fun x hx => amongB_iff.2 ((h x).1 hx), fun x hx => amongB_iff.2 ((h x).2 hx)⟩
theorem alikeB_self (a : List Int) : alikeB a a = true := alikeB_of fun _ => Iff.rfl
end Go.Proofs.YtmljkiohekogbaaGreatDoor
