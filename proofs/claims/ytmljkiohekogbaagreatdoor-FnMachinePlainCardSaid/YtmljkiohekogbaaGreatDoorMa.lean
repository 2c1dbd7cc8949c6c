import Derived.Test.YtmljkiohekogbaaGreatDoorGa
import Derived.Maps.OwnSet
import Derived.Maps.Views
namespace Go.Proofs.YtmljkiohekogbaaGreatDoor
open Go.RowKit
set_option linter.unusedVariables false
set_option linter.unusedSimpArgs false
set_option maxHeartbeats 2000000
set_option maxRecDepth 100000

/-! ### the codes that are on: rising numbers -/
def Rise (c : List Int) : Prop := c.Pairwise (· < ·)
def delC (x : Int) (c : List Int) : List Int := c.filter fun y => !decide (y = x)
def insL (x : Int) : List Int → List Int
  | [] => [x]
  | y :: t => if x < y then x :: y :: t else y :: insL x t
def insC (x : Int) (c : List Int) : List Int := insL x (delC x c)
/-- the codes from a to b are turned off -/
def delR (a b : Int) (c : List Int) : List Int := c.filter fun y => !decide (a ≤ y ∧ y ≤ b)

theorem mem_insL {x y : Int} : ∀ {l : List Int}, y ∈ insL x l ↔ y = x ∨ y ∈ l
  | [] => by simp [insL]
  | z :: t => by
    unfold insL
    split
    · simp
    · simp only [List.mem_cons, mem_insL (l := t)]
      constructor
      · rintro (h | h | h) <;> simp [h]
      · rintro (h | h | h) <;> simp [h]
theorem mem_delC {x y : Int} {l : List Int} : y ∈ delC x l ↔ y ∈ l ∧ y ≠ x := by simp [delC]
theorem mem_delR {a b y : Int} {l : List Int} : y ∈ delR a b l ↔ y ∈ l ∧ ¬ (a ≤ y ∧ y ≤ b) := by unfold delR; rw [List.mem_filter]; simp only [Bool.not_eq_true', decide_eq_false_iff_not]
theorem mem_insC {x y : Int} {l : List Int} : y ∈ insC x l ↔ y = x ∨ y ∈ l := by
  unfold insC
  rw [mem_insL, mem_delC]
  constructor
  · rintro (h | ⟨h, _⟩) <;> simp [h]
  · rintro (h | h)
    · exact .inl h
    · by_cases e : y = x
      · exact .inl e
      · exact .inr ⟨h, e⟩
theorem insL_length (x : Int) : ∀ l : List Int, (insL x l).length = l.length + 1
  | [] => rfl
  | y :: t => by
    unfold insL
    split
    · rfl
    · simp only [List.length_cons, insL_length x t]
theorem delC_le (x : Int) (l : List Int) : (delC x l).length ≤ l.length := List.length_filter_le _ _
theorem delR_le (a b : Int) (l : List Int) : (delR a b l).length ≤ l.length := List.length_filter_le _ _
theorem insC_le (x : Int) (l : List Int) : (insC x l).length ≤ l.length + 1 := by
  unfold insC
  rw [insL_length]
  have := delC_le x l
  omega
theorem Rise.del {x : Int} {l : List Int} (h : Rise l) : Rise (delC x l) := List.Pairwise.filter _ h
theorem Rise.delR {a b : Int} {l : List Int} (h : Rise l) : Rise (delR a b l) := List.Pairwise.filter _ h
theorem Rise.insL {x : Int} : ∀ {l : List Int}, Rise l → x ∉ l → Rise (insL x l)
  | [], _, _ => List.pairwise_singleton _ _
  | y :: t, h, hx => by
    have h2 := List.pairwise_cons.1 h
    simp only [List.mem_cons, not_or] at hx
    unfold Go.Proofs.YtmljkiohekogbaaGreatDoor.insL
    split
    · rename_i hlt
      refine List.pairwise_cons.2 ⟨fun z hz => ?_, h⟩
      rcases List.mem_cons.1 hz with rfl | hz
      · exact hlt
      · exact Int.lt_trans hlt (h2.1 z hz)
    · rename_i hlt
      refine List.pairwise_cons.2 ⟨fun z hz => ?_, Rise.insL h2.2 hx.2⟩
      rcases mem_insL.1 hz with rfl | hz
      · have := hx.1; omega
      · exact h2.1 z hz
theorem Rise.ins {x : Int} {l : List Int} (h : Rise l) : Rise (insC x l) := Rise.insL h.del (by rw [mem_delC]; exact fun h => h.2 rfl)
/-- rising numbers are known by what is among them -/
theorem Rise.ext : ∀ {a b : List Int}, Rise a → Rise b → (∀ x, x ∈ a ↔ x ∈ b) → a = b
  | [], [], _, _, _ => rfl
  | [], y :: t, _, _, h => absurd ((h y).2 (by simp)) (by simp)
  | y :: t, [], _, _, h => absurd ((h y).1 (by simp)) (by simp)
  | x :: s, y :: t, ha, hb, h => by
    have h1 := List.pairwise_cons.1 ha
    have h2 := List.pairwise_cons.1 hb
    have e : x = y := by
      rcases List.mem_cons.1 ((h x).1 (by simp)) with e | e
      · exact e
      rcases List.mem_cons.1 ((h y).2 (by simp)) with e' | e'
      · exact e'.symm
      have := h1.1 y e'
      have := h2.1 x e
      omega
    subst e
    rw [Rise.ext h1.2 h2.2 (fun z => ?_)]
    constructor
    · intro hz
      rcases List.mem_cons.1 ((h z).1 (List.mem_cons_of_mem _ hz)) with e | e
      · subst e; exact absurd (h1.1 z hz) (by omega)
      · exact e
    · intro hz
      rcases List.mem_cons.1 ((h z).2 (List.mem_cons_of_mem _ hz)) with e | e
      · subst e; exact absurd (h2.1 z hz) (by omega)
      · exact e

/-! ### as a map -/
def setE (c : List Int) : List (Lit × DataW Unit) := c.map fun k => (.int .i64 k, .lit (.bool true))
def setD (c : List Int) : DataW Unit := .map (setE c)
theorem setE_len (c : List Int) : (setE c).length = c.length := by unfold setE; rw [List.length_map]
theorem setD_del (x : Int) (c : List Int) : (setD c).del (.int .i64 x) = setD (delC x c) := by
  unfold setD DataW.del setE delC
  simp only [List.filter_map]
  congr 2
  apply List.filter_congr
  intro y _
  simp [Lit.sameKey]
theorem insert_setE (x : Int) : ∀ c : List Int, DataW.insert (.int .i64 x, .lit (.bool true)) (setE c) = setE (insL x c)
  | [] => rfl
  | y :: t => by
    unfold insL
    show DataW.insert (.int .i64 x, .lit (.bool true)) ((.int .i64 y, .lit (.bool true)) :: setE t) = _
    have hb : (Lit.int IntKind.i64 x).before (Lit.int IntKind.i64 y) = decide (x < y) := rfl
    unfold DataW.insert
    by_cases h : x < y
    · rw [if_pos (hb.trans (decide_eq_true h)), if_pos h]
      rfl
    · rw [if_neg (fun e => h (of_decide_eq_true (hb.symm.trans e))), if_neg h, insert_setE x t]
      rfl
theorem setD_put (x : Int) (c : List Int) : (setD c).put (.int .i64 x) (.lit (.bool true)) = setD (insC x c) := by
  have h := setD_del x c
  unfold setD DataW.del at h
  injection h with h
  unfold setD insC
  show DataW.map (DataW.insert (.int .i64 x, .lit (.bool true)) ((setE c).filter fun p => !p.1.sameKey (.int .i64 x))) = _
  rw [h, insert_setE]
theorem setD_size (c : List Int) : Go.Maps.size (setD c) = c.length := by unfold setD; rw [Go.Maps.size_eq, setE_len]
theorem setD_nil : setD [] = .map [] := rfl
theorem setD_at (x : Int) (c : List Int) : (setD c).atKey (.int .i64 x) (.lit (.bool false)) = .lit (.bool (decide (x ∈ c))) := by
  unfold setD DataW.atKey setE
  simp only
  rw [List.find?_map]
  induction c with
  | nil => simp
  | cons y t ih =>
    rw [List.find?_cons]
    by_cases e : y = x
    · subst e
      simp [Lit.sameKey]
    · have : ((fun p : Lit × DataW Unit => p.1.sameKey (.int .i64 x)) ∘ fun k => (Lit.int .i64 k, (.lit (.bool true) : DataW Unit))) y = false := by simp [Lit.sameKey, e]
      rw [this]
      simp only
      rw [ih]
      have : x ≠ y := fun h => e h.symm
      simp [this]
theorem setD_has (x : Int) (c : List Int) : Go.Maps.has (setD c) (.int .i64 x) = decide (x ∈ c) := by
  unfold setD setE
  rw [Go.Maps.has_eq, List.any_map, Bool.eq_iff_iff]
  simp only [List.any_eq_true, Function.comp, Lit.sameKey, decide_eq_true_eq, true_and]
  exact ⟨fun ⟨y, h1, h2⟩ => h2 ▸ h1, fun h => ⟨x, h, rfl⟩⟩

/-! ### what a sequence does -/
/-- a text, parted at each byte x -/
def splitX (x : UInt8) : List UInt8 → List (List UInt8)
  | [] => [[]]
  | b :: t => if b = x then [] :: splitX x t else match splitX x t with
    | [] => [[b]]
    | l :: r => (b :: l) :: r
/-- without the first one of a text -/
def strike1 (old s : List UInt8) : List UInt8 := match zIdx old s with
  | none => s
  | some i => s.take i ++ s.drop (i + old.length)
def procCode (n : Int) (c : List Int) : List Int :=
  if n = 0 then [] else if n = 22 then delC 2 (delC 1 c) else if n = 23 then delC 3 c else if n = 24 then delC 4 c else if n = 25 then delC 6 (delC 5 c) else if n = 27 then delC 7 c else if n = 29 then delC 9 c
  else if n = 39 then delR 1000 1255 (delR 90 97 (delR 30 37 c)) else if n = 49 then delR 2000 2255 (delR 100 107 (delR 40 47 c)) else if n < 1000 ∨ 2255 < n then insC n c else c
/-- a color of 256 is turned on -/
def set256 (base k : Int) (c : List Int) : List Int := (insC (base + k) c).filter fun y => !decide (base ≤ y ∧ y ≤ base + 255 ∧ y ≠ base + k)
def clearRange (fg : Bool) (c : List Int) : List Int := if fg then delR 90 97 (delR 30 37 c) else delR 100 107 (delR 40 47 c)
section
variable (atoi : List UInt8 → Option Int)
/-- the three pieces that are a color of 256, if they are -/
def par256 : List (List UInt8) → Option (Int × Int)
  | x :: y :: z :: _ => match atoi x with
    | none => none
    | some n => if n = 38 ∨ n = 48 then (match atoi y with
      | none => none
      | some m => if m = 5 then (match atoi z with
        | none => none
        | some k => if 0 ≤ k ∧ k ≤ 255 then some (k, if n = 38 then 1000 else 2000) else none) else none) else none
  | _ => none
/-- the colors of 256 among the pieces; which pieces they take -/
def all256 : Nat → List (List UInt8) → List Int → List Int × List Bool
  | 0, _, c => (c, [])
  | _ + 1, [], c => (c, [])
  | f + 1, x :: t, c => match par256 atoi (x :: t) with
    | some (k, b) => let q := all256 f (t.drop 2) (clearRange (b == 1000) (set256 b k c)); (q.1, true :: true :: true :: q.2)
    | none => let q := all256 f t c; (q.1, false :: q.2)
/-- the other pieces -/
def regular : List (List UInt8) → List Bool → List Int → List Int
  | [], _, c => c
  | x :: t, m, c => regular t m.tail (if m.head? = some true then c else match atoi x with
    | none => c
    | some n => procCode n c)
def parsePieces (l : List (List UInt8)) (c : List Int) : List Int := let q := all256 atoi l.length l c; regular atoi l q.2 q.1
variable (trim : List UInt8 → List UInt8)
def stripSeq (kind : Int) (s : List UInt8) : List UInt8 := if kind = 2 then strike1 [92] (strike1 [27, 93] s) else strike1 [109] (strike1 [27, 91] s)
def parseSeq (s : List UInt8) (kind : Int) (c : List Int) : List Int := parsePieces atoi ((splitX 59 (stripSeq kind s)).map trim) c
/-- what a parser knows -/
structure PSt where
  inn : Bool
  kind : Int
  esc : List UInt8
  codes : List Int
def PSt.reset (p : PSt) : PSt := { p with inn := false, kind := 0, esc := [] }
def conceal : List UInt8 := [27, 93, 56, 59]
def stopRune (e : List UInt8) (kind r : Int) : Bool := if conceal.isPrefixOf e then [27, 92].isSuffixOf e else (decide (kind = 1) && decide (r = 109)) || (decide (kind = 2) && decide (r = 92))
/-- what a character opens -/
def PSt.opened (p : PSt) (r : Int) : PSt :=
  if p.inn = false ∧ r = 27 then { p with inn := true, kind := 0, esc := [] }
  else if p.inn = true ∧ p.kind = 0 then (if r = 91 then { p with kind := 1 } else if r = 93 then { p with kind := 2 } else p)
  else p
def PSt.consume (p : PSt) (r : Int) : PSt :=
  let q := p.opened r
  if q.inn = false then q else
  let e := q.esc ++ Lib.encodeRune r
  if 2048 < e.length then q.reset
  else if (q.kind = 2 ∧ conceal.isPrefixOf e = true ∧ r = 7) ∨ stopRune e q.kind r = true then ({ q with codes := parseSeq atoi trim e q.kind q.codes }).reset
  else { q with esc := e }
def PSt.parse (p : PSt) (rs : List Int) : PSt := rs.foldl (PSt.consume atoi trim) p.reset
end
/-- the sequence of codes -/
def codeSeq (dec : Int → List UInt8) (k : Int) : List UInt8 :=
  if 1000 ≤ k ∧ k ≤ 1255 then [51, 56, 59, 53, 59] ++ dec (k - 1000) else if 2000 ≤ k ∧ k ≤ 2255 then [52, 56, 59, 53, 59] ++ dec (k - 2000) else dec k
def seqTail (dec : Int → List UInt8) (c : List Int) : List UInt8 := c.flatMap fun k => 59 :: codeSeq dec k
def seqOf (dec : Int → List UInt8) : List Int → List UInt8
  | [] => []
  | k :: t => 27 :: 91 :: (codeSeq dec k ++ (seqTail dec t ++ [109]))
end Go.Proofs.YtmljkiohekogbaaGreatDoor
