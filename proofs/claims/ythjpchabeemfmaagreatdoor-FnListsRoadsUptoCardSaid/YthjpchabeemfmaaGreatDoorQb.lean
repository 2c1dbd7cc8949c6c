import Derived.Test.YthjpchabeemfmaaGreatDoorPw
import Derived.Test.YthjpchabeemfmaaGreatDoorSa
import Derived.Test.YthjpchabeemfmaaGreatDoorDe
namespace Go.Proofs.YthjpchabeemfmaaGreatDoor.P
open Go.RowKit Go.Proofs.YthjpchabeemfmaaGreatDoorW.PrintWords Go.Proofs.YthjpchabeemfmaaGreatDoorW.PrintLast Go.Proofs.YthjpchabeemfmaaGreatDoorW.PrintMore
set_option linter.unusedVariables false
set_option linter.unusedSimpArgs false
set_option maxRecDepth 100000
set_option maxHeartbeats 2000000

theorem linesR_runs : ∀ (rs : List Int) (cur : List UInt8) (rest : List Int), (∀ r ∈ rs, r ≠ 10) → linesR cur (rs ++ rest) = linesR (cur ++ encs rs) rest
  | [], cur, rest, _ => by simp [encs]
  | r :: t, cur, rest, h => by
    rw [List.cons_append, linesR, if_neg (h r (by simp)), linesR_runs t _ rest fun x hx => h x (by simp [hx]), encs_cons, List.append_assoc]
/-- valid text without a line end -/
def LineT (l : List UInt8) : Prop := (∀ r ∈ runesL l, VR r ∧ r ≠ 10) ∧ encs (runesL l) = l
theorem LineT.runes {l : List UInt8} (h : LineT l) (t : List UInt8) : runesL (l ++ t) = runesL l ++ runesL t := by
  have := runesL_encs (runesL l) (fun r hr => (h.1 r hr).1) t
  rwa [h.2] at this
theorem LineT.append {a b : List UInt8} (ha : LineT a) (hb : LineT b) : LineT (a ++ b) := by
  have e := ha.runes b
  refine ⟨fun r hr => ?_, ?_⟩
  · rw [e] at hr
    rcases List.mem_append.1 hr with hr | hr
    · exact ha.1 r hr
    · exact hb.1 r hr
  · rw [e]
    have e2 : encs (runesL a ++ runesL b) = encs (runesL a) ++ encs (runesL b) := by unfold encs; rw [List.flatMap_append]
    rw [e2, ha.2, hb.2]
theorem LineT.nil : LineT [] := ⟨by intro r hr; simp [runesL_nil] at hr, rfl⟩
theorem LineT.of_simple {l : List UInt8} (h : txSimple ⟨l.toArray⟩ false = true) : LineT l := by
  have hk : Kn l := by have := Kn.of_simple h; simpa using this
  refine ⟨fun r hr => ⟨hk.vr r hr, fun e => ?_⟩, hk.encs⟩
  unfold txSimple txSimpleL at h
  rw [runes_L, List.all_eq_true] at h
  have := h r hr
  subst e
  exact absurd this (by decide)
theorem LineT.ascii : ∀ (l : List UInt8), (∀ b ∈ l, b.toNat < 128 ∧ b ≠ 10) → LineT l := by
  intro l h
  have e : runesL l = nums l := runesL_asc l fun b hb => (h b hb).1
  refine ⟨fun r hr => ?_, ?_⟩
  · have hv := VR_runesL l.length l (Nat.le_refl _) r hr
    rw [e] at hr
    obtain ⟨b, hb, rfl⟩ := List.mem_map.1 hr
    refine ⟨hv, fun h10 => (h b hb).2 (UInt8.toNat_inj.1 (by have : (b.toNat : Int) = 10 := h10; show b.toNat = 10; omega))⟩
  · rw [e]; exact asc_encs l fun b hb => (h b hb).1
theorem runes_nl (t : List UInt8) : runesL (10 :: t) = 10 :: runesL t := by
  rw [runesL_cons (10 :: t) (by simp), Lib.decodeL_ascii 10 t (by decide)]
  rfl
theorem lines_ofT : ∀ (ss : List (List UInt8)) (s0 : List UInt8), (∀ s ∈ s0 :: ss, LineT s) → linesR [] (runesL (s0 ++ ss.flatMap (fun x => 10 :: x))) = s0 :: ss
  | [], s0, h => by
    have h0 := h s0 (by simp)
    rw [List.flatMap_nil, List.append_nil]
    have := linesR_runs (runesL s0) [] [] (fun r hr => (h0.1 r hr).2)
    rw [List.append_nil, List.nil_append, h0.2] at this
    rw [this]
    rfl
  | s1 :: ss, s0, h => by
    have h0 := h s0 (by simp)
    have ih := lines_ofT ss s1 (fun s hs => h s (List.mem_cons_of_mem _ hs))
    rw [List.flatMap_cons, h0.runes]
    rw [linesR_runs (runesL s0) [] _ (fun r hr => (h0.1 r hr).2), List.nil_append, h0.2, List.cons_append, runes_nl, linesR, if_pos rfl, ih]
/-- the lines of a list rendered in a style, whose texts are lines -/
def lineO (s : Sty) (sp : List UInt8) (prev : Option Nat) (x : It) (t : List It) : List UInt8 := aheadF s sp x t ++ (bulletF s (hintF prev x t) ++ 32 :: x.2)
def linesO (s : Sty) (sp : List UInt8) : Option Nat → List It → List (List UInt8)
  | _, [] => []
  | prev, x :: t => lineO s sp prev x t :: linesO s sp (some x.1) t
theorem splitN_one : ∀ (l : List UInt8), (∀ b ∈ l, b ≠ 10) → splitN l = [l]
  | [], _ => rfl
  | b :: t, h => by
    unfold splitN
    rw [if_neg (h b (by simp)), splitN_one t fun x hx => h x (by simp [hx])]
theorem item_line (s : Sty) (sp : List UInt8) (prev : Option Nat) (x : It) (t : List It) (h : textF s x.2 = x.2) (h10 : ∀ b ∈ x.2, b ≠ 10) : itemF s sp prev x t = (if prev.isSome then [10] else []) ++ lineO s sp prev x t := by
  unfold itemF lineO
  rw [h, splitN_one _ h10]
  simp [linesF, markF]
theorem out_lines (s : Sty) (sp : List UInt8) : ∀ (l : List It) (p : Nat), (∀ it ∈ l, textF s it.2 = it.2 ∧ ∀ b ∈ it.2, b ≠ 10) → outF s sp (some p) l = (linesO s sp (some p) l).flatMap (fun x => 10 :: x)
  | [], p, _ => rfl
  | x :: t, p, h => by
    have h1 := h x (by simp)
    rw [outF, item_line s sp _ x t h1.1 h1.2, out_lines s sp t x.1 fun it hit => h it (by simp [hit])]
    rfl
theorem render_lines (s : Sty) (l : List It) (hne : l ≠ []) (h : ∀ it ∈ l, textF s it.2 = it.2 ∧ ∀ b ∈ it.2, b ≠ 10) (hT : ∀ x ∈ linesO s (spacesF s) none l, LineT x) : linesR [] (runesL (renderF s l)) = linesO s (spacesF s) none l := by
  cases l with
  | nil => exact absurd rfl hne
  | cons x t =>
    have h1 := h x (by simp)
    have e : renderF s (x :: t) = lineO s (spacesF s) none x t ++ (linesO s (spacesF s) (some x.1) t).flatMap (fun x => 10 :: x) := by
      unfold renderF
      rw [outF, item_line s _ none x t h1.1 h1.2, out_lines s _ t x.1 fun it hit => h it (by simp [hit])]
      rfl
    rw [e]
    exact lines_ofT _ _ hT
theorem linesO_len (s : Sty) (sp : List UInt8) : ∀ (l : List It) (prev : Option Nat), (linesO s sp prev l).length = l.length
  | [], _ => rfl
  | x :: t, prev => by rw [linesO, List.length_cons, List.length_cons, linesO_len s sp t]
/-- the line of the item at n -/
theorem linesO_get (s : Sty) (sp : List UInt8) : ∀ (l : List It) (prev : Option Nat) (n : Nat) (x : It), l[n]? = some x → ∃ p, (linesO s sp prev l)[n]? = some (lineO s sp p x (l.drop (n + 1)))
  | [], prev, n, x, h => by simp at h
  | y :: t, prev, 0, x, h => by
    simp only [List.getElem?_cons_zero, Option.some.injEq] at h
    subst h
    exact ⟨prev, by simp [linesO]⟩
  | y :: t, prev, n + 1, x, h => by
    obtain ⟨p, hp⟩ := linesO_get s sp t (some y.1) n x (by simpa using h)
    exact ⟨p, by simpa [linesO] using hp⟩
theorem linesO_mem (s : Sty) (sp : List UInt8) (l : List It) (prev : Option Nat) (y : List UInt8) (h : y ∈ linesO s sp prev l) : ∃ p x t, x ∈ l ∧ y = lineO s sp p x t := by
  obtain ⟨n, hn⟩ := List.getElem?_of_mem h
  have hlt : n < l.length := by rw [← linesO_len s sp l prev]; exact (List.getElem?_eq_some_iff.1 hn).1
  obtain ⟨p, hp⟩ := linesO_get s sp l prev n l[n] (List.getElem?_eq_getElem hlt)
  rw [hn] at hp
  exact ⟨p, l[n], _, List.getElem_mem hlt, (Option.some.inj hp)⟩
theorem LineT.links {v sp : List UInt8} (hv : LineT v) (hs : LineT sp) (t : List It) : ∀ n k, LineT (linksF v sp t k n)
  | 0, k => LineT.nil
  | n + 1, k => by
    rw [linksF]
    refine LineT.append ?_ (LineT.links hv hs t n (k + 1))
    split
    · exact hv
    · exact hs
theorem spaces_line (s : Sty) : LineT (spacesF s) := LineT.ascii _ fun b hb => by
  unfold spacesF at hb
  have := (List.mem_replicate.1 hb).2
  subst this
  exact ⟨by decide, by decide⟩
/-- a style whose texts are lines -/
structure LineSt (s : Sty) : Prop where
  single : LineT s.single
  top : LineT s.top
  first : LineT s.first
  middle : LineT s.middle
  vert : LineT s.vert
  bottom : LineT s.bottom
  pre : LineT s.pre
theorem LineSt.bullet {s : Sty} (h : LineSt s) (hn : Hint) : LineT (bulletF s hn) := by
  unfold bulletF
  split
  · split
    · exact h.single
    · exact h.bottom
  · split
    · exact h.top
    · split
      · exact h.first
      · split
        · exact h.bottom
        · split
          · exact h.bottom
          · exact h.middle
theorem LineSt.line {s : Sty} (h : LineSt s) (p : Option Nat) (x : It) (t : List It) (hx : LineT x.2) : LineT (lineO s (spacesF s) p x t) := by
  unfold lineO aheadF
  refine ((h.pre.append (LineT.links h.vert (spaces_line s) t x.1 0))).append ((h.bullet _).append ?_)
  exact (LineT.ascii [32] (by intro b hb; simp only [List.mem_singleton] at hb; subst hb; exact ⟨by decide, by decide⟩)).append hx
theorem render_linesL {s : Sty} (h : LineSt s) (hs : ShortSt s) (l : List It) (hne : l ≠ []) (hl : ∀ it ∈ l, it.1 ≤ 200 ∧ it.2.length ≤ 200) (ht : ∀ it ∈ l, textF s it.2 = it.2 ∧ LineT it.2 ∧ ∀ b ∈ it.2, b ≠ 10) (hn : l.length ≤ 800) (hsz : (renderF s l).length ≤ 1000000000) :
    spec_TxLines.f (S (renderF s l)) = some ((linesO s (spacesF s) none l).map S) := by
  unfold spec_TxLines.f
  rw [if_pos (by rw [S_sz]; exact hsz), runes_eq, L_S, render_lines s l hne (fun it hit => ⟨(ht it hit).1, (ht it hit).2.2⟩) (fun y hy => by
    obtain ⟨p, x, t, hx, rfl⟩ := linesO_mem s _ l none y hy
    exact h.line p x t (ht x hx).2.1)]
end Go.Proofs.YthjpchabeemfmaaGreatDoor.P
