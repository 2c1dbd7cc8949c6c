import Derived.Test.YthjpchabeemfmaaDoorRows
import Derived.Test.YthjpchabeemfmaaDoorGa
import Derived.Deep.Slices
import Derived.Lib.LaidTab
import Derived.Lib.LaidU8
import Derived.WideShapes
namespace Go.Proofs.YthjpchabeemfmaaDoor
open Go.RowKit Go.ChangeShapes Go.WideShapes Go.Deep
set_option linter.unusedVariables false
set_option linter.unusedSimpArgs false
set_option maxRecDepth 100000
set_option maxHeartbeats 4000000

theorem spotlessQ {w : World} {a : Addr} {u : Value} (h : w.cell? a = some u) : a = ⟨a.block, a.off, none⟩ := by
  obtain ⟨b, o, s⟩ := a
  cases s with
  | none => rfl
  | some x =>
    unfold World.cell? at h
    split at h
    · simp at h
    · cases h
theorem pickQ {α : Type} [Inhabited α] : ∀ (n : Nat) (Q : Nat → α → Prop), (∀ j, j < n → ∃ c, Q j c) → ∃ cs : List α, cs.length = n ∧ ∀ j c, cs[j]? = some c → Q j c
  | 0, Q, h => ⟨[], rfl, fun j c hj => by simp at hj⟩
  | n + 1, Q, h => by
    obtain ⟨c, hc⟩ := h 0 (by omega)
    obtain ⟨cs, h1, h2⟩ := pickQ n (fun j => Q (j + 1)) (fun j hj => h (j + 1) (by omega))
    refine ⟨c :: cs, by simp [h1], fun j c' hj => ?_⟩
    cases j with
    | zero => simp at hj; subst hj; exact hc
    | succ j => exact h2 j c' (by simpa using hj)
theorem flat_lenQ {α : Type} (cells : α → List Value) (sz : Nat) (hlen : ∀ v, (cells v).length = sz) : ∀ l : List α, (l.flatMap cells).length = l.length * sz
  | [] => by simp
  | v :: t => by
    rw [List.flatMap_cons, List.length_append, hlen, flat_lenQ cells sz hlen t, List.length_cons, Nat.add_mul]
    omega
theorem flat_getQ {α : Type} (cells : α → List Value) (sz : Nat) (hlen : ∀ v, (cells v).length = sz) : ∀ (l : List α) (j : Nat) (u : Value), (l.flatMap cells)[j]? = some u → ∃ i r v, j = i * sz + r ∧ r < sz ∧ l[i]? = some v ∧ (cells v)[r]? = some u
  | [], j, u, h => by simp at h
  | v :: t, j, u, h => by
    rw [List.flatMap_cons] at h
    by_cases hj : j < sz
    · rw [List.getElem?_append_left (by rw [hlen]; exact hj)] at h
      exact ⟨0, j, v, by omega, hj, rfl, h⟩
    · rw [List.getElem?_append_right (by rw [hlen]; omega), hlen] at h
      obtain ⟨i, r, v', h1, h2, h3, h4⟩ := flat_getQ cells sz hlen t (j - sz) u h
      exact ⟨i + 1, r, v', by rw [Nat.add_mul]; omega, h2, by simpa using h3, h4⟩
theorem flat_oneQ {α : Type} (f : α → Value) : ∀ l : List α, l.flatMap (fun v => [f v]) = l.map f
  | [] => rfl
  | v :: t => by rw [List.flatMap_cons, flat_oneQ f t]; rfl
section
variable {H : Type} {enc : TypeId × Value → H} {W : World} {spare : Nat → Bool} {held : Bool}
theorem opensQ {α : Type} [Inhabited α] (cells : α → List Value) (Q : α → Prop) (sz : Nat) (hsz : 0 < sz) (hlen : ∀ v, (cells v).length = sz) {e t : TypeId} (ht : Tryd.prog.underlying t = some (.slice e)) (hc : Tryd.prog.cellsOf e = sz)
    (hd : ∀ fuel cs x, DataW.trod enc Tryd.prog W 0 spare held fuel e cs = some x → ∃ v : α, cs = cells v ∧ Q v) {fuel : Nat} {cs : List Value} {x : DataW H × List MemPlace} (h : DataW.trod enc Tryd.prog W 0 spare held fuel t cs = some x) :
    ∃ (l : List α) (A : Option Addr) (c : Nat), cs = [.slice A l.length c] ∧ RdF W (.slice A l.length c) sz l.length (l.flatMap cells) ∧ (A = none → c = 0) ∧ ∀ v ∈ l, Q v := by
  rcases open_slice ht h with ⟨rfl, rfl⟩ | ⟨a, len, cap, mm, n, D, Pl, rfl, hb, hl, hm, hmm, rfl, hx⟩
  · exact ⟨[], none, 0, rfl, ⟨by simp, by simp, none, 0, rfl, Nat.le_refl _, trivial, fun h => absurd rfl h⟩, fun _ => rfl, by simp⟩
  · have hlm : len ≤ mm := by rw [hmm]; split <;> omega
    rw [hc] at hx
    obtain ⟨xs, hxl, hxs⟩ := pickQ (α := α) len (fun j v => (∀ r u, (cells v)[r]? = some u → W.cell? (a.add (j * sz + r)) = some u) ∧ Q v) (fun j hj => by
      obtain ⟨cs', h1, h2⟩ := hx j (by omega)
      obtain ⟨v, rfl, hq⟩ := hd n cs' _ h2
      obtain ⟨_, hcl, hcell⟩ := World.cells?_some h1
      refine ⟨v, fun i u hi => ?_, hq⟩
      have hlt : i < sz := by rw [← hcl]; exact (List.getElem?_eq_some_iff.1 hi).1
      have := hcell i hlt
      rw [Go.Deep.add_add, hi] at this
      exact this)
    subst hxl
    refine ⟨xs, some a, cap, rfl, ⟨by simp only [maxLen] at hm; omega, flat_lenQ cells sz hlen xs, some a, cap, rfl, hl, trivial, fun h0 => ?_⟩, (fun e => by cases e), fun v hv => by
      obtain ⟨i, hi⟩ := List.getElem?_of_mem hv
      exact (hxs i v hi).2⟩
    have hs : a = ⟨a.block, a.off, none⟩ := by
      obtain ⟨v, hv⟩ : ∃ v, xs[0]? = some v := ⟨_, List.getElem?_eq_getElem (by omega)⟩
      obtain ⟨u, hu⟩ : ∃ u, (cells v)[0]? = some u := ⟨_, List.getElem?_eq_getElem (by rw [hlen]; exact hsz)⟩
      have := (hxs 0 v hv).1 0 u hu
      exact spotlessQ (a := a) (by simpa [Addr.add] using this)
    refine ⟨a.block, a.off, by rw [← hs], fun j u hj => ?_⟩
    obtain ⟨i, r, v, rfl, hr, hv, hu⟩ := flat_getQ cells sz hlen xs j u hj
    have := (hxs i v hv).1 r u hu
    rw [hs, add_plain] at this
    exact this
end
open Go.Shelf Go.Lib in
theorem tab_readsQ {P : Program} {w : World} {n : String} {k : IntKind} {zs : List Int} {g : Nat} {t e : TypeId} {m : Nat} (hg : P.globalNamed n = some g) (hty : (P.globals[g]?).map (·.type) = some t) (ht : P.underlying t = some (.array m e)) (he : P.underlying e = some (.int k)) (hce : P.cellsOf e = 1) (hct : P.cellsOf t = m)
    (h : VarReads P w n (tabData k zs)) : Lib.TabIs P w n k zs := by
  obtain ⟨g', t', cs, fuel, p, hg', ht', hvar, hd⟩ := h
  obtain rfl := Option.some.inj (hg.symm.trans hg')
  obtain rfl := Option.some.inj (hty.symm.trans ht')
  unfold Lib.TabIs
  rw [hvar, ← Lib.cells_of_tab ht he hce hct hd]
end Go.Proofs.YthjpchabeemfmaaDoor
