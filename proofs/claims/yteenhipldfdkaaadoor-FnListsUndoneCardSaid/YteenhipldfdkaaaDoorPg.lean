import Derived.Test.YteenhipldfdkaaaDoorPu
import Derived.Test.YteenhipldfdkaaaDoorGk
namespace Go.Proofs.YteenhipldfdkaaaDoor.P
open Go.RowKit Go.Proofs.YteenhipldfdkaaaDoorW.PrintWords Go.Proofs.YteenhipldfdkaaaDoorW.PrintLast Go.Proofs.YteenhipldfdkaaaDoorW.PrintMore
set_option linter.unusedVariables false
set_option linter.unusedSimpArgs false
set_option maxRecDepth 100000
set_option maxHeartbeats 2000000

theorem lit (l : List UInt8) : (⟨l.toArray⟩ : ByteArray) = S l := rfl
theorem kn_of {s : ByteArray} (h : txSimple s true = true) : Kn (L s) := Kn.of_simple h
theorem shOk_of {x : Stp'} (h : RightX x) : ShOk x := by
  obtain ⟨h1, h2, h3, h4⟩ := h
  exact ⟨by rw [L_len]; exact h1, (kn_of h2).clean, h3, fun t ht => ⟨by rw [L_len]; exact (h4 t ht).1, (kn_of (h4 t ht).2).clean⟩⟩
theorem items_facts {xs : List Stp'} (hl : xs.length ≤ 80) (h : ∀ x ∈ xs, RightX x) : (itemsOf xs).length ≤ 800 ∧ (∀ it ∈ itemsOf xs, it.1 ≤ 80 ∧ it.2.length ≤ 200 ∧ Kn it.2) ∧ okL (itemsOf xs) := by
  have hp : ∀ p ∈ xs.map st0, p.texts.length ≤ 10 ∧ (p.text.length ≤ 200 ∧ Kn p.text) ∧ ∀ t ∈ p.texts, t.length ≤ 200 ∧ Kn t := by
    intro p hp
    obtain ⟨x, hx, rfl⟩ := List.mem_map.1 hp
    obtain ⟨h1, h2, h3, h4⟩ := h x hx
    refine ⟨by show (x.f2.map L).length ≤ 10; rw [List.length_map]; exact h3, ⟨by show (L x.f1).length ≤ 200; rw [L_len]; exact h1, kn_of h2⟩, fun t ht => ?_⟩
    obtain ⟨u, hu, rfl⟩ := List.mem_map.1 (show t ∈ x.f2.map L from ht)
    exact ⟨by rw [L_len]; exact (h4 u hu).1, kn_of (h4 u hu).2⟩
  obtain ⟨a1, a2, a3⟩ := playK_inv (xs.map st0) (fun t => t.length ≤ 200 ∧ Kn t) hp xs.length (by rw [List.length_map]; exact Nat.le_refl _)
  refine ⟨by unfold itemsOf; omega, fun it hit => ?_, (playK_ok (xs.map st0) xs.length (by rw [List.length_map]; exact Nat.le_refl _)).ok⟩
  have := a3 it hit
  exact ⟨by omega, this.2.1, this.2.2⟩
theorem weight_right {xs : List Stp'} (hl : xs.length ≤ 80) (h : ∀ x ∈ xs, RightX x) : weight xs < 5864062014805 := by
  have : ∀ (l : List Stp'), (∀ x ∈ l, RightX x) → weight l ≤ 11 * l.length := by
    intro l
    induction l with
    | nil => intro _; simp [weight]
    | cons x t ih =>
      intro hx
      have h1 := ih (fun y hy => hx y (by simp [hy]))
      have h2 := (hx x (by simp)).2.2.1
      have : weight (x :: t) = 1 + x.f2.length + weight t := by simp [weight]
      rw [this, List.length_cons]
      omega
  have := this xs h
  omega
theorem listHTML_f {xs : List Stp'} (hl : xs.length ≤ 200) (h : ∀ x ∈ xs, RightX x) (c : ByteArray) (hc : c.size ≤ 60) : impl_ListHTML.f xs c = some (S (htmlOf (clsOf (L c)) (itemsOf xs))) := by
  unfold impl_ListHTML.f
  rw [if_pos ⟨hl, fun x hx => shOk_of (h x hx), by rw [L_len]; exact hc⟩]
end Go.Proofs.YteenhipldfdkaaaDoor.P
