import Derived.Test.YthjpchabeemfmaaGreatDoorPx0
import Derived.Test.YthjpchabeemfmaaGreatDoorRows
import Derived.Deep.Slices
import Derived.ChangeSame
import Derived.OpenShut
import Derived.ShutString
namespace Go.Proofs.YthjpchabeemfmaaGreatDoor.P
open Go.RowKit Go.ChangeShapes Go.Deep Go.Proofs.YthjpchabeemfmaaGreatDoorW.PrintWords Go.Proofs.YthjpchabeemfmaaGreatDoorW.PrintLast Go.Proofs.YthjpchabeemfmaaGreatDoorW.PrintMore
set_option linter.unusedVariables false
set_option linter.unusedSimpArgs false
set_option maxRecDepth 100000
set_option maxHeartbeats 2000000

/-- whatever reads at the type t is a value of the kind d, of weight at most its bulk -/
def Opens {α : Type} (d : Kd α) (t : TypeId) (m : α → Nat) : Prop := ∀ (H : Type) (enc : TypeId × Value → H) (W : World) (spare : Nat → Bool) (held : Bool) (fuel : Nat) (cs : List Value) (x : DataW H × List MemPlace), DataW.trod enc Tryz.prog W 0 spare held fuel t cs = some x → ∃ v, d.K W v cs ∧ m v + 1 ≤ Rows.uptoBulk x.1
theorem opens_string : Opens Kd.string 9 (fun s => s.size) := by
  intro H enc W spare held fuel cs x h
  obtain ⟨s, rfl, rfl, _⟩ := DataW.trod_string Tryz.underlying9 h
  exact ⟨s, rfl, (by show s.size + 1 ≤ s.data.toList.length + 1; rw [Array.length_toList]; exact Nat.le_refl _)⟩
theorem opens_int {k : IntKind} {t : TypeId} (ht : Tryz.prog.underlying t = some (.int k)) : Opens (Kd.int k) t (fun _ => 0) := by
  intro H enc W spare held fuel cs x h
  obtain ⟨n, rfl, rfl, _⟩ := DataW.trod_int ht h
  exact ⟨n, rfl, by simp [Rows.uptoBulk]⟩
theorem pickN {α β : Type} [Inhabited α] : ∀ (n : Nat) (Q : Nat → α → Prop), (∀ j, j < n → ∃ c, Q j c) → ∃ cs : List α, cs.length = n ∧ ∀ j c, cs[j]? = some c → Q j c
  | 0, Q, h => ⟨[], rfl, fun j c hj => by simp at hj⟩
  | n + 1, Q, h => by
    obtain ⟨c, hc⟩ := h 0 (by omega)
    obtain ⟨cs, h1, h2⟩ := pickN (β := β) n (fun j => Q (j + 1)) (fun j hj => h (j + 1) (by omega))
    refine ⟨c :: cs, by simp [h1], fun j c' hj => ?_⟩
    cases j with
    | zero => simp at hj; subst hj; exact hc
    | succ j => exact h2 j c' (by simpa using hj)
theorem bulk_all {H : Type} : ∀ (l : List (DataW H)) (n : List Nat), l.length = n.length → (∀ (i : Nat) d m, l[i]? = some d → n[i]? = some m → m ≤ Rows.uptoBulk d) → n.sum ≤ Rows.uptoBulkAll l
  | [], [], _, _ => by simp [Rows.uptoBulkAll]
  | [], _ :: _, h, _ => by simp at h
  | _ :: _, [], h, _ => by simp at h
  | d :: l, m :: n, h, hx => by
    have h1 := hx 0 d m rfl rfl
    have h2 := bulk_all l n (by simpa using h) (fun i d' m' a b => hx (i + 1) d' m' (by simpa using a) (by simpa using b))
    simp only [Rows.uptoBulkAll, List.sum_cons]
    omega
theorem opens_slice {α : Type} [Inhabited α] {d : Kd α} {e t : TypeId} {m : α → Nat} (ht : Tryz.prog.underlying t = some (.slice e)) (hc : Tryz.prog.cellsOf e = d.sz) (hd : Opens d e m) : Opens (Kd.slice e d) t (fun l => (l.map fun v => m v + 1).sum) := by
  intro H enc W spare held fuel cs x h
  rcases open_slice ht h with ⟨rfl, rfl⟩ | ⟨a, len, cap, mm, n, D, Pl, rfl, hb, hl, hm, hmm, rfl, hx⟩
  · exact ⟨[], ⟨none, 0, rfl, Nat.le_refl _, ⟨rfl, by simp, fun h => by simp at h⟩⟩, by simp [Rows.uptoBulk]⟩
  · have hlm : len ≤ mm := by rw [hmm]; split <;> omega
    rw [hc] at hx
    obtain ⟨xs, hxl, hxs⟩ := pickN (α := α) (β := α) len (fun j v => (∃ c : List Value, c.length = d.sz ∧ d.K W v c ∧ ∀ i u, c[i]? = some u → W.cell? (a.add (j * d.sz + i)) = some u) ∧ m v + 1 ≤ Rows.uptoBulk (D j)) (fun j hj => by
      obtain ⟨cs', h1, h2⟩ := hx j (by omega)
      obtain ⟨v, hv, hw⟩ := hd H enc W spare held n cs' _ h2
      obtain ⟨_, hcl, hcell⟩ := World.cells?_some h1
      refine ⟨v, ⟨cs', hcl, hv, fun i u hi => ?_⟩, hw⟩
      have hlt : i < d.sz := by rw [← hcl]; exact (List.getElem?_eq_some_iff.1 hi).1
      have := hcell i hlt
      rw [Go.Deep.add_add, hi] at this
      exact this)
    refine ⟨xs, ⟨some a, cap, by rw [hxl], by rw [hxl]; exact hl, ⟨rfl, by rw [hxl]; simp only [maxLen] at hm; omega, fun _ => ⟨a, rfl, fun j p hj => (hxs j p hj).1⟩⟩⟩, ?_⟩
    have := bulk_all ((List.range len).map D) (xs.map fun v => m v + 1) (by simp [hxl]) (fun i dd mm' a1 a2 => by
      rw [List.getElem?_map] at a1 a2
      cases hv : xs[i]? with
      | none => rw [hv] at a2; cases a2
      | some v =>
        rw [hv] at a2
        injection a2 with a2
        have hi : i < len := by rw [← hxl]; exact (List.getElem?_eq_some_iff.1 hv).1
        rw [List.getElem?_range hi] at a1
        injection a1 with a1
        subst a1 a2
        exact (hxs i v hv).2)
    simp only [Rows.uptoBulk]
    omega
/-- a step -/
theorem opens_step : Opens k39 39 (fun x => x.f1.size + (x.f2.map fun s => s.size + 1).sum) := by
  intro H enc W spare held fuel cs x h
  obtain ⟨xs, n, _, rfl, hl, hlen, hf⟩ := DataW.trod_struct Tryz.underlying39 h
  have hl3 : cs.length = 3 := hl
  obtain ⟨c0, c1, c2, rfl⟩ : ∃ c0 c1 c2, cs = [c0, c1, c2] := by
    match cs, hl3 with
    | [a, b, c], _ => exact ⟨a, b, c, rfl⟩
  match xs, hlen with
  | [y0, y1, y2], _ =>
    have f0 := hf 0 _ rfl
    have f1 := hf 1 _ rfl
    have f2 := hf 2 _ rfl
    obtain ⟨v0, k0, _⟩ := opens_int (k := .i64) Tryz.underlying3 H enc W spare held n [c0] y0 f0
    obtain ⟨v1, k1, m1⟩ := opens_string H enc W spare held n [c1] y1 f1
    obtain ⟨v2, k2, m2⟩ := opens_slice Tryz.underlying37 (by kernel_rfl) opens_string H enc W spare held n [c2] y2 f2
    obtain ⟨A2, e2, h2, l2, g2⟩ := k2
    have h0 : [c0] = [.int .i64 v0] := k0
    have h1 : [c1] = [.string v1] := k1
    simp only [List.cons.injEq, and_true] at h0 h1 h2
    subst h0 h1 h2
    refine ⟨⟨v0, v1, v2⟩, k39_mk W ⟨v0, v1, v2⟩ l2 g2, ?_⟩
    simp only [Rows.uptoBulk, List.map_cons, List.map_nil, Rows.uptoBulkAll]
    simp only at m1 m2
    omega
instance : Inhabited S39 := ⟨z39⟩
theorem opens_steps : Opens (Kd.slice 39 k39) 22 (fun l => (l.map fun x => x.f1.size + (x.f2.map fun s => s.size + 1).sum + 1).sum) := opens_slice Tryz.underlying22 (by kernel_rfl) opens_step
end Go.Proofs.YthjpchabeemfmaaGreatDoor.P
