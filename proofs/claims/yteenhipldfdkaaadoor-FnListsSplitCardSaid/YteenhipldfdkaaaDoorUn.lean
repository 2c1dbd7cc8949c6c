import Derived.Test.YteenhipldfdkaaaDoorDg
import Derived.Maps.AppendAt
namespace Go.Proofs.YteenhipldfdkaaaDoor
open Go.RowKit
set_option linter.unusedVariables false
set_option linter.unusedSimpArgs false
set_option maxHeartbeats 4000000
set_option maxRecDepth 100000
attribute [local go_sem] S_extract S_append run_cut_S run_head_S run_tail_S Nat.add_sub_cancel_left

section
variable {P : Program} (w : World)
/-- append_read, with the place of the new row -/
theorem append_read_at {ops : Array Oper} {rest : List Oper} {o : Oper} {a : Act} {Q : Exit → Act → World → Prop} (hgd : o.guard = none) (sl x : Operand) (t e : TypeId) (z : Value) (size bytes : Nat)
    (ho : o.op = .call { callee := .builtin .append, args := #[sl, x], argTypes := #[t, t] })
    (ht : P.underlying t = some (.slice e)) (hi : (P.info? e).map (fun i => (i.zero, i.size, i.bytes)) = some (some z, size, bytes)) (hzs : z.cells.size = size) (hsz : 0 < size)
    (base : Nat) (v : Value) (n : Nat) (xs : List Value) (hs : a.eval sl = v) (hown : w.ownsRow base e size v n xs)
    (A : Option Addr) (m c : Nat) (news : List Value) (hx : a.eval x = .slice A m c) (hc : A = none → c = 0) (hl : news.length = m * size)
    (hsrc : m ≠ 0 → ∃ g o', A = some ⟨g, o', none⟩ ∧ ∀ j u, news[j]? = some u → w.cell? ⟨g, o' + j, none⟩ = some u) (h1 : ∀ u ∈ news, u.oneCell' = true)
    (hb : (n + m) * bytes ≤ 140737488355328) (hb0 : 0 < bytes) (hbase : base ≤ w.heap.size)
    (h : ∀ v' w', w'.ownsRow base e size v' (n + m) (xs ++ news) → w.grownBy w' v.ownBlock → (v'.ownBlock = v.ownBlock ∨ v'.ownBlock = some w.heap.size) → wpList P ops Q rest (a.put o.dst v') w') : wpList P ops Q (o :: rest) a w := by
  obtain ⟨i, hi0, hz0, hz1, hz2⟩ := info_parts hi
  have h63 : n + m ≤ maxLen := by
    have : n + m ≤ (n + m) * bytes := Nat.le_mul_of_pos_right _ hb0
    simp only [maxLen]; omega
  by_cases hm : m = 0
  · subst hm
    have hnews : news = [] := List.eq_nil_of_length_eq_zero (by simpa using hl)
    subst hnews
    cases A with
    | none =>
      have hc0 := hc rfl
      subst hc0
      refine wpList_append_own_none hgd sl x t ho base e i size ht hi0 v n xs hs hown hx ?_
      exact h v w (by simpa using hown) ⟨rfl, rfl, rfl, Nat.le_refl _, fun _ _ _ => rfl⟩ (.inl rfl)
    | some ad =>
      exact wpList_append_own_at w hgd sl x t ho base e i z size bytes ht hi0 hz0 hz1 hz2 hzs hsz v n xs hs hown ad 0 c [] hx (by simp) (by simp) (by simp) h63 hb hbase fun v' w' h2 h3 _ h4 => h v' w' h2 h3 h4
  · obtain ⟨g, o', rfl, hcl⟩ := hsrc hm
    exact wpList_append_own_at w hgd sl x t ho base e i z size bytes ht hi0 hz0 hz1 hz2 hzs hsz v n xs hs hown ⟨g, o', none⟩ m c news hx hl (fun j u hj => by rw [add_plain]; exact hcl j u hj) h1 h63 hb hbase fun v' w' h2 h3 _ h4 => h v' w' h2 h3 h4
end

theorem infoStep : (Tryd.prog.info? 33).map (fun i => (i.zero, i.size, i.bytes)) = some (some (.agg #[.int .i64 0, .string ⟨#[]⟩, .slice none 0 0]), 3, 48) := by kernel_rfl
theorem stp_one {w : World} {v : Value} {l : List Stp} (h : RdSt w v l) : ∀ u ∈ stpCells l, u.oneCell' = true := by
  intro u hu
  obtain ⟨p, hp, hu2⟩ := List.mem_flatMap.1 hu
  obtain ⟨A, c, hv, _⟩ := (h.2 p hp).form
  simp only [List.mem_cons, List.not_mem_nil, or_false] at hu2
  rcases hu2 with rfl | rfl | rfl
  · rfl
  · rfl
  · rw [hv]; rfl
theorem stpCells_app (a b : List Stp) : stpCells (a ++ b) = stpCells a ++ stpCells b := by simp [stpCells]
theorem stp_len (l : List Stp) : (stpCells l).length = l.length * 3 := by
  induction l with
  | nil => rfl
  | cons p t ih =>
    have : stpCells (p :: t) = [.int .i64 p.kind, .string ⟨p.text.toArray⟩, p.val] ++ stpCells t := rfl
    rw [this, List.length_append, ih]
    simp; omega
/-- a step without a slice of texts -/
def bare (k : Int) (t : List UInt8) : Stp := ⟨k, t, [], .slice none 0 0⟩
theorem bare_rd (w : World) (k : Int) (t : List UInt8) : RdS w (bare k t).val (bare k t).texts := ⟨by simp [bare], by simp [strs, bare], none, 0, rfl, by simp [bare], trivial, fun h => absurd rfl h⟩
theorem bare_sh (k : Int) {t : List UInt8} (h : t.length ≤ 200) (hc : Cl t) : StSh (bare k t) := ⟨h, hc, by simp [bare], fun t ht => by cases ht⟩
theorem RdSt.own {w : World} {base n : Nat} {v : Value} {l : List Stp} (h : w.ownsRow base 33 3 v n (stpCells l)) (hn : n ≤ 4611686018427387904) (hr : ∀ p ∈ l, RdS w p.val p.texts) : RdSt w v l := by
  have e : n = l.length := by have := h.1; rw [stp_len] at this; omega
  subst e
  exact ⟨RdF.of_own h hn, hr⟩
theorem playK_all (l : List Stp) : playK l l.length = l.foldl stepP ([], 0) := by unfold playK; rw [List.take_length]
/-- an indent and an unindent behind an item leave the row's items as they were -/
theorem undone_law (l0 l2 : List Stp) (t e1 e2 : List UInt8) :
    playK (l0 ++ [bare 0 t] ++ [bare 2 e1, bare 3 e2] ++ l2) (l0 ++ [bare 0 t] ++ [bare 2 e1, bare 3 e2] ++ l2).length = playK (l0 ++ [bare 0 t] ++ l2) (l0 ++ [bare 0 t] ++ l2).length := by
  rw [playK_all, playK_all]
  simp only [List.foldl_append, List.foldl_cons, List.foldl_nil]
  congr 1
  generalize l0.foldl stepP ([], 0) = q
  obtain ⟨its, lev⟩ := q
  have h1 : stepP (its, lev) (bare 0 t) = (its ++ [(lev, t)], lev) := rfl
  have h2 : indent (its ++ [(lev, t)]) lev = lev + 1 := by unfold indent; simp
  have h3 : stepP (its ++ [(lev, t)], lev) (bare 2 e1) = (its ++ [(lev, t)], lev + 1) := by
    rw [← h2]; rfl
  have h4 : stepP (its ++ [(lev, t)], lev + 1) (bare 3 e2) = (its ++ [(lev, t)], lev) := rfl
  rw [h1, h3, h4]

/-- the facts that the walk's guards give -/
structure UndoneFacts (w : World) (v0 v2 : Value) (a : List UInt8) (l0 l2 : List Stp) : Prop where
  r0 : RdSt w v0 l0
  r2 : RdSt w v2 l2
  n0 : l0.length ≤ 80
  n2 : l2.length ≤ 80
  s0 : ∀ p ∈ l0, StSh p
  s2 : ∀ p ∈ l2, StSh p
  cl : Cl a
  nil0 : ∀ n c, v0 = .slice none n c → c = 0
  nil2 : ∀ n c, v2 = .slice none n c → c = 0
end Go.Proofs.YteenhipldfdkaaaDoor
