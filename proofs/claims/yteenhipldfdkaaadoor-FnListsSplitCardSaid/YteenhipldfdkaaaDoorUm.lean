import Derived.Test.YteenhipldfdkaaaDoorUo
namespace Go.Proofs.YteenhipldfdkaaaDoor
open Go.RowKit
set_option linter.unusedVariables false
set_option linter.unusedSimpArgs false
set_option maxHeartbeats 4000000
set_option maxRecDepth 100000
attribute [local go_sem] S_extract S_append run_cut_S run_head_S run_tail_S Nat.add_sub_cancel_left

/-- what the row v tells in the worlds behind W -/
abbrev TellsIn (W : World) (f : Nat) (args : Array Value) (r : Value) : Prop := ∀ w' : World, Below W.heap.size W w' → Calls Tryd.prog f args w' fun e w'' => e = .returned r ∧ Below w'.heap.size w' w''
theorem rows_tell (la lb : List Stp) (va vb : Value) (W : World) (ra : RdSt W va la) (rb : RdSt W vb lb) (same : playK lb lb.length = playK la la.length) (na : la.length ≤ 200) (nb : lb.length ≤ 200) (sa : ∀ p ∈ la, StSh p) (sb : ∀ p ∈ lb, StSh p) :
    ∃ (p h : List UInt8) (n : Nat), TellsIn W 10 #[va] (.string ⟨p.toArray⟩) ∧ TellsIn W 10 #[vb] (.string ⟨p.toArray⟩) ∧ TellsIn W 26 #[va] (.int .i64 n) ∧ TellsIn W 26 #[vb] (.int .i64 n) ∧ TellsIn W 25 #[va, .string ⟨#[]⟩] (.string ⟨h.toArray⟩) ∧ TellsIn W 25 #[vb, .string ⟨#[]⟩] (.string ⟨h.toArray⟩) := by
  refine ⟨_, _, _, fun w' hb => ListPlain_calls la va w' na sa (ra.below hb), fun w' hb => ?_, fun w' hb => ListLength_calls la va w' (by omega) sa (ra.below hb), fun w' hb => ?_, fun w' hb => ListHTML_calls la va [] w' na sa (by simp) (ra.below hb), fun w' hb => ?_⟩
  · rw [← same]; exact ListPlain_calls lb vb w' nb sb (rb.below hb)
  · rw [← same]; exact ListLength_calls lb vb w' (by omega) sb (rb.below hb)
  · rw [← same]; exact ListHTML_calls lb vb [] w' nb sb (by simp) (rb.below hb)

theorem own_src' {w : World} {base e sz n : Nat} {A : Option Addr} {m c : Nat} {xs : List Value} (h : w.ownsRow base e sz (.slice A m c) n xs) : n ≠ 0 → ∃ g o', A = some ⟨g, o', none⟩ ∧ ∀ j u, xs[j]? = some u → w.cell? ⟨g, o' + j, none⟩ = some u := by
  intro hn
  obtain ⟨g, c', hv, _, _, _, hc⟩ := own_cells h (by omega)
  injection hv with h1 _ _
  exact ⟨g, 0, h1, fun j u hj => by rw [Nat.zero_add]; exact hc j u hj⟩
/-- the cells of the row that the law makes -/
def row7 (l0 : List Stp) (a : List UInt8) : List Value := stpCells l0 ++ [.int .i64 0, .string ⟨a.toArray⟩, .slice none 0 0]
def two : List Value := [.int .i64 2, .string ⟨#[]⟩, .slice none 0 0, .int .i64 3, .string ⟨#[]⟩, .slice none 0 0]
theorem row7_len (l0 : List Stp) (a : List UInt8) : (row7 l0 a).length = (l0.length + 1) * 3 := by
  unfold row7
  rw [List.length_append, stp_len]
  simp only [List.length_cons, List.length_nil]
  omega
theorem row7_cells (l0 : List Stp) (a : List UInt8) : row7 l0 a = stpCells (l0 ++ [bare 0 a]) := by rw [stpCells_app]; rfl
theorem two_cells : two = stpCells [bare 2 [], bare 3 []] := rfl
theorem two_one : ∀ u ∈ two, u.oneCell' = true := by
  intro u hu
  simp only [two, List.mem_cons, List.not_mem_nil, or_false] at hu
  rcases hu with rfl | rfl | rfl | rfl | rfl | rfl <;> rfl
theorem two_src (W : World) (t : Nat) : 2 ≠ 0 → ∃ g o', (some ⟨W.heap.size, 0, none⟩ : Option Addr) = some ⟨g, o', none⟩ ∧ ∀ j u, two[j]? = some u → (W.alloc (.cells #[.int .i64 2, .string ⟨#[]⟩, .slice none 0 0, .int .i64 3, .string ⟨#[]⟩, .slice none 0 0] t)).cell? ⟨g, o' + j, none⟩ = some u := by
  refine fun _ => ⟨_, 0, rfl, fun j u hj => ?_⟩
  rw [Nat.zero_add, blk_cell (alloc_heap_new W _) j]
  simpa [two] using hj
theorem row7_one {w : World} {v : Value} {l0 : List Stp} (a : List UInt8) (h : RdSt w v l0) : ∀ u ∈ row7 l0 a, u.oneCell' = true := by
  intro u hu
  rcases List.mem_append.1 hu with hu | hu
  · exact stp_one h u hu
  · simp only [List.mem_cons, List.not_mem_nil, or_false] at hu
    rcases hu with rfl | rfl | rfl <;> rfl
/-- the end of the walk over the appends: the rows read as they should -/
theorem undone_fin {w w5 w7 w9 w10 w11 : World} {a : List UInt8} {l0 l2 : List Stp} {v0 v2 v7 v9 v10 v11 : Value} (F : UndoneFacts w v0 v2 a l0 l2) (ha : a.length ≤ 200) (hB : Below w.heap.size w w11)
    (hown7 : w9.ownsRow w5.heap.size 33 3 v7 (l0.length + 1) (row7 l0 a)) (h7 : ∀ k, v7.ownBlock = some k → k < w7.heap.size)
    (hown9 : w10.ownsRow w7.heap.size 33 3 v9 (l0.length + 1 + 2) (row7 l0 a ++ two)) (h9 : ∀ k, v9.ownBlock = some k → k < w9.heap.size)
    (hown10 : w10.ownsRow w5.heap.size 33 3 v10 (l0.length + 1 + l2.length) (row7 l0 a ++ stpCells l2)) (hat : v10.ownBlock = v7.ownBlock ∨ v10.ownBlock = some w9.heap.size)
    (hown11 : w11.ownsRow w7.heap.size 33 3 v11 (l0.length + 1 + 2 + l2.length) (row7 l0 a ++ two ++ stpCells l2)) (hg11 : w10.grownBy w11 v9.ownBlock) :
    ∃ (p h : List UInt8) (n : Nat), TellsIn w11 10 #[v10] (.string ⟨p.toArray⟩) ∧ TellsIn w11 10 #[v11] (.string ⟨p.toArray⟩) ∧ TellsIn w11 26 #[v10] (.int .i64 n) ∧ TellsIn w11 26 #[v11] (.int .i64 n) ∧ TellsIn w11 25 #[v10, .string ⟨#[]⟩] (.string ⟨h.toArray⟩) ∧ TellsIn w11 25 #[v11, .string ⟨#[]⟩] (.string ⟨h.toArray⟩) := by
  have n0 := F.n0
  have n2 := F.n2
  have hown10' : w11.ownsRow w5.heap.size 33 3 v10 (l0.length + 1 + l2.length) (row7 l0 a ++ stpCells l2) := own_step hown10 fun k hk => hg11.block k (own_lt hown10 k hk).1 fun e => by
    have h1 := own_lt hown9 k e.symm
    have h2 := h9 k e.symm
    rcases hat with h | h
    · have := h7 k (h.symm.trans hk)
      omega
    · have := h.symm.trans hk
      injection this with this
      omega
  have rr : ∀ p, p ∈ l0 ∨ p ∈ l2 ∨ p ∈ [bare 0 a, bare 2 [], bare 3 []] → RdS w11 p.val p.texts ∧ StSh p := by
    rintro p (hp | hp | hp)
    · exact ⟨(F.r0.2 p hp).below hB, F.s0 p hp⟩
    · exact ⟨(F.r2.2 p hp).below hB, F.s2 p hp⟩
    · simp only [List.mem_cons, List.not_mem_nil, or_false] at hp
      rcases hp with rfl | rfl | rfl
      · exact ⟨bare_rd _ _ _, bare_sh _ ha F.cl⟩
      · exact ⟨bare_rd _ _ _, bare_sh _ (by simp) (fun b hb => by cases hb)⟩
      · exact ⟨bare_rd _ _ _, bare_sh _ (by simp) (fun b hb => by cases hb)⟩
  have ma : ∀ p ∈ l0 ++ [bare 0 a] ++ l2, p ∈ l0 ∨ p ∈ l2 ∨ p ∈ [bare 0 a, bare 2 [], bare 3 []] := by
    intro p hp
    simp only [List.mem_append, List.mem_cons, List.not_mem_nil, or_false] at hp ⊢
    rcases hp with (h | h) | h
    · exact .inl h
    · exact .inr (.inr (.inl h))
    · exact .inr (.inl h)
  have mb : ∀ p ∈ l0 ++ [bare 0 a] ++ [bare 2 [], bare 3 []] ++ l2, p ∈ l0 ∨ p ∈ l2 ∨ p ∈ [bare 0 a, bare 2 [], bare 3 []] := by
    intro p hp
    simp only [List.mem_append, List.mem_cons, List.not_mem_nil, or_false] at hp ⊢
    rcases hp with ((h | h) | h) | h
    · exact .inl h
    · exact .inr (.inr (.inl h))
    · exact .inr (.inr (.inr h))
    · exact .inr (.inl h)
  rw [row7_cells, two_cells, ← stpCells_app, ← stpCells_app] at hown11
  rw [row7_cells, ← stpCells_app] at hown10'
  exact rows_tell (l0 ++ [bare 0 a] ++ l2) (l0 ++ [bare 0 a] ++ [bare 2 [], bare 3 []] ++ l2) v10 v11 w11 (RdSt.own hown10' (by omega) (fun p hp => (rr p (ma p hp)).1)) (RdSt.own hown11 (by omega) (fun p hp => (rr p (mb p hp)).1)) (undone_law l0 l2 a [] [])
    (by simp only [List.length_append, List.length_cons, List.length_nil]; omega) (by simp only [List.length_append, List.length_cons, List.length_nil]; omega) (fun p hp => (rr p (ma p hp)).2) (fun p hp => (rr p (mb p hp)).2)
end Go.Proofs.YteenhipldfdkaaaDoor
