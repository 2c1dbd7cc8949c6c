import Derived.Test.YtmljkiohekogbaaGreatDoorMe
namespace Go.Proofs.YtmljkiohekogbaaGreatDoor
open Go.RowKit Go.Maps
set_option linter.unusedVariables false
set_option linter.unusedSimpArgs false
set_option maxHeartbeats 2000000
set_option maxRecDepth 100000

/-- codes are turned off one by one, all but one -/
def delUp (a : Int) (j : Nat) (but : Int) (c : List Int) : List Int := c.filter fun y => !decide (a ≤ y ∧ y < a + j ∧ y ≠ but)
theorem delUp_zero (a but : Int) (c : List Int) : delUp a 0 but c = c := by
  unfold delUp
  rw [List.filter_eq_self]
  intro y _
  simp only [Bool.not_eq_true', decide_eq_false_iff_not]
  omega
theorem delUp_succ (a : Int) (j : Nat) (but : Int) (c : List Int) (h : a + j ≠ but) : delC (a + j) (delUp a j but c) = delUp a (j + 1) but c := by
  unfold delC delUp
  rw [List.filter_filter]
  apply List.filter_congr
  intro y _
  rw [Bool.eq_iff_iff]
  simp only [Bool.and_eq_true, Bool.not_eq_true', decide_eq_false_iff_not]
  omega
theorem delUp_skip (a : Int) (j : Nat) (but : Int) (c : List Int) (h : a + j = but) : delUp a j but c = delUp a (j + 1) but c := by
  unfold delUp
  apply List.filter_congr
  intro y _
  rw [Bool.eq_iff_iff]
  simp only [Bool.not_eq_true', decide_eq_false_iff_not]
  omega
theorem delUp_all (a : Int) (n : Nat) (but : Int) (c : List Int) (h : but < a) : delUp a (n + 1) but c = delR a (a + n) c := by
  unfold delUp delR
  apply List.filter_congr
  intro y _
  rw [Bool.eq_iff_iff]
  simp only [Bool.not_eq_true', decide_eq_false_iff_not]
  omega
theorem delUp_256 (b k : Int) (c : List Int) : delUp b 256 (b + k) (insC (b + k) c) = set256 b k c := by
  unfold delUp set256
  apply List.filter_congr
  intro y _
  rw [Bool.eq_iff_iff]
  simp only [Bool.not_eq_true', decide_eq_false_iff_not]
  omega

/-- a parser at block p -/
structure PA (w : World) (base p : Nat) (cm ev : Value) (st : PSt) : Prop where
  row : w.heap[p]? = some (.cells #[cm, .bool st.inn, .int .i64 st.kind, ev] 51 (0, 0))
  le : base ≤ p
  own : OwnB w 5 base ev st.esc
  codes : (cm = .map none ∧ st.codes = []) ∨ ∃ b, cm = .map (some b) ∧ base ≤ b ∧ CM w b st.codes
/-- what a parser's function may turn -/
structure MF (w w' : World) (base : Nat) (cm cm' : Value) : Prop where
  below : Below base w w'
  keep : ∀ (g : Nat) (o : Obj), w.heap[g]? = some o → (∀ cs t fz, o = .cells cs t fz → t ≠ 51 ∧ t ≠ 5) → cm ≠ .map (some g) → w'.heap[g]? = some o
  next : cm' = cm ∨ ∃ b, w.heap.size ≤ b ∧ cm' = .map (some b)
theorem MF.trans {w w1 w2 : World} {base : Nat} {cm cm1 cm2 : Value} (h : MF w w1 base cm cm1) (k : MF w1 w2 base cm1 cm2) : MF w w2 base cm cm2 := by
  refine ⟨h.below.trans k.below, fun g o h0 hf hc => ?_, ?_⟩
  · refine k.keep g o (h.keep g o h0 hf hc) hf ?_
    rcases h.next with e | ⟨b, hb, e⟩
    · rw [e]; exact hc
    · rw [e]
      intro e2
      have := heap_lt h0
      injection e2 with e2
      injection e2 with e2
      omega
  · rcases k.next with e | ⟨b, hb, e⟩
    · rw [e]; exact h.next
    · exact .inr ⟨b, Nat.le_trans h.below.size hb, e⟩
theorem MF.refl (w : World) (base : Nat) (cm : Value) : MF w w base cm cm := ⟨Below.refl _ _, fun _ _ h _ _ => h, .inl rfl⟩
theorem MF.of_below {w w' : World} {base : Nat} (cm : Value) (h : Below w.heap.size w w') (hb : base ≤ w.heap.size) : MF w w' base cm cm :=
  ⟨h.mono hb, fun g o h0 _ _ => heap_keep h0 h, .inl rfl⟩
theorem OneMap.below {w w' : World} {base b : Nat} (h : OneMap w w' b) (hb : base ≤ b) : Below base w w' :=
  ⟨h.grown.os, h.grown.tape, h.grown.output, Nat.le_of_eq h.size.symm, fun k hk => h.heap (by omega)⟩
theorem MF.of_map {w w' : World} {base b : Nat} (h : OneMap w w' b) (hb : base ≤ b) : MF w w' base (.map (some b)) (.map (some b)) :=
  ⟨h.below hb, fun g o h0 _ hc => (h.heap (fun e => hc (by rw [e]))).trans h0, .inl rfl⟩
/-- a cell of the parser's own block is written -/
theorem MF.of_set {w : World} {base p : Nat} {cs : Array Value} {fz : Nat × Nat} (cm : Value) (h : w.heap[p]? = some (.cells cs 51 fz)) (hp : base ≤ p) (i : Nat) (u : Value) : MF w (w.setCell ⟨p, i, none⟩ u) base cm cm :=
  ⟨(Below.refl _ _).setCell hp _, fun g o h0 hf _ => by
    refine heap_set_ne h0 (fun e => ?_) _
    subst e
    rw [h] at h0
    injection h0 with h0
    exact (hf _ _ _ h0.symm).1 rfl, .inl rfl⟩
theorem PA.below {w w' : World} {base p : Nat} {cm ev : Value} {st : PSt} (H : PA w base p cm ev st) (h : Below w.heap.size w w') : PA w' base p cm ev st :=
  ⟨heap_keep H.row h, H.le, own_below H.own h, H.codes.imp id fun ⟨b, h1, h2, h3⟩ => ⟨b, h1, h2, h3.heap (h.block b h3.lt)⟩⟩
theorem PA.ne_map {w : World} {base p b : Nat} {cm ev : Value} {st : PSt} {c : List Int} (H : PA w base p cm ev st) (h : CM w b c) : p ≠ b := by
  obtain ⟨es, ck, h1⟩ := h.obj
  intro e
  subst e
  rw [H.row] at h1
  injection h1 with h1
  cases h1
theorem own_obj {w : World} {base e sz n : Nat} {v : Value} {xs : List Value} (h : w.ownsRow base e sz v n xs) (k : Nat) (hk : v.ownBlock = some k) : ∃ C fz, w.heap[k]? = some (.cells C e fz) := own_typed h k hk
/-- its map has turned -/
theorem PA.map {w w' : World} {base p b : Nat} {ev : Value} {st : PSt} {c c' : List Int} (H : PA w base p (.map (some b)) ev st) (hc : CM w b c) (h : OneMap w w' b) (hb : base ≤ b) (hc' : CM w' b c') : PA w' base p (.map (some b)) ev { st with codes := c' } := by
  refine ⟨(h.heap (H.ne_map hc)).trans H.row, H.le, own_step H.own fun k hk => ?_, .inr ⟨b, rfl, hb, hc'⟩⟩
  obtain ⟨C, fz, hC⟩ := own_typed H.own k hk
  refine h.heap fun e => ?_
  obtain ⟨es, ck, h1⟩ := hc.obj
  subst e
  rw [hC] at h1
  injection h1 with h1
  cases h1
/-- one of its cells is written -/
theorem PA.set {w : World} {base p : Nat} {cm ev cm' : Value} {st st' : PSt} (H : PA w base p cm ev st) (i : Nat) (u : Value)
    (he : (#[cm, .bool st.inn, .int .i64 st.kind, ev] : Array Value).setIfInBounds i u = #[cm', .bool st'.inn, .int .i64 st'.kind, ev]) (hesc : st'.esc = st.esc)
    (hcm : (cm' = cm ∧ st'.codes = st.codes) ∨ ∃ b, cm' = .map (some b) ∧ base ≤ b ∧ b ≠ p ∧ CM w b st'.codes) : PA (w.setCell ⟨p, i, none⟩ u) base p cm' ev st' := by
  have ho : OwnB (w.setCell ⟨p, i, none⟩ u) 5 base ev st'.esc := by
    rw [hesc]
    refine own_step H.own fun k hk => ?_
    obtain ⟨C, fz, hC⟩ := own_typed H.own k hk
    exact (heap_set_ne hC (ty_ne hC H.row (by decide)) _).trans hC.symm
  refine ⟨by rw [← he]; exact blk_set H.row i _, H.le, ho, ?_⟩
  · have keep : ∀ b c, CM w b c → CM (w.setCell ⟨p, i, none⟩ u) b c := fun b c hc => by
      obtain ⟨es, ck, h1⟩ := hc.obj
      exact hc.heap ((heap_set_ne h1 (fun e => H.ne_map hc e.symm) _).trans h1.symm)
    rcases hcm with ⟨rfl, e⟩ | ⟨b, rfl, hb, hn, hc⟩
    · rw [e]
      exact H.codes.imp id fun ⟨b, h1, h2, h3⟩ => ⟨b, h1, h2, keep _ _ h3⟩
    · exact .inr ⟨b, rfl, hb, keep _ _ hc⟩
/-- its row of bytes is another one -/
theorem PA.setEsc {w : World} {base p : Nat} {cm ev ev' : Value} {st : PSt} {l : List UInt8} (H : PA w base p cm ev st) (ho : OwnB w 5 base ev' l) : PA (w.setCell ⟨p, 3, none⟩ ev') base p cm ev' { st with esc := l } := by
  refine ⟨by have := blk_set H.row 3 ev'; simpa using this, H.le, own_step ho fun k hk => ?_, ?_⟩
  · obtain ⟨C, fz, hC⟩ := own_typed ho k hk
    exact (heap_set_ne hC (ty_ne hC H.row (by decide)) _).trans hC.symm
  · refine H.codes.imp id fun ⟨b, h1, h2, h3⟩ => ⟨b, h1, h2, ?_⟩
    obtain ⟨es, ck, h4⟩ := h3.obj
    exact h3.heap ((heap_set_ne h4 (fun e => H.ne_map h3 e.symm) _).trans h4.symm)
theorem PA.facts {w : World} {base p : Nat} {cm ev : Value} {st : PSt} (H : PA w base p cm ev st) :
    w.cell? ⟨p, 0, none⟩ = some cm ∧ w.cell? ⟨p, 1, none⟩ = some (.bool st.inn) ∧ w.cell? ⟨p, 2, none⟩ = some (.int .i64 st.kind) ∧ w.cell? ⟨p, 3, none⟩ = some ev ∧ w.frozen? ⟨p, 0, none⟩ = false ∧ w.frozen? ⟨p, 1, none⟩ = false ∧ w.frozen? ⟨p, 2, none⟩ = false ∧ w.frozen? ⟨p, 3, none⟩ = false :=
  ⟨blk_cell H.row 0, blk_cell H.row 1, blk_cell H.row 2, blk_cell H.row 3, blk_free H.row 0, blk_free H.row 1, blk_free H.row 2, blk_free H.row 3⟩
end Go.Proofs.YtmljkiohekogbaaGreatDoor
