import Derived.Test.YtfiokjdikhfcaaaDoorYs
import Derived.Deep.RegionHeld3
import Derived.Laws.Concat
namespace Go.Proofs.YtfiokjdikhfcaaaDoor
open Go.RowKit
set_option linter.unusedVariables false
set_option linter.unusedSimpArgs false
set_option maxHeartbeats 4000000
set_option maxRecDepth 100000
attribute [local go_sem] S_extract S_append run_cut_S run_head_S run_tail_S Nat.add_sub_cancel_left

theorem below_nextY {B : Nat} {w w1 w2 : World} (h : Below B w w1) (k : Below w1.heap.size w1 w2) (hB : B ≤ w1.heap.size) : Below B w w2 := h.trans (k.mono hB)
theorem below_drewY (w : World) : Below w.heap.size w w.drew := ⟨rfl, rfl, rfl, Nat.le_refl _, fun _ _ => rfl⟩
def writtenPc (l : List Pc) : List UInt8 := l.flatMap fun p => txSeq p.codes ++ p.text
theorem semiT_len : ∀ l : List Int, (∀ c ∈ l, 0 ≤ c ∧ c < 1000) → (semiT l).length ≤ 21 * l.length
  | [], _ => by simp [semiT]
  | c :: t, h => by
    have h1 := dec_len (h c (by simp)).2
    have h2 := semiT_len t fun d hd => h d (by simp [hd])
    simp only [semiT, List.length_cons, List.length_append]
    omega
theorem txSeq_len (l : List Int) (h : ∀ c ∈ l, 0 ≤ c ∧ c < 1000) : (txSeq l).length ≤ 3 + 21 * l.length := by
  unfold txSeq
  split
  · simp
  · cases l with
    | nil => simp [semi]
    | cons c t =>
      have h1 := dec_len (h c (by simp)).2
      have h2 := semiT_len t fun d hd => h d (by simp [hd])
      simp only [semi, List.length_cons, List.length_append, List.length_nil]
      omega
theorem TxWritten_calls (l : List Pc) (v : Value) (w : World) (h : RdPc w v l) (hc : ∀ p ∈ l, ∀ c ∈ p.codes, 0 ≤ c ∧ c < 1000) (hl : ∀ p ∈ l, p.codes.length ≤ 4 ∧ p.text.length ≤ 500) (h40 : l.length ≤ 40) (ht : Tab w) :
    Calls Tryd.prog 15 #[v] w fun e w' => e = .returned (.string ⟨(writtenPc l).toArray⟩) ∧ Below w.heap.size w w' := by
  have HR := hid h
  obtain ⟨A, c, rfl, hcc, _⟩ := RdF.form h.1
  clear h
  have HC := hid hc
  have HL := hid hl
  have HT := hid ht
  clear hc hl ht
  go_enter Tryd.func15, Tryd.ntmps15
  go_wp2_with fail
  go_loopw [3, 8] (fun s u wr => ∃ (k : Nat) (x : List UInt8), k ≤ l.length ∧ u = .int .i64 k ∧ s = .string ⟨x.toArray⟩ ∧ x.length ≤ 1000 * k ∧ Hid (x ++ writtenPc (l.drop k) = writtenPc l) ∧ Below w.heap.size w wr) (fun _ u _ => l.length - (intOf u).toNat)
  case atStart => exact ⟨0, [], by omega, rfl, rfl, by simp, hid rfl, Below.refl _ w⟩
  case round =>
    obtain ⟨k, x, hk, rfl, rfl, hx, hT, hbw⟩ := hrel
    by_cases hlt : k < l.length
    · obtain ⟨p, hp⟩ : ∃ p, l[k]? = some p := ⟨_, List.getElem?_eq_getElem hlt⟩
      have hm := List.mem_of_getElem? hp
      have hlt' : (k : Int) < (l.length : Int) := by omega
      obtain ⟨g, o, rfl, hcl⟩ := (HR.out.below hbw).1.at (by omega)
      obtain ⟨q0, q1⟩ := pc_get hp
      have hc0 := hcl _ _ q0
      have hc1 := hcl _ _ q1
      rw [← Nat.add_assoc] at hc1
      have KS := hid (fun (W : World) (hb : Below wr.heap.size wr W) => TxSequence_calls p.val p.codes W (((HR.out.below hbw).2 p hm).below hb) (HC.out p hm) (by have := HL.out p hm; omega) ((HT.out.below hbw).below hb))
      have HA := hid (show (x ++ (txSeq p.codes ++ p.text)) ++ writtenPc (l.drop (k + 1)) = writtenPc l by
        rw [← hT.out, List.drop_eq_getElem_cons hlt, (List.getElem?_eq_some_iff.1 hp).2, List.append_assoc]
        rfl)
      obtain ⟨A2, c2, hvv⟩ := (HR.out.2 p hm).form
      have hsq := txSeq_len p.codes (HC.out p hm)
      obtain ⟨hl4, hl5⟩ := HL.out p hm
      generalize txSeq p.codes = sq at KS HA hsq
      obtain ⟨cs, tx, vv⟩ := p
      dsimp only at hc0 hc1 hvv KS HA hsq hl4 hl5
      have hsq' : sq.length ≤ 87 := by omega
      clear hsq
      subst hvv
      clear hcl hp q0 q1 hT hm
      obtain ⟨W0, hW0⟩ : ∃ W0, wr.alloc (.cells #[.slice A2 cs.length c2, .string ⟨tx.toArray⟩] 36) = W0 := ⟨_, rfl⟩
      have hb0 : Below wr.heap.size wr W0 := hW0 ▸ (Below.refl _ wr).alloc (Nat.le_refl _) _
      have hn0 : W0.heap[wr.heap.size]? = some (.cells #[.slice A2 cs.length c2, .string ⟨tx.toArray⟩] 36 (0, 0)) := hW0 ▸ alloc_heap_new wr _
      have hd0 : W0.cell? ⟨wr.heap.size, 0, none⟩ = some (.slice A2 cs.length c2) := blk_cell hn0 0
      have hd1 : W0.cell? ⟨wr.heap.size, 1, none⟩ = some (.string ⟨tx.toArray⟩) := blk_cell hn0 1
      have KS0 := hid (fun (W : World) (hb : Below W0.heap.size W0 W) => KS.out W (hb0.trans (hb.mono hb0.size)))
      have GRS := hid (fun (w' : World) (hb : Below W0.heap.size W0 w') => (show (w'.cell? ⟨wr.heap.size, 0, none⟩ = some (.slice A2 cs.length c2) ∧ w'.cell? ⟨wr.heap.size, 1, none⟩ = some (.string ⟨tx.toArray⟩)) ∧ Below W0.heap.size W0 w' from ⟨⟨cell_keep hb hd0, cell_keep hb hd1⟩, hb⟩))
      have G0 := hid (GRS.out W0 (Below.refl _ _))
      have HBW := hid (hbw.trans (hb0.mono hbw.size))
      have HZ := hid (Nat.le_trans hbw.size hb0.size)
      clear KS HC HL HT hb0 hn0 hbw
      go_upto_region 19 with (fail)
      try rw [hW0]
      clear hW0 HR hc0 hc1
      have g0 := G0.out
      have s6 : ∀ W, (Op.stringOp .add ⟨sq.toArray⟩ ⟨tx.toArray⟩).run Tryd.prog W = .ok (.string ⟨(sq ++ tx).toArray⟩) W := fun W => run_string_add_lists W _ _ (by omega) (by omega)
      have s7 : ∀ W, (Op.stringOp .add ⟨x.toArray⟩ ⟨(sq ++ tx).toArray⟩).run Tryd.prog W = .ok (.string ⟨(x ++ (sq ++ tx)).toArray⟩) W := fun W => run_string_add_lists W _ _ (by omega) (by simp; omega)
      go_region_held3 (fun w' => (w'.cell? ⟨wr.heap.size, 0, none⟩ = some (.slice A2 cs.length c2) ∧ w'.cell? ⟨wr.heap.size, 1, none⟩ = some (.string ⟨tx.toArray⟩)) ∧ Below W0.heap.size W0 w') (first
        | exact GRS.out _ (below_drewY _)
        | exact GRS.out _ (by assumption))
        (first
        | (go_at_call 24; (with_reducible refine (KS0.out _ (And.right ‹_ ∧ Below W0.heap.size W0 _›)).mono ?_); rintro e u0 ⟨rfl, hv0⟩; have hu0 := below_nextY (And.right ‹_ ∧ Below W0.heap.size W0 _›) hv0 (Below.size (And.right ‹_ ∧ Below W0.heap.size W0 _›))))
      all_goals go_wp2_with fail
      all_goals go_roundw
      case rel => exact ⟨k + 1, _, by omega, by go_num, rfl, by simp; omega, hid HA.out, HBW.out.trans (hu0.mono HZ.out)⟩
      case measure => simp [intOf]; omega
    · have hlt' : ¬ (k : Int) < (l.length : Int) := by omega
      have HS := hid (show x = writtenPc l by rw [← hT.out, List.drop_of_length_le (by omega)]; simp [writtenPc])
      clear hT
      go_wp2_with fail
      go_ret
      exact ⟨ret_str HS.out, hbw⟩
end Go.Proofs.YtfiokjdikhfcaaaDoor
