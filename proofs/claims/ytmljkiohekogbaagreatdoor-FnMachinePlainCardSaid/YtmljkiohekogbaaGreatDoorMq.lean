import Derived.Test.YtmljkiohekogbaaGreatDoorMp
import Derived.Deep.RegionHeld3
namespace Go.Proofs.YtmljkiohekogbaaGreatDoor
open Go.RowKit Go.Maps
set_option linter.unusedVariables false
set_option linter.unusedSimpArgs false
set_option maxHeartbeats 8000000
set_option maxRecDepth 100000
attribute [local go_sem] S_extract S_append run_cut_S run_head_S run_tail_S Nat.add_sub_cancel_left

theorem PA.setEsc2 {w : World} {base p : Nat} {cm ev ev' : Value} {st : PSt} {l : List UInt8} (hrow : w.heap[p]? = some (.cells #[cm, .bool st.inn, .int .i64 st.kind, ev] 51 (0, 0))) (hle : base ≤ p) (hcd : (cm = .map none ∧ st.codes = []) ∨ ∃ b, cm = .map (some b) ∧ base ≤ b ∧ CM w b st.codes) (ho : OwnB w 5 base ev' l) : PA (w.setCell ⟨p, 3, none⟩ ev') base p cm ev' { st with esc := l } := by
  refine ⟨by have := blk_set hrow 3 ev'; simpa using this, hle, own_step ho fun k hk => ?_, ?_⟩
  · obtain ⟨C, fz, hC⟩ := own_typed ho k hk
    exact (heap_set_ne hC (ty_ne hC hrow (by decide)) _).trans hC.symm
  · refine hcd.imp id fun ⟨b, h1, h2, h3⟩ => ⟨b, h1, h2, ?_⟩
    obtain ⟨es, ck, h4⟩ := h3.obj
    refine h3.heap ((heap_set_ne h4 (fun e => ?_) _).trans h4.symm)
    subst e
    rw [hrow] at h4
    injection h4 with h4
    cases h4
/-- a character is appended to what came so far -/
theorem PA.rune {w w1 : World} {base p : Nat} {cm ev v' : Value} {st : PSt} {r : Int} {o : Obj} (hbw : base ≤ w.heap.size) (H : PA w base p cm ev st) (h1 : w1.ownsRow base 5 1 v' (st.esc.length + (Lib.runeCells r).length) (Lib.byteCells st.esc ++ Lib.runeCells r)) (hg : (w.alloc o).grownBy w1 ev.ownBlock) :
    w1.cell? ⟨p, 3, none⟩ = some ev ∧ w1.frozen? ⟨p, 3, none⟩ = false ∧ PA (w1.setCell ⟨p, 3, none⟩ v') base p cm v' { st with esc := st.esc ++ Lib.encodeRune r } ∧ MF w (w1.setCell ⟨p, 3, none⟩ v') base cm cm := by
  have hA : Below w.heap.size w (w.alloc o) := (Below.refl _ _).alloc (Nat.le_refl _) _
  have HA := H.below hA
  have keep : ∀ (g : Nat) (ob : Obj), (w.alloc o).heap[g]? = some ob → (∀ cs t fz, ob = .cells cs t fz → t ≠ 5) → w1.heap[g]? = some ob := by
    intro g ob h0 hne
    refine (hg.block g (heap_lt h0) fun e => ?_).trans h0
    obtain ⟨C, fz, hC⟩ := own_typed HA.own g e.symm
    rw [hC] at h0
    injection h0 with h0
    exact hne _ _ _ h0.symm rfl
  have hrow := keep p _ HA.row (fun cs t fz e => by injection e with _ e2 _; subst e2; decide)
  have hcd : (cm = .map none ∧ st.codes = []) ∨ ∃ b, cm = .map (some b) ∧ base ≤ b ∧ CM w1 b st.codes := HA.codes.imp id fun ⟨b, a1, a2, a3⟩ => by
    obtain ⟨es, ck, h4⟩ := a3.obj
    exact ⟨b, a1, a2, a3.heap ((keep b _ h4 (fun cs t fz e => by cases e)).trans h4.symm)⟩
  have ho : OwnB w1 5 base v' (st.esc ++ Lib.encodeRune r) := by
    unfold OwnB
    have e1 : Lib.byteCells (st.esc ++ Lib.encodeRune r) = Lib.byteCells st.esc ++ Lib.runeCells r := by rw [← Lib.byteCells_encodeRune]; unfold Lib.byteCells; rw [List.map_append]
    have e2 : (st.esc ++ Lib.encodeRune r).length = st.esc.length + (Lib.runeCells r).length := by rw [← Lib.byteCells_encodeRune]; unfold Lib.byteCells; rw [List.length_append, List.length_map]
    rw [e1, e2]
    exact h1
  have hB : Below base w w1 := by
    refine (hA.mono hbw).grown hg (Nat.le_trans hbw hA.size) fun k hk => ?_
    obtain ⟨hlen, h2⟩ := HA.own
    rcases h2 with ⟨rfl, _⟩ | ⟨g, cap, cur, rfl, hgb, _⟩
    · cases hk
    · cases hk
      exact hgb
  refine ⟨blk_cell hrow 3, blk_free hrow 3, PA.setEsc2 hrow H.le hcd ho, ?_⟩
  have m1 : MF w w1 base cm cm := ⟨hB, fun g ob h0 hne _ => keep g ob (heap_keep h0 hA) (fun cs t fz e => (hne cs t fz e).2), .inl rfl⟩
  exact m1.trans (MF.of_set cm hrow H.le 3 v')
theorem PA.drew {w : World} {base p : Nat} {cm ev : Value} {st : PSt} (H : PA w base p cm ev st) : PA w.drew base p cm ev st := H.below ⟨rfl, rfl, rfl, Nat.le_refl _, fun _ _ => rfl⟩
section
variable (base p : Nat) (cm : Value) (st : PSt) (r : Int) (w : World)
abbrev ConsSaid : Prop := Calls Tryz.prog 16 #[.pointer (some ⟨p, 0, none⟩), .int .i32 r] w (PPost w base p cm (st.consume atoiF Lib.trimSpaceD r))
theorem consume_out (ev : Value) (H : PA w base p cm ev st) (h1 : st.inn = false) (h2 : r ≠ 27) : ConsSaid base p cm st r w := by
  have ho : st.opened r = st := by unfold PSt.opened; rw [if_neg (fun x => h2 x.2), if_neg (fun x => by rw [h1] at x; exact absurd x.1 (by simp))]
  have hcs : st.consume atoiF Lib.trimSpaceD r = st := by unfold PSt.consume; rw [ho]; simp [h1]
  have HF := hid (show PPost w base p cm (st.consume atoiF Lib.trimSpaceD r) (.returned (.tuple #[])) w from by rw [hcs]; exact ⟨rfl, cm, ev, H, MF.refl _ _ _⟩)
  have z1 := H.facts.2.1
  rw [h1] at z1
  have h27 : (r == 27) = false := by simpa using h2
  clear H h1 h2 ho hcs
  go_enter Tryz.func16, Tryz.ntmps16
  go_wp2_with fail
  go_end0
  exact HF.out
end
end Go.Proofs.YtmljkiohekogbaaGreatDoor
