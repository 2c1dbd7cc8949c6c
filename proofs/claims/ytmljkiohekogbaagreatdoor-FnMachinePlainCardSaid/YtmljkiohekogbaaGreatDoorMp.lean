import Derived.Test.YtmljkiohekogbaaGreatDoorMo
import Derived.StillTailTactics
namespace Go.Proofs.YtmljkiohekogbaaGreatDoor
open Go.RowKit Go.Maps
set_option linter.unusedVariables false
set_option linter.unusedSimpArgs false
set_option maxHeartbeats 4000000
set_option maxRecDepth 100000
attribute [local go_sem] S_extract S_append run_cut_S run_head_S run_tail_S Nat.add_sub_cancel_left

/-- what a function of a parser leaves -/
def PPost (w : World) (base p : Nat) (cm : Value) (st' : PSt) (e : Ending) (w' : World) : Prop :=
  e = .returned (.tuple #[]) ∧ ∃ cm' ev', PA w' base p cm' ev' st' ∧ MF w w' base cm cm'
theorem OwnB.cut0 {w : World} {e base n : Nat} {A : Option Addr} {c : Nat} {l : List UInt8} (h : OwnB w e base (.slice A n c) l) : OwnB w e base (.slice A 0 c) [] := by
  obtain ⟨h1, h2⟩ := h
  refine ⟨rfl, ?_⟩
  rcases h2 with ⟨h3, h4⟩ | ⟨g, cap, cur, h3, hg, hrow, hnc, hcm, hsz, htk⟩
  · injection h3 with h5 h6 h7
    subst h5 h7
    exact .inl ⟨rfl, rfl⟩
  · injection h3 with h5 h6 h7
    subst h5 h7
    exact .inr ⟨g, _, cur, rfl, hg, hrow, Nat.zero_le _, hcm, hsz, by simp [Lib.byteCells]⟩
theorem InSequence_calls (base p : Nat) (cm ev : Value) (st : PSt) (w : World) (H : PA w base p cm ev st) :
    Calls Tryz.prog 19 #[.pointer (some ⟨p, 0, none⟩)] w fun e w' => e = .returned (.bool st.inn) ∧ w = w' := by
  have z1 := H.facts.2.1
  clear H
  go_enter Tryz.func19, Tryz.ntmps19
  go_wp2_with fail
  go_ret
  exact ⟨rfl, rfl⟩
theorem IsOpen_calls (base p : Nat) (cm ev : Value) (st : PSt) (w : World) (H : PA w base p cm ev st) :
    Calls Tryz.prog 20 #[.pointer (some ⟨p, 0, none⟩)] w fun e w' => e = .returned (.bool (!st.codes.isEmpty)) ∧ w = w' := by
  have z0 := H.facts.1
  rcases H.codes with ⟨rfl, hc0⟩ | ⟨b, rfl, hb, hc⟩
  · have hln := fun (w : World) (ty : TypeId) => Maps.len_nil (P := Tryz.prog) (w := w) (t := 47) (k := 3) (e := 4) Tryz.underlying47 ty
    have hc0 := hid hc0
    clear H
    go_enter Tryz.func20, Tryz.ntmps20
    go_wp2_with fail
    go_ret
    exact ⟨ret_bool (by rw [hc0.out]; rfl), rfl⟩
  · have HC := hid hc
    clear H hc
    go_enter Tryz.func20, Tryz.ntmps20
    go_wp2_with (at_len; refine wpList_lenC _ rfl _ rfl b _ rfl HC.out ?_)
    go_ret
    exact ⟨ret_bool (by cases st.codes <;> simp), rfl⟩
theorem Reset_calls (base p : Nat) (cm ev : Value) (st : PSt) (w : World) (H : PA w base p cm ev st) :
    Calls Tryz.prog 18 #[.pointer (some ⟨p, 0, none⟩)] w (PPost w base p cm st.reset) := by
  obtain ⟨z0, z1, z2, z3, f0, f1, f2, f3⟩ := H.facts
  obtain ⟨A, c, rfl, hc, hA⟩ := own_slice H.own
  have HF := hid (show PPost w base p cm st.reset (.returned (.tuple #[])) (((w.setCell ⟨p, 1, none⟩ (.bool false)).setCell ⟨p, 2, none⟩ (.int .i64 0)).setCell ⟨p, 3, none⟩ (.slice A 0 c)) from by
    have H1 := H.set (st' := { st with inn := false }) 1 (.bool false) rfl rfl (.inl ⟨rfl, rfl⟩)
    have H2 := H1.set (st' := { st with inn := false, kind := 0 }) 2 (.int .i64 0) rfl rfl (.inl ⟨rfl, rfl⟩)
    have H3 := H2.setEsc (OwnB.cut0 H2.own)
    have m1 := MF.of_set cm H.row H.le 1 (.bool false)
    have m2 := MF.of_set cm H1.row H.le 2 (.int .i64 0)
    have m3 := MF.of_set cm H2.row H.le 3 (.slice A 0 c)
    exact ⟨rfl, cm, _, H3, (m1.trans m2).trans m3⟩)
  clear H
  cases A with
  | none =>
    have hc0 := hA rfl
    subst hc0
    go_enter Tryz.func18, Tryz.ntmps18
    go_wp2_with fail
    go_end0
    exact HF.out
  | some a =>
    go_enter Tryz.func18, Tryz.ntmps18
    go_wp2_with fail
    go_end0
    exact HF.out
end Go.Proofs.YtmljkiohekogbaaGreatDoor
