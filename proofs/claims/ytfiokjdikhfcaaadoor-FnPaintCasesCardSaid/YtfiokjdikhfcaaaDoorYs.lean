import Derived.Test.YtfiokjdikhfcaaaDoorYr
import Derived.Test.YtfiokjdikhfcaaaDoorTs
namespace Go.Proofs.YtfiokjdikhfcaaaDoor
open Go.RowKit
set_option linter.unusedVariables false
set_option linter.unusedSimpArgs false
set_option maxHeartbeats 4000000
set_option maxRecDepth 100000
attribute [local go_sem] S_extract S_append run_cut_S run_head_S run_tail_S Nat.add_sub_cancel_left

def fits15B (l : List Pc) : Bool := decide (l.length ≤ 2147483647) && l.all fitPc
theorem zzFits15_calls (l : List Pc) (v : Value) (w : World) (h : RdPj w v l) :
    Calls Tryd.prog 5 #[v] w fun e w' => e = .returned (.bool (fits15B l)) ∧ Below w.heap.size w w' := by
  have HR := hid h.1
  have HJ := hid (fun p (hp : p ∈ l) => show ∃ A c, p.val = .slice A p.codes.length c from by obtain ⟨A, c, hv, _⟩ := h.2 p hp; exact ⟨A, c, hv⟩)
  obtain ⟨A, c, rfl, hc, _⟩ := RdF.form h.1
  clear h
  by_cases hl : l.length ≤ 2147483647
  · have hl' : ¬ (2147483647 : Int) < (l.length : Int) := by omega
    have HF := hid (show fits15B l = l.all fitPc by unfold fits15B; rw [decide_eq_true hl]; rfl)
    go_enter Tryd.func5, Tryd.ntmps5
    go_wp2_with fail
    go_loopw [10] (fun u wr => ∃ k : Nat, k ≤ l.length ∧ u = .int .i64 k ∧ Below w.heap.size w wr ∧ Hid ((l.drop k).all fitPc = fits15B l)) (fun u _ => l.length - (intOf u).toNat)
    case atStart => exact ⟨0, by omega, rfl, Below.refl _ _, hid HF.out.symm⟩
    case round =>
      obtain ⟨k, hk, rfl, hbw, hacc⟩ := hrel
      by_cases hlt : k < l.length
      · obtain ⟨p, hp⟩ : ∃ p, l[k]? = some p := ⟨_, List.getElem?_eq_getElem hlt⟩
        have hm := List.mem_of_getElem? hp
        obtain ⟨g, o, rfl, hcl⟩ := (HR.out.below hbw).at (by omega)
        obtain ⟨q0, q1⟩ := pc_get hp
        have hc0 := hcl _ _ q0
        have hc1 := hcl _ _ q1
        rw [← Nat.add_assoc] at hc1
        have hlt' : (k : Int) < (l.length : Int) := by omega
        have KF := hid (fun (W : World) (hb : Below wr.heap.size wr W) => zzFits16_calls p W (HJ.out p hm))
        have HA := hid (show (fitPc p && (l.drop (k + 1)).all fitPc) = fits15B l by
          rw [← hacc.out, List.drop_eq_getElem_cons hlt, (List.getElem?_eq_some_iff.1 hp).2]
          rfl)
        obtain ⟨A2, c2, hvv⟩ := HJ.out p hm
        generalize fitPc p = fp at KF HA
        obtain ⟨cs, tx, vv⟩ := p
        dsimp only at hc0 hc1 hvv KF
        subst hvv
        clear hacc hcl hp q0 q1 hm
        cases fp with
        | true =>
          go_wp2_with (go_at_call 13; (with_reducible refine (KF.out _ ?_).mono ?_); (first | exact (Below.refl _ wr).alloc (Nat.le_refl _) _ | exact (((Below.refl _ wr).alloc (Nat.le_refl _) _).setCell (Nat.le_refl _) _).setCell (Nat.le_refl _) _); rintro e w2 ⟨rfl, hb2⟩)
          go_roundw
          case rel => exact ⟨k + 1, by omega, by go_num, by first | exact (hbw.alloc hbw.size _).trans (hb2.mono (by have := hbw.size; simp; omega)) | exact (((hbw.alloc hbw.size _).setCell hbw.size _).setCell hbw.size _).trans (hb2.mono (by have := hbw.size; simp [World.setCell]; omega)), hid HA.out⟩
          case measure => simp [intOf]; omega
        | false =>
          go_wp2_with (go_at_call 13; (with_reducible refine (KF.out _ ?_).mono ?_); (first | exact (Below.refl _ wr).alloc (Nat.le_refl _) _ | exact (((Below.refl _ wr).alloc (Nat.le_refl _) _).setCell (Nat.le_refl _) _).setCell (Nat.le_refl _) _); rintro e w2 ⟨rfl, hb2⟩)
          go_ret
          exact ⟨ret_bool (by rw [← HA.out]; rfl), by first | exact (hbw.alloc hbw.size _).trans (hb2.mono (by have := hbw.size; simp; omega)) | exact (((hbw.alloc hbw.size _).setCell hbw.size _).setCell hbw.size _).trans (hb2.mono (by have := hbw.size; simp [World.setCell]; omega))⟩
      · have hlt' : ¬ (k : Int) < (l.length : Int) := by omega
        have HA := hid (show fits15B l = true by rw [← hacc.out, List.drop_of_length_le (by omega)]; rfl)
        clear hacc
        go_wp2_with fail
        go_ret
        exact ⟨ret_bool HA.out.symm, hbw⟩
  · have hl' : (2147483647 : Int) < (l.length : Int) := by omega
    have HF := hid (show fits15B l = false by unfold fits15B; rw [decide_eq_false hl]; rfl)
    go_enter Tryd.func5, Tryd.ntmps5
    go_wp2_with fail
    go_ret
    exact ⟨ret_bool HF.out.symm, Below.refl _ w⟩
theorem RdPj.pc {l : List Pc} {v : Value} {w : World} (h : RdPj w v l) (hf : fits15B l = true) : RdPc w v l ∧ l.length ≤ 2147483647 ∧ ∀ p ∈ l, p.codes.length ≤ 2147483647 ∧ p.text.length ≤ 2147483647 := by
  unfold fits15B at hf
  simp only [Bool.and_eq_true, decide_eq_true_eq, List.all_eq_true] at hf
  have hp : ∀ p ∈ l, p.codes.length ≤ 2147483647 ∧ p.text.length ≤ 2147483647 := fun p hp => by
    have := hf.2 p hp
    unfold fitPc at this
    simpa only [Bool.and_eq_true, decide_eq_true_eq] using this
  exact ⟨⟨h.1, fun p hq => ⟨by have := (hp p hq).1; omega, h.2 p hq⟩⟩, hf.1, hp⟩
end Go.Proofs.YtfiokjdikhfcaaaDoor
