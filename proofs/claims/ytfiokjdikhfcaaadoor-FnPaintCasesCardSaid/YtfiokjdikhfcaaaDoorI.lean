import Derived.Test.YtfiokjdikhfcaaaDoorH
namespace Go.Proofs.YtfiokjdikhfcaaaDoor
open Go.RowKit
set_option linter.unusedVariables false
set_option linter.unusedSimpArgs false
set_option maxHeartbeats 4000000
set_option maxRecDepth 100000
attribute [local go_sem] S_extract S_append run_cut_S run_head_S run_tail_S Nat.add_sub_cancel_left

theorem RdCells.below {w w1 : World} {v : Value} {cs : List (Int × List Int)} (h : RdCells w v cs) (hb : Below w.heap.size w w1) : RdCells w1 v cs := by
  obtain ⟨h0, A, c, hv, hc, hn, hr⟩ := h
  refine ⟨h0, A, c, hv, hc, hn, fun hl => ?_⟩
  obtain ⟨g, o, ha, hx⟩ := hr hl
  refine ⟨g, o, ha, fun i r l hi => ?_⟩
  obtain ⟨h1, vc, h2, h3⟩ := hx i r l hi
  exact ⟨cell_keep hb h1, vc, cell_keep hb h2, h3.below hb⟩

theorem RdCells.form {w : World} {v : Value} {cs : List (Int × List Int)} (h : RdCells w v cs) : ∃ A c, v = .slice A cs.length c := by obtain ⟨_, A, c, hv, _⟩ := h; exact ⟨A, c, hv⟩

/-- same characters, and alike codes at each -/
def cellsAlike : List (Int × List Int) → List (Int × List Int) → Bool
  | [], [] => true
  | p :: a, q :: b => (p.1 == q.1) && alike p.2 q.2 && cellsAlike a b
  | _, _ => false
theorem cellsAlike_len : ∀ {a b : List (Int × List Int)}, a.length ≠ b.length → cellsAlike a b = false
  | [], [], h => absurd rfl h
  | [], _ :: _, _ => rfl
  | _ :: _, [], _ => rfl
  | p :: a, q :: b, h => by
    have := cellsAlike_len (a := a) (b := b) (by simpa using h)
    simp [cellsAlike, this]

theorem drewN_drewN (w : World) (m n : Nat) : (w.drewN m).drewN n = w.drewN (m + n) := by simp [World.drewN, Nat.add_assoc]
theorem quietC {P : Program} {f : FuncId} {args : Array Value} {w : World} {n : Nat} {v : Value} (h : Calls P f args (w.drewN n) fun e w' => e = .returned v ∧ w.drewN n = w') : Calls P f args (w.drewN n) fun e w' => e = .returned v ∧ ∃ m, w' = w.drewN m :=
  h.mono fun _ _ ⟨h1, h2⟩ => ⟨h1, n, h2.symm⟩

theorem quietC2 {P : Program} {f : FuncId} {args : Array Value} {w : World} {m n : Nat} {v : Value} (h : Calls P f args (w.drewN (m + n)) fun e w' => e = .returned v ∧ w.drewN (m + n) = w') : Calls P f args (w.drewN (m + n)) fun e w' => e = .returned v ∧ ∃ k, w' = w.drewN (m + k) :=
  h.mono fun _ _ ⟨h1, h2⟩ => ⟨h1, n, h2.symm⟩

theorem TxSameCells_calls (v u : Value) (a b : List (Int × List Int)) (w : World) (h : RdCells w v a) (h' : RdCells w u b) :
    Calls Tryd.prog 29 #[v, u] w fun e w' => e = .returned (.bool (cellsAlike a b)) ∧ ∃ n, w' = w.drewN n := by
  obtain ⟨hl, A, c, rfl, hc, _, hr⟩ := h
  obtain ⟨hl', A', c', rfl, hc', _, hr'⟩ := h'
  have HR := hid hr
  have HR' := hid hr'
  clear hr hr'
  by_cases hlen0 : a.length = b.length
  · have hb : ((a.length : Int) != (b.length : Int)) = false := by simp [hlen0]
    have hlen := hid hlen0
    clear hlen0
    go_enter Tryd.func29, Tryd.ntmps29
    go_wp2
    go_loopw [13] (fun i wr => ∃ k : Nat, k ≤ a.length ∧ i = .int .i64 k ∧ cellsAlike a b = cellsAlike (a.drop k) (b.drop k) ∧ ∃ m, wr = w.drewN m) (fun i _ => a.length - (intOf i).toNat)
    case atStart => exact ⟨0, Nat.zero_le _, rfl, by simp, 0, rfl⟩
    case round =>
      obtain ⟨k, hk, rfl, hacc, m, rfl⟩ := hrel
      by_cases hlt : k < a.length
      · have hlt2 : k < b.length := by rw [← hlen.out]; exact hlt
        obtain ⟨g, o, rfl, hcl⟩ := HR.out (by intro e; subst e; simp at hlt)
        obtain ⟨g', o', rfl, hcl'⟩ := HR'.out (by intro e; subst e; simp at hlt2)
        have HA := hid (hacc.trans (by rw [drop_step hlt, drop_step hlt2]))
        clear hacc
        obtain ⟨r, l, hrl⟩ : ∃ r l, a[k] = (r, l) := ⟨_, _, rfl⟩
        obtain ⟨r', l', hrl'⟩ : ∃ r l, b[k] = (r, l) := ⟨_, _, rfl⟩
        obtain ⟨hc1, vc, hc2, hvc⟩ := hcl k r l (by rw [← hrl]; exact List.getElem?_eq_getElem hlt)
        obtain ⟨hd1, vd, hd2, hvd⟩ := hcl' k r' l' (by rw [← hrl']; exact List.getElem?_eq_getElem hlt2)
        rw [hrl, hrl'] at HA
        clear hcl hcl' hrl hrl'
        obtain ⟨Ac, cc, rfl⟩ := hvc.form
        obtain ⟨Ad, cd, rfl⟩ := hvd.form
        have KA := hid (fun n => TxAlike_calls _ _ l l' (w.drewN n) (hvc.below (bdrew (Below.refl _ w) n)) (hvd.below (bdrew (Below.refl _ w) n)))
        clear hvc hvd
        by_cases hrr : r = r'
        · have hn : (r != r') = false := by simpa using hrr
          have HRR := hid hrr
          clear hrr
          cases hx : alike l l'
          · rw [hx] at KA
            go_wp2
            go_quiet ((go_at_call 20; exact quietC2 (KA.out _)))
            go_wp2
            go_ret
            exact ⟨ret_bool (by rw [HA.out]; simp [cellsAlike, hx]), m + nq, by first | rfl | exact drewN_drewN w m nq⟩
          · rw [hx] at KA
            go_wp2
            go_quiet ((go_at_call 20; exact quietC2 (KA.out _)))
            go_wp2
            go_roundw
            case rel => exact ⟨k + 1, by omega, by go_num, by rw [HA.out]; simp [cellsAlike, hx, HRR.out], m + nq, by first | rfl | exact drewN_drewN w m nq⟩
            case measure => simp [intOf]; omega
        · have hn : (r != r') = true := by simpa using hrr
          go_wp2
          go_quiet (fail)
          go_wp2
          go_ret
          exact ⟨ret_bool (by rw [HA.out]; simp [cellsAlike, hrr]), m + nq, by first | rfl | exact drewN_drewN w m nq⟩
      · have HA := hid (show cellsAlike a b = true by rw [hacc, List.drop_of_length_le (by omega), List.drop_of_length_le (by rw [← hlen.out]; omega)]; rfl)
        clear hacc
        go_wp2
        go_ret
        exact ⟨ret_bool HA.out.symm, m, rfl⟩
  · have hb : ((a.length : Int) != (b.length : Int)) = true := by simp; omega
    have HF := hid (cellsAlike_len hlen0)
    go_enter Tryd.func29, Tryd.ntmps29
    go_wp2
    go_ret
    exact ⟨ret_bool HF.out.symm, 0, rfl⟩

theorem PtSame_calls (v u : Value) (a b : List (Int × List Int)) (w : World) (h : RdCells w v a) (h' : RdCells w u b) :
    Calls Tryd.prog 19 #[v, u] w fun e w' => e = .returned (.bool (cellsAlike a b)) ∧ ∃ n, w' = w.drewN n := by
  have K := hid (TxSameCells_calls v u a b w h h')
  obtain ⟨hl, A, c, rfl, _⟩ := h
  obtain ⟨hl', A', c', rfl, _⟩ := h'
  go_enter Tryd.func19, Tryd.ntmps19
  go_wp2_with (go_at_call 29; (with_reducible refine K.out.mono ?_); rintro e w' ⟨rfl, n, rfl⟩)
  go_ret
  exact ⟨rfl, n, rfl⟩

/-- what the statements ask of a text: it reads as these cells, and alike codes are on behind it -/
def isRead (s : ByteArray) (cs : List (Int × List Int)) (on : List Int) : Bool := match txRead (runes s) with
  | none => false
  | some p => cellsAlike p.1 cs && alike p.2 on

theorem ptIs_calls (s : ByteArray) (u uo : Value) (cs : List (Int × List Int)) (on : List Int) (w : World) (hs : s.size ≤ 1000000) (h : RdCells w u cs) (h' : RdI w uo on) :
    Calls Tryd.prog 11 #[.string s, u, uo] w fun e w' => e = .returned (.bool (isRead s cs on)) ∧ Below w.heap.size w w' := by
  have K := hid (TxRead_calls s w hs)
  have HU := hid h
  have HO := hid h'
  obtain ⟨hl, A, c, rfl, _⟩ := h
  obtain ⟨Ao, co, rfl⟩ := h'.form
  clear h'
  have HI := hid (show isRead s cs on = match txRead (runes s) with | none => false | some p => cellsAlike p.1 cs && alike p.2 on from rfl)
  generalize isRead s cs on = R at *
  cases hr : txRead (runes s) with
  | none =>
    rw [hr] at K HI
    go_enter Tryd.func11, Tryd.ntmps11
    go_wp2_with (go_at_call 16; (with_reducible refine K.out.mono ?_); rintro e w' ⟨hb, rfl⟩)
    go_ret
    exact ⟨ret_bool HI.out.symm, hb⟩
  | some p =>
    obtain ⟨cs1, on1⟩ := p
    rw [hr] at K HI
    cases hx : cellsAlike cs1 cs <;> cases hy : alike on1 on
    all_goals
      go_enter Tryd.func11, Tryd.ntmps11
      go_wp2_with (first
        | (go_at_call 16; (with_reducible refine K.out.mono ?_); rintro e w1 ⟨hb, v1, o1, rfl, hc1, ho1⟩; have KS := hid (PtSame_calls v1 _ cs1 cs w1 hc1 (HU.out.below hb)); have KT := hid (fun n => TxAlike_calls o1 _ on1 on (w1.drewN n) (ho1.below (bdrew (Below.refl _ w1) n)) ((HO.out.below hb).below (bdrew (Below.refl _ w1) n))); obtain ⟨A1, c1, rfl⟩ := hc1.form; obtain ⟨A2, c2, rfl⟩ := ho1.form; clear hc1 ho1)
        | (go_at_call 19; (with_reducible refine KS.out.mono ?_); rintro e w' ⟨rfl, n, rfl⟩; rw [hx])
        | (go_at_call 20; (with_reducible refine (KT.out n).mono ?_); rintro e w' ⟨rfl, rfl⟩; rw [hy]))
      go_ret
      exact ⟨ret_bool (by rw [HI.out]; simp [hx, hy]), bdrew hb n⟩
end Go.Proofs.YtfiokjdikhfcaaaDoor
