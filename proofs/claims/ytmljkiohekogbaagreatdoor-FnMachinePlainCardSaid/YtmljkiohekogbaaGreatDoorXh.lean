import Derived.Test.YtmljkiohekogbaaGreatDoorXg
namespace Go.Proofs.YtmljkiohekogbaaGreatDoor
open Go.RowKit
set_option linter.unusedVariables false
set_option linter.unusedSimpArgs false
set_option maxHeartbeats 8000000
set_option maxRecDepth 100000
attribute [local go_sem] S_extract S_append run_cut_S run_head_S run_tail_S Nat.add_sub_cancel_left

def opCells (os : List (Int × Int)) : List Value := os.flatMap fun o => [.int .i64 o.1, .int .i64 o.2]
theorem op_get : ∀ {l : List (Int × Int)} {i : Nat} {x : Int × Int}, l[i]? = some x → (opCells l)[i * 2]? = some (.int .i64 x.1) ∧ (opCells l)[i * 2 + 1]? = some (.int .i64 x.2)
  | [], i, q, h => by simp at h
  | p :: t, 0, q, h => by simp at h; subst h; simp [opCells]
  | p :: t, i + 1, q, h => by
    have := op_get (l := t) (i := i) (x := q) (by simpa using h)
    rw [show (i + 1) * 2 = i * 2 + 1 + 1 by omega]
    simpa [opCells] using this
theorem opCells_len (os : List (Int × Int)) : (opCells os).length = os.length * 2 := by
  induction os with
  | nil => rfl
  | cons o t ih =>
    have e : opCells (o :: t) = [.int .i64 o.1, .int .i64 o.2] ++ opCells t := rfl
    rw [e, List.length_append, ih]
    simp; omega
def RdO (w : World) (v : Value) (os : List (Int × Int)) : Prop := RdF w v 2 os.length (opCells os)
theorem RdO.below {w w1 : World} {v : Value} {os : List (Int × Int)} (h : RdO w v os) (hb : Below w.heap.size w w1) : RdO w1 v os := RdF.below h hb
theorem opCells_take (os : List (Int × Int)) (k : Nat) : opCells (os.take k) = (opCells os).take (k * 2) := by
  induction os generalizing k with
  | nil => simp [opCells]
  | cons o t ih =>
    cases k with
    | zero => simp [opCells]
    | succ k =>
      have e : opCells (o :: t) = [.int .i64 o.1, .int .i64 o.2] ++ opCells t := rfl
      have e2 : opCells ((o :: t).take (k + 1)) = [.int .i64 o.1, .int .i64 o.2] ++ opCells (t.take k) := rfl
      rw [e, e2, ih, show (k + 1) * 2 = k * 2 + 2 by omega]
      rfl
theorem RdO.take {w : World} {A : Option Addr} {c : Nat} {os : List (Int × Int)} (h : RdO w (.slice A os.length c) os) (k : Nat) (hk : k ≤ os.length) : RdO w (.slice A k c) (os.take k) := by
  obtain ⟨h0, h1, A', c', hv, h2, _, h3⟩ := h
  injection hv with e1 _ e3
  subst e1 e3
  have hl : (os.take k).length = k := by rw [List.length_take]; omega
  unfold RdO
  rw [hl]
  refine ⟨by omega, by rw [opCells_len, hl], A, c, rfl, by omega, trivial, fun hk0 => ?_⟩
  obtain ⟨g, o, ha, hx⟩ := h3 (by omega)
  refine ⟨g, o, ha, fun j u hj => hx j u ?_⟩
  rw [opCells_take] at hj
  rw [List.getElem?_take] at hj
  split at hj
  · exact hj
  · cases hj
theorem after0 {on : List Int} {n : Int} (h : n ≠ 0) : with1 on n = afterOp on (0, n) := by
  unfold with1 afterOp
  rw [if_neg h, if_pos rfl]
  by_cases hm : n ∈ on
  · rw [if_pos ((among_iff on n).2 hm), if_pos hm]
  · rw [if_neg (fun e => hm ((among_iff on n).1 e)), if_neg hm]
theorem after_len (on : List Int) (o : Int × Int) : (afterOp on o).length ≤ on.length + 1 := by
  unfold afterOp
  repeat' split
  · omega
  · simp
  · simp
  · exact Nat.le_trans (List.length_filter_le _ _) (Nat.le_succ _)
  · omega
theorem filter_drop (f : Int → Bool) (on : List Int) (j : Nat) (y : Int) (hy : on[j]? = some y) : (on.drop j).filter f = (if f y then [y] else []) ++ (on.drop (j + 1)).filter f := by
  obtain ⟨h1, h2⟩ := List.getElem?_eq_some_iff.1 hy
  rw [List.drop_eq_getElem_cons h1, h2, List.filter_cons]
  split <;> simp
theorem PtAfter_calls (os : List (Int × Int)) (v : Value) (w : World) (h : RdO w v os) (hok : ∀ o ∈ os, opOkB o = true) (hl : os.length ≤ 1000) :
    Calls Tryz.prog 10 #[v] w fun e w' => ∃ u, e = .returned u ∧ RdI w' u (os.foldl afterOp []) ∧ Below w.heap.size w w' := by
  have HR := hid h
  have HOK := hid hok
  obtain ⟨A, c, rfl, hc, _⟩ := RdF.form h
  clear h hok
  obtain ⟨T, hT⟩ : ∃ T, T = os.foldl afterOp [] := ⟨_, rfl⟩
  rw [← hT]
  go_enter Tryz.func10, Tryz.ntmps10
  go_wp2
  go_loopw [3, 5, 6, 8, 11] (fun vo _ _ _ u wr => ∃ (k : Nat) (on : List Int), k ≤ os.length ∧ u = .int .i64 k ∧ RdI wr vo on ∧ on.length ≤ k ∧ Below w.heap.size w wr ∧ Hid ((os.drop k).foldl afterOp on = T)) (fun _ _ _ _ u _ => os.length - (intOf u).toNat)
  case atStart => exact ⟨0, [], by omega, rfl, RdI.nil w, by simp, Below.refl _ w, hid (by rw [hT]; rfl)⟩
  case round =>
    obtain ⟨k, on, hk, rfl, hon, honl, hbw, hacc⟩ := hrel
    have hbs := hbw.size
    by_cases hlt : k < os.length
    · obtain ⟨x, hx⟩ : ∃ x, os[k]? = some x := ⟨_, List.getElem?_eq_getElem hlt⟩
      obtain ⟨g, o, rfl, hcl⟩ := (RdF.below HR.out hbw).at (by omega)
      obtain ⟨q0, q1⟩ := op_get hx
      have hc0 := hcl _ _ q0
      have hc1 := hcl _ _ q1
      rw [← Nat.add_assoc] at hc1
      have hok := HOK.out x (List.mem_of_getElem? hx)
      have hR := opOk hok
      have hlt' : (k : Int) < (os.length : Int) := by omega
      have HD := hid (show (os.drop (k + 1)).foldl afterOp (afterOp on x) = T by rw [← hacc.out, List.drop_eq_getElem_cons hlt, (List.getElem?_eq_some_iff.1 hx).2]; rfl)
      have hal := after_len on x
      clear hacc hcl q0 q1 hx
      have hbA := (Below.refl wr.heap.size wr).alloc (Nat.le_refl _) (.cells #[.int .i64 x.1, .int .i64 x.2] 25)
      have HON := hid (hon.below hbA)
      have HBA := hid (hbw.trans (hbA.mono hbs))
      obtain ⟨A3, c3, hv3⟩ : ∃ A3 c3, u3 = .slice A3 on.length c3 := by obtain ⟨_, A3, c3, h, _⟩ := hon; exact ⟨A3, c3, h⟩
      subst hv3
      clear hon hbA
      obtain ⟨xk, xn⟩ := x
      simp only at hc0 hc1 HD HON HBA hal
      unfold OpR at hR
      simp only at hR
      rcases hR with ⟨rfl, hn⟩ | rfl | ⟨rfl, hn⟩
      · have hn0 : xn ≠ 0 := by
          have := of_decide_eq_true hn
          omega
        have KW := hid (txWith_calls (.slice A3 on.length c3) on xn _ HON.out (by omega))
        rw [after0 hn0] at KW
        go_wp2_with (go_at_call 24; (with_reducible refine KW.out.mono ?_); rintro e w2 ⟨v2, rfl, hrd2, hb2, _⟩)
        go_roundw
        case rel => exact ⟨k + 1, _, by omega, by go_num, hrd2, by omega, HBA.out.trans (hb2.mono HBA.out.size), hid HD.out⟩
        case measure => simp [intOf]; omega
      · go_wp2
        go_roundw
        case rel => exact ⟨k + 1, _, by omega, by go_num, RdI.nil _, by simp, HBA.out, hid HD.out⟩
        case measure => simp [intOf]; omega
      · generalize hW2 : wr.alloc (.cells #[.int .i64 2, .int .i64 xn] 25) = w2 at *
        have hx1 : w2.cell? ⟨wr.heap.size, 1, none⟩ = some (.int .i64 xn) := by rw [← hW2]; exact blk_cell (alloc_heap_new wr _) 1
        have hx0 : w2.cell? ⟨wr.heap.size, 0, none⟩ = some (.int .i64 2) := by rw [← hW2]; exact blk_cell (alloc_heap_new wr _) 0
        have HX := hid hx1
        have HE := hid (show afterOp on (2, xn) = on.filter fun c => !offs xn c from rfl)
        go_wp2
        clear hx0 hx1 hc0 hc1
        have hB2 : w.heap.size ≤ w2.heap.size := HBA.out.size
        go_loopw [6, 8, 29] (fun vl _ vj wi => ∃ (j : Nat) (acc : List Int), j ≤ on.length ∧ vj = .int .i64 j ∧ wi.ownsRow w2.heap.size 3 1 vl acc.length (ints acc) ∧ acc.length ≤ j ∧ Below w2.heap.size w2 wi ∧ Hid (acc ++ (on.drop j).filter (fun c => !offs xn c) = on.filter fun c => !offs xn c)) (fun _ _ vj _ => on.length - (intOf vj).toNat)
        case atStart => exact ⟨0, [], by omega, rfl, own_nil _ _ _ _, by simp, Below.refl _ _, hid (by simp)⟩
        case round =>
          obtain ⟨j, acc, hj, rfl, hown, hal2, hbi, hac⟩ := hrel
          have hbs2 := hbi.size
          by_cases hjt : j < on.length
          · obtain ⟨y, hy⟩ : ∃ y, on[j]? = some y := ⟨_, List.getElem?_eq_getElem hjt⟩
            obtain ⟨g2, o2, c2, hv2, hcl2⟩ := (HON.out.below hbi).at (by omega)
            injection hv2 with ha2 _ hc2
            subst ha2 hc2
            have hcell := hcl2 j y hy
            have hxi := cell_keep hbi HX.out
            have hjt' : (j : Int) < (on.length : Int) := by omega
            have HF := hid (hac.out.symm.trans (congrArg (acc ++ ·) (filter_drop (fun c => !offs xn c) on j y hy)))
            have KO := hid (fun (w' : World) => ptOff_calls xn y w' hn)
            clear hac hcl2 hy
            cases hof : offs xn y
            · rw [hof] at KO
              simp only [hof] at HF
              go_wp2_with (first
                | (go_at_call 25; (with_reducible refine (KO.out _).mono ?_); rintro e w' ⟨rfl, rfl⟩)
                | (at_builtin; refine append_box rfl _ _ 33 3 (.int .i64 0) 1 8 rfl Tryz.underlying33 infoInt rfl (by decide) w2.heap.size u6 acc.length (ints acc) rfl hown 1 3 [.int .i64 y] rfl rfl (by simp; rfl) (by omega) (by decide) hbs2 ?_; intro v5 w5 hown5 hg5))
              go_roundw
              case rel => exact ⟨j + 1, acc ++ [y], by omega, by go_num, by rw [List.length_append]; simpa [ints] using hown5, by simp; omega, below_grown hbi hbs2 (Nat.le_refl _) hown hg5, hid (by rw [HF.out]; simp)⟩
              case measure => simp [intOf]; omega
            · rw [hof] at KO
              simp only [hof] at HF
              go_wp2_with (go_at_call 25; (with_reducible refine (KO.out _).mono ?_); rintro e w' ⟨rfl, rfl⟩)
              go_roundw
              case rel => exact ⟨j + 1, acc, by omega, by go_num, hown, by omega, hbi, hid (by rw [HF.out]; simp)⟩
              case measure => simp [intOf]; omega
          · have hjt' : ¬ (j : Int) < (on.length : Int) := by omega
            have HAC := hid (show acc = afterOp on (2, xn) by rw [HE.out, ← hac.out, List.drop_of_length_le (by omega)]; simp)
            have hrd := RdI.of_own hown (by omega)
            clear hac hown
            go_wp2
            go_roundw
            case rel => exact ⟨k + 1, acc, by omega, by go_num, hrd, by omega, HBA.out.trans (hbi.mono hB2), hid (by rw [HAC.out]; exact HD.out)⟩
            case measure => simp [intOf]; omega
    · have hk2 : k = os.length := by omega
      have hlt' : ¬ (k : Int) < (os.length : Int) := by omega
      have HA := hid (show on = T by rw [← hacc.out, List.drop_of_length_le (by omega)]; rfl)
      have hF : RdI wr u3 (os.foldl afterOp []) := by rw [← hT, ← HA.out]; exact hon
      clear hacc
      go_wp2
      go_ret
      exact ⟨_, rfl, hF, hbw⟩
end Go.Proofs.YtmljkiohekogbaaGreatDoor
