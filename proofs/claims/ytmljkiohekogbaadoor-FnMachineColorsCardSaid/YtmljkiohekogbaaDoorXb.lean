import Derived.Test.YtmljkiohekogbaaDoorXa
import Derived.Test.YtmljkiohekogbaaDoorMv
namespace Go.Proofs.YtmljkiohekogbaaDoor
open Go.RowKit
set_option linter.unusedVariables false
set_option linter.unusedSimpArgs false
set_option maxHeartbeats 4000000
set_option maxRecDepth 100000
attribute [local go_sem] S_extract S_append run_cut_S run_head_S run_tail_S Nat.add_sub_cancel_left

theorem it_grown {w w1 : World} {u : Value} {base e sz n : Nat} {xs : List Value} {k : Nat} {s : ByteArray} {pos : Nat} (hk : w.heap[k]? = some (.stringIter s pos)) (ho : w.ownsRow base e sz u n xs) (hg : w.grownBy w1 u.ownBlock) : w1.heap[k]? = some (.stringIter s pos) := by
  refine (hg.block k (Array.getElem?_eq_some_iff.1 hk).1 ?_).trans hk
  intro e1
  obtain ⟨C, fz, hC⟩ := own_typed ho k e1.symm
  rw [hk] at hC
  cases hC
theorem own_it {w : World} {u : Value} {base e sz n : Nat} {xs : List Value} {k : Nat} {s : ByteArray} {pos : Nat} (hk : w.heap[k]? = some (.stringIter s pos)) (ho : w.ownsRow base e sz u n xs) (p : Nat) : (w.iterAt k s p).ownsRow base e sz u n xs := by
  refine own_step ho fun j hj => Lib.iterAt_other w k j s p ?_
  intro e1
  obtain ⟨C, fz, hC⟩ := own_typed ho j hj
  rw [e1, hk] at hC
  cases hC
theorem infoBool : (Tryd.prog.info? 4).map (fun i => (i.zero, i.size, i.bytes)) = some (some (.bool false), 1, 1) := by kernel_rfl
theorem infoEscStep : (Tryd.prog.info? 45).map (fun i => (i.zero, i.size, i.bytes)) = some (some (.agg #[.int .i64 0, .int .i32 0, .string ⟨#[]⟩]), 3, 32) := by kernel_rfl
def bools (l : List Bool) : List Value := l.map Value.bool
def stqCells (l : List Stq) : List Value := l.flatMap fun x => [.int .i64 x.kind, .int .i32 x.rune, .string ⟨x.text.toArray⟩]
theorem stqCells_app (a b : List Stq) : stqCells (a ++ b) = stqCells a ++ stqCells b := by simp [stqCells]
theorem stqCells_len (l : List Stq) : (stqCells l).length = l.length * 3 := by
  induction l with
  | nil => rfl
  | cons x t ih =>
    have : stqCells (x :: t) = [.int .i64 x.kind, .int .i32 x.rune, .string ⟨x.text.toArray⟩] ++ stqCells t := rfl
    rw [this, List.length_append, ih]
    simp; omega
theorem stq_get : ∀ {l : List Stq} {i : Nat} {x : Stq}, l[i]? = some x → (stqCells l)[i * 3]? = some (.int .i64 x.kind) ∧ (stqCells l)[i * 3 + 1]? = some (.int .i32 x.rune) ∧ (stqCells l)[i * 3 + 2]? = some (.string ⟨x.text.toArray⟩)
  | [], i, q, h => by simp at h
  | p :: t, 0, q, h => by simp at h; subst h; simp [stqCells]
  | p :: t, i + 1, q, h => by
    have := stq_get (l := t) (i := i) (x := q) (by simpa using h)
    rw [show (i + 1) * 3 = i * 3 + 1 + 1 + 1 by omega]
    simpa [stqCells] using this
/-- the characters of a text, as steps -/
theorem PtSteps_calls (l : List UInt8) (w : World) (hs : l.length ≤ 1000000) :
    Calls Tryd.prog 34 #[.string ⟨l.toArray⟩] w fun e w' => ∃ v, e = .returned v ∧ w'.ownsRow w.heap.size 45 3 v (runesL l).length (stqCells ((runesL l).map cS)) ∧ Below w.heap.size w w' := by
  have hsz : (⟨l.toArray⟩ : ByteArray).size = l.length := S_size l
  have hrs := runes_L l
  generalize (⟨l.toArray⟩ : ByteArray) = s at *
  generalize runesL l = rs at *
  go_enter Tryd.func34, Tryd.ntmps34
  go_wp2
  go_loopw [3] (fun vo wr => ∃ (pos f : Nat) (acc : List Int), wr.heap[w.heap.size]? = some (.stringIter s pos) ∧ Below w.heap.size w wr ∧ Hid (runes s = acc ++ runesFrom s f pos) ∧ s.size ≤ pos + f ∧ acc.length ≤ pos ∧ wr.ownsRow w.heap.size 45 3 vo acc.length (stqCells (acc.map cS))) (fun _ wr => s.size - wr.iterPos (w.heap.size))
  case atStart => exact ⟨0, s.size, [], by simpa using World.iter_heap w s 0, (Below.refl _ w).alloc (Nat.le_refl _) _, hid rfl, by omega, by simp, own_nil _ _ _ _⟩
  case round =>
    obtain ⟨pos, f, acc, hit, hbw, hacc, hfu, hal, hown⟩ := hrel
    by_cases hp : pos < s.size
    · have hnx : ∀ ty, (Instr.next (.pointer (some ⟨w.heap.size, 0, none⟩)) true ty).run Tryd.prog wr = _ := fun ty => Lib.run_next_any_at wr (w.heap.size) s pos ty hit hp
      have hwd := width_pos s pos hp
      have hd1 := decode_le s pos
      have hit2 := Lib.iterAt_heap wr (w.heap.size) s pos (pos + (Utf8.decode s pos).2) hit
      have hbw2 := Lib.below_iterAt hbw (k := w.heap.size) (by omega) s (pos + (Utf8.decode s pos).2)
      have hown2 := own_it hit hown (pos + (Utf8.decode s pos).2)
      have hbs2 := hbw2.size
      obtain ⟨f, rfl⟩ : ∃ g, f = g + 1 := ⟨f - 1, by omega⟩
      have HA := hid (hacc.out.trans (congrArg (acc ++ ·) (runesFrom_step s f pos hp)))
      clear hacc hown
      go_wp2_with (at_builtin; refine append_box rfl _ _ 46 45 (.agg #[.int .i64 0, .int .i32 0, .string ⟨#[]⟩]) 3 32 rfl Tryd.underlying46 infoEscStep rfl (by decide) w.heap.size u3 acc.length (stqCells (acc.map cS)) rfl hown2 1 45 [.int .i64 0, .int .i32 (Utf8.decode s pos).1, .string ⟨#[]⟩] rfl rfl (by simp; exact ⟨rfl, rfl, rfl⟩) (by omega) (by decide) hbs2 ?_; intro v2 w2 hown3 hg2)
      go_roundw
      case rel => exact ⟨pos + (Utf8.decode s pos).2, f, acc ++ [((Utf8.decode s pos).1 : Int)], it_grown hit2 hown2 hg2, below_grown hbw2 hbs2 (Nat.le_refl _) hown2 hg2, hid (by rw [HA.out]; simp), by omega, by simp; omega, by rw [List.map_append, stqCells_app, List.length_append]; exact hown3⟩
      case measure => simp only [World.iterPos, it_grown hit2 hown2 hg2, hit]; omega
    · have hnx : ∀ ty, (Instr.next (.pointer (some ⟨w.heap.size, 0, none⟩)) true ty).run Tryd.prog wr = _ := fun ty => Lib.run_next_end_at wr (w.heap.size) s pos ty hit hp
      have HA := hid (show rs = acc by rw [← hrs, hacc.out, runesFrom_end s f pos hp, List.append_nil])
      clear hacc
      go_wp2
      go_ret
      exact ⟨_, rfl, by rw [HA.out]; exact hown, hbw⟩
theorem bools_snoc (l : List Bool) (b : Bool) : bools (l ++ [b]) = bools l ++ [.bool b] := by simp [bools]
theorem PtIn_calls (rs : List Int) (v : Value) (w : World) (h : RdF w v 1 rs.length (i32s rs)) (hl : rs.length ≤ 1000000) :
    Calls Tryd.prog 19 #[v] w fun e w' => ∃ u, e = .returned u ∧ w'.ownsRow w.heap.size 4 1 u rs.length (bools (inL rs (false, false))) ∧ Below w.heap.size w w' := by
  have HR := hid h
  obtain ⟨A, c, rfl, hc, _⟩ := h.form
  clear h
  obtain ⟨T, hT⟩ : ∃ T, T = inL rs (false, false) := ⟨_, rfl⟩
  rw [← hT]
  go_enter Tryd.func19, Tryd.ntmps19
  go_wp2
  go_loopw [3, 4, 5, 10] (fun vo vi vp u wr => ∃ (k : Nat) (q : Bool × Bool) (acc : List Bool), k ≤ rs.length ∧ u = .int .i64 k ∧ vi = .bool q.1 ∧ vp = .bool q.2 ∧ acc.length = k ∧ Hid (T = acc ++ inL (rs.drop k) q) ∧ Below w.heap.size w wr ∧ wr.ownsRow w.heap.size 4 1 vo acc.length (bools acc)) (fun _ _ _ u _ => rs.length - (intOf u).toNat)
  case atStart => exact ⟨0, (false, false), [], by omega, rfl, rfl, rfl, rfl, hid (by rw [hT]; rfl), Below.refl _ w, own_nil _ _ _ _⟩
  case round =>
    obtain ⟨k, ⟨qi, qo⟩, acc, hk, rfl, rfl, rfl, hal, hacc, hbw, hown⟩ := hrel
    have hbs := hbw.size
    by_cases hlt : k < rs.length
    · obtain ⟨y, hy⟩ : ∃ y, rs[k]? = some y := ⟨_, List.getElem?_eq_getElem hlt⟩
      obtain ⟨g, o, rfl, hcl⟩ := (HR.out.below hbw).at (by omega)
      have hcell := hcl k (.int .i32 y) (by unfold i32s; rw [List.getElem?_map, hy]; rfl)
      have hlt' : (k : Int) < (rs.length : Int) := by omega
      have HD := hid (show T = acc ++ ((inStep (qi, qo) y).1 :: inL (rs.drop (k + 1)) (inStep (qi, qo) y)) by
        rw [hacc.out, List.drop_eq_getElem_cons hlt, (List.getElem?_eq_some_iff.1 hy).2]
        rfl)
      clear hacc hcl hy
      cases qi
      · cases qo
        · by_cases hc : y = 27
          · have ec : (y == 27) = true := by simpa using hc
            subst hc
            have HS := hid (show inStep (false, false) 27 = (true, false) by unfold inStep; decide)
            rw [HS.out] at HD
            go_wp2_with (at_builtin; refine append_box rfl _ _ 36 4 (.bool false) 1 1 rfl Tryd.underlying36 infoBool rfl (by decide) w.heap.size u3 acc.length (bools acc) rfl hown 1 4 [.bool true] rfl rfl (by simp; rfl) (by omega) (by decide) hbs ?_; intro v2 w2 hown2 hg2)
            go_roundw
            case rel => exact ⟨k + 1, (true, false), acc ++ [true], by omega, by go_num, rfl, rfl, by simp [hal], hid (by rw [HD.out]; simp), below_grown hbw hbs (Nat.le_refl _) hown hg2, by rw [bools_snoc, List.length_append]; exact hown2⟩
            case measure => simp [intOf]; omega
          · have ec : (y == 27) = false := by simpa using hc
            have HS := hid (show inStep (false, false) y = (false, false) by unfold inStep; simp [hc])
            rw [HS.out] at HD
            go_wp2_with (at_builtin; refine append_box rfl _ _ 36 4 (.bool false) 1 1 rfl Tryd.underlying36 infoBool rfl (by decide) w.heap.size u3 acc.length (bools acc) rfl hown 1 4 [.bool false] rfl rfl (by simp; rfl) (by omega) (by decide) hbs ?_; intro v2 w2 hown2 hg2)
            go_roundw
            case rel => exact ⟨k + 1, (false, false), acc ++ [false], by omega, by go_num, rfl, rfl, by simp [hal], hid (by rw [HD.out]; simp), below_grown hbw hbs (Nat.le_refl _) hown hg2, by rw [bools_snoc, List.length_append]; exact hown2⟩
            case measure => simp [intOf]; omega
        · by_cases hc : y = 27
          · have ec : (y == 27) = true := by simpa using hc
            subst hc
            have HS := hid (show inStep (false, true) 27 = (true, false) by unfold inStep; decide)
            rw [HS.out] at HD
            go_wp2_with (at_builtin; refine append_box rfl _ _ 36 4 (.bool false) 1 1 rfl Tryd.underlying36 infoBool rfl (by decide) w.heap.size u3 acc.length (bools acc) rfl hown 1 4 [.bool true] rfl rfl (by simp; rfl) (by omega) (by decide) hbs ?_; intro v2 w2 hown2 hg2)
            go_roundw
            case rel => exact ⟨k + 1, (true, false), acc ++ [true], by omega, by go_num, rfl, rfl, by simp [hal], hid (by rw [HD.out]; simp), below_grown hbw hbs (Nat.le_refl _) hown hg2, by rw [bools_snoc, List.length_append]; exact hown2⟩
            case measure => simp [intOf]; omega
          · have ec : (y == 27) = false := by simpa using hc
            have HS := hid (show inStep (false, true) y = (false, true) by unfold inStep; simp [hc])
            rw [HS.out] at HD
            go_wp2_with (at_builtin; refine append_box rfl _ _ 36 4 (.bool false) 1 1 rfl Tryd.underlying36 infoBool rfl (by decide) w.heap.size u3 acc.length (bools acc) rfl hown 1 4 [.bool false] rfl rfl (by simp; rfl) (by omega) (by decide) hbs ?_; intro v2 w2 hown2 hg2)
            go_roundw
            case rel => exact ⟨k + 1, (false, true), acc ++ [false], by omega, by go_num, rfl, rfl, by simp [hal], hid (by rw [HD.out]; simp), below_grown hbw hbs (Nat.le_refl _) hown hg2, by rw [bools_snoc, List.length_append]; exact hown2⟩
            case measure => simp [intOf]; omega
      · cases qo
        · by_cases hc : y = 91
          · have ec : (y == 91) = true := by simpa using hc
            subst hc
            have HS := hid (show inStep (true, false) 91 = (true, true) by unfold inStep; decide)
            rw [HS.out] at HD
            go_wp2_with (at_builtin; refine append_box rfl _ _ 36 4 (.bool false) 1 1 rfl Tryd.underlying36 infoBool rfl (by decide) w.heap.size u3 acc.length (bools acc) rfl hown 1 4 [.bool true] rfl rfl (by simp; rfl) (by omega) (by decide) hbs ?_; intro v2 w2 hown2 hg2)
            go_roundw
            case rel => exact ⟨k + 1, (true, true), acc ++ [true], by omega, by go_num, rfl, rfl, by simp [hal], hid (by rw [HD.out]; simp), below_grown hbw hbs (Nat.le_refl _) hown hg2, by rw [bools_snoc, List.length_append]; exact hown2⟩
            case measure => simp [intOf]; omega
          · have ec : (y == 91) = false := by simpa using hc
            have HS := hid (show inStep (true, false) y = (true, false) by unfold inStep; simp [hc])
            rw [HS.out] at HD
            go_wp2_with (at_builtin; refine append_box rfl _ _ 36 4 (.bool false) 1 1 rfl Tryd.underlying36 infoBool rfl (by decide) w.heap.size u3 acc.length (bools acc) rfl hown 1 4 [.bool true] rfl rfl (by simp; rfl) (by omega) (by decide) hbs ?_; intro v2 w2 hown2 hg2)
            go_roundw
            case rel => exact ⟨k + 1, (true, false), acc ++ [true], by omega, by go_num, rfl, rfl, by simp [hal], hid (by rw [HD.out]; simp), below_grown hbw hbs (Nat.le_refl _) hown hg2, by rw [bools_snoc, List.length_append]; exact hown2⟩
            case measure => simp [intOf]; omega
        · by_cases hc : y = 109
          · have ec : (y == 109) = true := by simpa using hc
            subst hc
            have HS := hid (show inStep (true, true) 109 = (false, true) by unfold inStep; decide)
            rw [HS.out] at HD
            go_wp2_with (at_builtin; refine append_box rfl _ _ 36 4 (.bool false) 1 1 rfl Tryd.underlying36 infoBool rfl (by decide) w.heap.size u3 acc.length (bools acc) rfl hown 1 4 [.bool false] rfl rfl (by simp; rfl) (by omega) (by decide) hbs ?_; intro v2 w2 hown2 hg2)
            go_roundw
            case rel => exact ⟨k + 1, (false, true), acc ++ [false], by omega, by go_num, rfl, rfl, by simp [hal], hid (by rw [HD.out]; simp), below_grown hbw hbs (Nat.le_refl _) hown hg2, by rw [bools_snoc, List.length_append]; exact hown2⟩
            case measure => simp [intOf]; omega
          · have ec : (y == 109) = false := by simpa using hc
            have HS := hid (show inStep (true, true) y = (true, true) by unfold inStep; simp [hc])
            rw [HS.out] at HD
            go_wp2_with (at_builtin; refine append_box rfl _ _ 36 4 (.bool false) 1 1 rfl Tryd.underlying36 infoBool rfl (by decide) w.heap.size u3 acc.length (bools acc) rfl hown 1 4 [.bool true] rfl rfl (by simp; rfl) (by omega) (by decide) hbs ?_; intro v2 w2 hown2 hg2)
            go_roundw
            case rel => exact ⟨k + 1, (true, true), acc ++ [true], by omega, by go_num, rfl, rfl, by simp [hal], hid (by rw [HD.out]; simp), below_grown hbw hbs (Nat.le_refl _) hown hg2, by rw [bools_snoc, List.length_append]; exact hown2⟩
            case measure => simp [intOf]; omega
    · have hk2 : k = rs.length := by omega
      have hlt' : ¬ (k : Int) < (rs.length : Int) := by omega
      have HA := hid (show T = acc by rw [hacc.out, List.drop_of_length_le (by omega)]; simp [inL])
      clear hacc
      have hF : wr.ownsRow w.heap.size 4 1 u3 rs.length (bools (inL rs (false, false))) := by rw [← hT, HA.out, ← hk2, ← hal]; exact hown
      go_wp2
      go_ret
      exact ⟨_, rfl, hF, hbw⟩
end Go.Proofs.YtmljkiohekogbaaDoor
