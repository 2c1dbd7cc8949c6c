import Derived.Test.YtfiokjdikhfcaaaDoorH
namespace Go.Proofs.YtfiokjdikhfcaaaDoor
open Go.RowKit Go.Lib
set_option linter.unusedVariables false
set_option linter.unusedSimpArgs false
set_option maxHeartbeats 4000000
set_option maxRecDepth 100000

def letterR (r : Int) : Bool := (decide (97 ≤ r) && decide (r ≤ 122)) || (decide (65 ≤ r) && decide (r ≤ 90))
def titleOk (r : Int) : Bool := letterR r || (decide (r = 32) || decide (r = 45))
def up3 (r : Int) : Int := if 97 ≤ r ∧ r ≤ 122 then r - 32 else r
/-- cells, each letter behind none in the upper case -/
def titled : Bool → List (Int × List Int) → List (Int × List Int)
  | _, [] => []
  | s, p :: t => ((if s then up3 p.1 else p.1), p.2) :: titled (!letterR p.1) t
theorem titled_cons (s : Bool) (p : Int × List Int) (t : List (Int × List Int)) : titled s (p :: t) = ((if s then up3 p.1 else p.1), p.2) :: titled (!letterR p.1) t := rfl

theorem PtLetter_calls (r : Int) (w : World) : Calls Tryd.prog 18 #[.int .i32 r] w fun e w' => e = .returned (.bool (letterR r)) ∧ w' = w := by
  by_cases h1 : 97 ≤ r <;> by_cases h2 : r ≤ 122 <;> by_cases h3 : 65 ≤ r <;> by_cases h4 : r ≤ 90
  all_goals first
    | (exfalso; omega)
    | (go_enter Tryd.func18, Tryd.ntmps18
       go_wp2
       go_ret
       exact ⟨by simp [letterR, h1, h2, h3, h4], rfl⟩)
theorem TxCase3_calls (r : Int) (hr0 : 0 ≤ r) (hr : r ≤ 2000000) (w : World) : Calls Tryd.prog 21 #[.int .i32 r, .int .i64 3] w fun e w' => e = .returned (.int .i32 (up3 r)) ∧ w' = w := by
  by_cases h1 : 97 ≤ r
  · by_cases h2 : r ≤ 122
    · go_enter Tryd.func21, Tryd.ntmps21
      go_wp2
      go_ret
      exact ⟨by unfold up3; rw [if_pos ⟨h1, h2⟩]; rfl, rfl⟩
    · go_enter Tryd.func21, Tryd.ntmps21
      go_wp2
      go_ret
      exact ⟨by unfold up3; rw [if_neg (by omega)]; rfl, rfl⟩
  · go_enter Tryd.func21, Tryd.ntmps21
    go_wp2
    go_ret
    exact ⟨by unfold up3; rw [if_neg (by omega)]; rfl, rfl⟩
theorem ptTitles_calls (v : Value) (cs : List (Int × List Int)) (w : World) (h : RdCells w v cs) :
    Calls Tryd.prog 10 #[v] w fun e w' => e = .returned (.bool (cs.all fun p => titleOk p.1)) ∧ Below w.heap.size w w' := by
  obtain ⟨hl, A, c, rfl, hc, _, hr⟩ := h
  have HR := hid hr
  clear hr
  go_enter Tryd.func10, Tryd.ntmps10
  go_wp2_with fail
  go_loopw [7] (fun u wr => ∃ k : Nat, k ≤ cs.length ∧ u = .int .i64 k ∧ Below w.heap.size w wr ∧ Hid (((cs.drop k).all fun p => titleOk p.1) = cs.all fun p => titleOk p.1)) (fun u _ => cs.length - (intOf u).toNat)
  case atStart => exact ⟨0, by omega, rfl, Below.refl _ _, hid rfl⟩
  case round =>
    obtain ⟨k, hk, rfl, hbw, hacc⟩ := hrel
    by_cases hlt : k < cs.length
    · have hlt' : (k : Int) < (cs.length : Int) := by omega
      obtain ⟨g, o, rfl, hcl⟩ := HR.out (by intro e; subst e; simp at hlt)
      obtain ⟨r, l, hrl⟩ : ∃ r l, cs[k] = (r, l) := ⟨_, _, rfl⟩
      obtain ⟨hc1, vc, hc2, hvc⟩ := hcl k r l (by rw [← hrl]; exact List.getElem?_eq_getElem hlt)
      have HA := hid (show (titleOk r && ((cs.drop (k + 1)).all fun p => titleOk p.1)) = cs.all fun p => titleOk p.1 by
        rw [← hacc.out, List.drop_eq_getElem_cons hlt, hrl]
        rfl)
      have d1 := (hbw.cell (cell_lt hc1)).trans hc1
      have d2 := (hbw.cell (cell_lt hc2)).trans hc2
      have KL := hid (fun W => PtLetter_calls r W)
      obtain ⟨Ac, cc, rfl⟩ := hvc.form
      clear hacc hcl hrl hvc hc1 hc2
      cases hx : letterR r with
      | true =>
        rw [hx] at KL
        rw [show titleOk r = true by unfold titleOk; rw [hx]; rfl] at HA
        go_wp2_with (go_at_call 18; (with_reducible refine (KL.out _).mono ?_); rintro e w2 ⟨rfl, rfl⟩)
        go_roundw
        case rel => exact ⟨k + 1, by omega, by go_num, by first | exact hbw.alloc hbw.size _ | exact ((hbw.alloc hbw.size _).setCell hbw.size _).setCell hbw.size _, hid HA.out⟩
        case measure => simp [intOf]; omega
      | false =>
        rw [hx] at KL
        by_cases h32 : r = 32
        · subst h32
          rw [show titleOk 32 = true by rfl] at HA
          have b32 : ((32 : Int) != 32) = false := rfl
          go_wp2_with (go_at_call 18; (with_reducible refine (KL.out _).mono ?_); rintro e w2 ⟨rfl, rfl⟩)
          go_roundw
          case rel => exact ⟨k + 1, by omega, by go_num, by first | exact hbw.alloc hbw.size _ | exact ((hbw.alloc hbw.size _).setCell hbw.size _).setCell hbw.size _, hid HA.out⟩
          case measure => simp [intOf]; omega
        · have b32 : (r != 32) = true := by simpa using h32
          by_cases h45 : r = 45
          · subst h45
            rw [show titleOk 45 = true by rfl] at HA
            have b45 : ((45 : Int) != 45) = false := rfl
            go_wp2_with (go_at_call 18; (with_reducible refine (KL.out _).mono ?_); rintro e w2 ⟨rfl, rfl⟩)
            go_roundw
            case rel => exact ⟨k + 1, by omega, by go_num, by first | exact hbw.alloc hbw.size _ | exact ((hbw.alloc hbw.size _).setCell hbw.size _).setCell hbw.size _, hid HA.out⟩
            case measure => simp [intOf]; omega
          · have b45 : (r != 45) = true := by simpa using h45
            rw [show titleOk r = false by unfold titleOk; rw [hx, decide_eq_false h32, decide_eq_false h45]; rfl] at HA
            go_wp2_with (go_at_call 18; (with_reducible refine (KL.out _).mono ?_); rintro e w2 ⟨rfl, rfl⟩)
            go_ret
            exact ⟨ret_bool (by rw [← HA.out]; rfl), by first | exact hbw.alloc hbw.size _ | exact ((hbw.alloc hbw.size _).setCell hbw.size _).setCell hbw.size _⟩
    · have hlt' : ¬ (k : Int) < (cs.length : Int) := by omega
      have HA := hid (show (cs.all fun p => titleOk p.1) = true by rw [← hacc.out, List.drop_of_length_le (by omega)]; rfl)
      clear hacc
      go_wp2_with fail
      go_ret
      exact ⟨ret_bool HA.out.symm, hbw⟩

theorem RdCells.of_ownZ {w : World} {base e : Nat} {v : Value} {n : Nat} {acc : Acc} (h : w.ownsRow base e 2 v n (accCells acc)) (hl : acc.length ≤ 4611686018427387904) (hok : ∀ q ∈ acc, RdI w q.2.1 q.2.2) : RdCells w v (acc.map fun q => (q.1, q.2.2)) := by
  have hn : n = acc.length := by
    have := h.1
    have e1 : (accCells acc).length = acc.length * 2 := by
      clear this h hok hl
      induction acc with
      | nil => rfl
      | cons p t ih => simp only [accCells, List.flatMap_cons, List.length_append, List.length_cons, List.length_nil] at ih ⊢; omega
    omega
  subst hn
  obtain ⟨A, c, rfl, hc, hA⟩ := own_slice h
  refine ⟨by simpa using hl, A, c, by simp, by simpa using hc, hA, fun hne => ?_⟩
  obtain ⟨g, c', he, _, _, _, hcl⟩ := own_cells h (List.length_pos_iff.2 (by simpa using hne))
  injection he with he1 _ _
  refine ⟨g, 0, he1, fun i r l hi => ?_⟩
  simp only [List.getElem?_map, Option.map_eq_some_iff] at hi
  obtain ⟨q, hq, hql⟩ := hi
  injection hql with h1 h2
  subst h1 h2
  have hg := acc_get hq
  exact ⟨by rw [Nat.zero_add]; exact hcl _ _ hg.1, q.2.1, by rw [Nat.zero_add]; exact hcl _ _ hg.2, hok q (List.mem_of_getElem? hq)⟩
def sAt (cs : List (Int × List Int)) : Nat → Bool
  | 0 => true
  | k + 1 => !letterR ((cs[k]?.map Prod.fst).getD 0)
theorem titled_at {cs : List (Int × List Int)} {k : Nat} {r : Int} {l : List Int} (h : cs[k]? = some (r, l)) : titled (sAt cs k) (cs.drop k) = ((if sAt cs k then up3 r else r), l) :: titled (sAt cs (k + 1)) (cs.drop (k + 1)) := by
  obtain ⟨hk, he⟩ := List.getElem?_eq_some_iff.1 h
  rw [List.drop_eq_getElem_cons hk, he, titled_cons]
  show _ :: titled (!letterR r) _ = _ :: titled (!letterR ((cs[k]?.map Prod.fst).getD 0)) _
  rw [h]
  rfl
theorem titled_len : ∀ (cs : List (Int × List Int)) (s : Bool), (titled s cs).length = cs.length
  | [], _ => rfl
  | p :: t, s => by rw [titled_cons, List.length_cons, List.length_cons, titled_len t]
theorem PtTitled_calls (v : Value) (cs : List (Int × List Int)) (w : World) (h : RdCells w v cs) (hlen : cs.length ≤ 1000000) (hrg : ∀ p ∈ cs, 0 ≤ p.1 ∧ p.1 ≤ 2000000) :
    Calls Tryd.prog 12 #[v] w fun e w' => ∃ v, e = .returned v ∧ RdCells w' v (titled true cs) ∧ Below w.heap.size w w' := by
  obtain ⟨hl, A, c, rfl, hc, _, hr⟩ := h
  have HR := hid hr
  have HG := hid hrg
  clear hr hrg
  go_enter Tryd.func12, Tryd.ntmps12
  go_wp2_with fail
  go_loopw [3, 8] (fun vo u wr => ∃ (k : Nat) (acc : Acc), k ≤ cs.length ∧ u = .int .i64 k ∧ Below w.heap.size w wr ∧ acc.length = k ∧ (∀ q ∈ acc, RdI w q.2.1 q.2.2) ∧ Hid (acc.map (fun q => (q.1, q.2.2)) ++ titled (sAt cs k) (cs.drop k) = titled true cs) ∧ wr.ownsRow w.heap.size 44 2 vo k (accCells acc)) (fun _ u _ => cs.length - (intOf u).toNat)
  case atStart => exact ⟨0, [], by omega, rfl, Below.refl _ _, rfl, by simp, hid rfl, own_nil _ _ _ _⟩
  case round =>
    obtain ⟨k, acc, hk, rfl, hbw, hal, hok, hacc, hown⟩ := hrel
    have hbs := hbw.size
    by_cases hlt : k < cs.length
    · have hlt' : (k : Int) < (cs.length : Int) := by omega
      obtain ⟨g, o, rfl, hcl⟩ := HR.out (by intro e; subst e; simp at hlt)
      obtain ⟨r, l, hrl⟩ : ∃ r l, cs[k] = (r, l) := ⟨_, _, rfl⟩
      have hkk : cs[k]? = some (r, l) := by rw [← hrl]; exact List.getElem?_eq_getElem hlt
      obtain ⟨hc1, vc, hc2, hvc⟩ := hcl k r l hkk
      have HG1 := hid (HG.out _ (List.mem_of_getElem? hkk))
      have HA := hid (show (acc ++ [((if sAt cs k then up3 r else r), vc, l)]).map (fun q => (q.1, q.2.2)) ++ titled (sAt cs (k + 1)) (cs.drop (k + 1)) = titled true cs by
        rw [← hacc.out, titled_at hkk, List.map_append, List.append_assoc]
        rfl)
      have HOK := hid (show ∀ q ∈ acc ++ [((if sAt cs k then up3 r else r), vc, l)], RdI w q.2.1 q.2.2 by
        intro q hq
        rcases List.mem_append.1 hq with hq | hq
        · exact hok q hq
        · simp only [List.mem_singleton] at hq; subst hq; exact hvc)
      have HL := hid (show (acc ++ [((if sAt cs k then up3 r else r), vc, l)]).length = k + 1 by rw [List.length_append, hal]; rfl)
      have d1 := (hbw.cell (cell_lt hc1)).trans hc1
      have d2 := (hbw.cell (cell_lt hc2)).trans hc2
      have KL := hid (fun r W => PtLetter_calls r W)
      have KC := hid (fun W => TxCase3_calls r HG1.out.1 HG1.out.2 W)
      obtain ⟨Ac, cc, rfl⟩ := hvc.form
      have hbA : ∀ x : Int, Below wr.heap.size wr (wr.alloc (.cells #[.int .i32 x, .slice Ac l.length cc] 44)) := fun x => (Below.refl wr.heap.size wr).alloc (Nat.le_refl _) _
      have HBB := hid hbA
      have HOWN := hid (fun x => own_below hown (hbA x))
      have HBA := hid (fun x => hbw.trans ((hbA x).mono hbs))
      clear hacc hrl hvc hc1 hc2 hok hown hbA hkk
      have HZ := hid (fun x : Int => show (wr.alloc (.cells #[.int .i32 x, .slice Ac l.length cc] 44)).heap.size = wr.heap.size + 1 by simp)
      by_cases hk0 : k = 0
      · have hkb : ((k : Int) == 0) = true := by rw [hk0]; rfl
        have HS := hid (show sAt cs k = true by rw [hk0]; rfl)
        clear hk0
        go_wp2_with (first
          | (go_at_call 21; (with_reducible refine (KC.out _).mono ?_); rintro e w2 ⟨rfl, rfl⟩)
          | (at_builtin; refine append_box rfl _ _ 24 44 (.agg #[.int .i32 0, .slice none 0 0]) 2 32 rfl Tryd.underlying24 infoCell rfl (by decide) w.heap.size u3 k (accCells acc) rfl (HOWN.out (up3 r)) 1 44 [.int .i32 (up3 r), .slice Ac l.length cc] (by rw [HZ.out]; rfl) rfl (by simp; exact ⟨rfl, rfl⟩) (by omega) (by decide) (HBA.out (up3 r)).size ?_; intro v2 w2 hown3 hg2))
        go_roundw
        case rel => exact ⟨k + 1, acc ++ [((if sAt cs k then up3 r else r), .slice Ac l.length cc, l)], by omega, by go_num, below_grown (HBA.out _) (HBA.out _).size (Nat.le_refl _) (HOWN.out _) hg2, HL.out, HOK.out, hid HA.out, by rw [accCells_snoc, HS.out]; exact hown3⟩
        case measure => simp [intOf]; omega
      · have hkb : ((k : Int) == 0) = false := by simpa using hk0
        obtain ⟨r', l', hk1⟩ : ∃ r' l', cs[k - 1]? = some (r', l') := ⟨_, _, List.getElem?_eq_getElem (by omega)⟩
        have d3 := (hbw.cell (cell_lt (hcl _ _ _ hk1).1)).trans (hcl _ _ _ hk1).1
        have d4 := ((HBB.out r).cell (cell_lt d3)).trans d3
        have HS0 := hid (show sAt cs k = !letterR r' by
          obtain ⟨j, rfl⟩ : ∃ j, k = j + 1 := ⟨k - 1, by omega⟩
          rw [Nat.add_sub_cancel] at hk1
          show (!letterR ((cs[j]?.map Prod.fst).getD 0)) = _
          rw [hk1]
          rfl)
        have KL2 := hid (fun W => KL.out r' W)
        clear hk1 hcl KL
        cases hx : letterR r' with
        | true =>
          rw [hx] at KL2
          have HS := hid (show sAt cs k = false by rw [HS0.out, hx]; rfl)
          clear hx
          go_wp2_with (first
            | (go_at_call 18; (with_reducible refine (KL2.out _).mono ?_); rintro e w2 ⟨rfl, rfl⟩)
            | (at_builtin; refine append_box rfl _ _ 24 44 (.agg #[.int .i32 0, .slice none 0 0]) 2 32 rfl Tryd.underlying24 infoCell rfl (by decide) w.heap.size u3 k (accCells acc) rfl (HOWN.out (r)) 1 44 [.int .i32 (r), .slice Ac l.length cc] (by rw [HZ.out]; rfl) rfl (by simp; exact ⟨rfl, rfl⟩) (by omega) (by decide) (HBA.out (r)).size ?_; intro v2 w2 hown3 hg2))
          go_roundw
          case rel => exact ⟨k + 1, acc ++ [((if sAt cs k then up3 r else r), .slice Ac l.length cc, l)], by omega, by go_num, below_grown (HBA.out _) (HBA.out _).size (Nat.le_refl _) (HOWN.out _) hg2, HL.out, HOK.out, hid HA.out, by rw [accCells_snoc, HS.out]; exact hown3⟩
          case measure => simp [intOf]; omega
        | false =>
          rw [hx] at KL2
          have HS := hid (show sAt cs k = true by rw [HS0.out, hx]; rfl)
          clear hx
          go_wp2_with (first
            | (go_at_call 18; (with_reducible refine (KL2.out _).mono ?_); rintro e w2 ⟨rfl, rfl⟩)
            | (go_at_call 21; (with_reducible refine (KC.out _).mono ?_); rintro e w2 ⟨rfl, rfl⟩)
            | (at_builtin; refine append_box rfl _ _ 24 44 (.agg #[.int .i32 0, .slice none 0 0]) 2 32 rfl Tryd.underlying24 infoCell rfl (by decide) w.heap.size u3 k (accCells acc) rfl (HOWN.out (up3 r)) 1 44 [.int .i32 (up3 r), .slice Ac l.length cc] (by rw [HZ.out]; rfl) rfl (by simp; exact ⟨rfl, rfl⟩) (by omega) (by decide) (HBA.out (up3 r)).size ?_; intro v2 w2 hown3 hg2))
          go_roundw
          case rel => exact ⟨k + 1, acc ++ [((if sAt cs k then up3 r else r), .slice Ac l.length cc, l)], by omega, by go_num, below_grown (HBA.out _) (HBA.out _).size (Nat.le_refl _) (HOWN.out _) hg2, HL.out, HOK.out, hid HA.out, by rw [accCells_snoc, HS.out]; exact hown3⟩
          case measure => simp [intOf]; omega
    · have hlt' : ¬ (k : Int) < (cs.length : Int) := by omega
      have HA := hid (show acc.map (fun q => (q.1, q.2.2)) = titled true cs by rw [← hacc.out, List.drop_of_length_le (by omega)]; simp [titled])
      have HRD := hid (HA.out ▸ RdCells.of_ownZ hown (by omega) (fun q hq => (hok q hq).below hbw))
      clear hacc hok
      go_wp2_with fail
      go_ret
      exact ⟨_, rfl, HRD.out, hbw⟩
end Go.Proofs.YtfiokjdikhfcaaaDoor
