import Derived.Test.YtfiokjdikhfcaaaDoorG
import Derived.Test.YtfiokjdikhfcaaaDoorGa
import Derived.Laws.IdiomStrings
import Derived.Deep.QuietTactic
import Derived.BigQuiet
namespace Go.Proofs.YtfiokjdikhfcaaaDoor
open Go.RowKit
set_option linter.unusedVariables false
set_option linter.unusedSimpArgs false
set_option maxHeartbeats 4000000
set_option maxRecDepth 100000
attribute [local go_sem] S_extract S_append run_cut_S run_head_S run_tail_S Nat.add_sub_cancel_left

theorem conv_runes (s : ByteArray) : ∀ (b i : Nat) (acc : Array Value), Conv.runesFrom s b i acc = acc ++ ((runesFrom s b i).map fun r => Value.int .i32 r).toArray
  | 0, _, acc => by simp [Conv.runesFrom, runesFrom]
  | b + 1, i, acc => by
    unfold Conv.runesFrom runesFrom
    split
    · refine (conv_runes s b (i + (Utf8.decode s i).2) (acc.push (.int .i32 (Int.ofNat (Utf8.decode s i).1)))).trans ?_
      simp
    · simp
theorem runesFrom_len (s : ByteArray) : ∀ (b i : Nat), (runesFrom s b i).length ≤ b
  | 0, _ => by simp [runesFrom]
  | b + 1, i => by
    unfold runesFrom
    split
    · have := runesFrom_len s b (i + (Utf8.decode s i).2); simp; omega
    · simp
theorem runes_len (s : ByteArray) : (runes s).length ≤ s.size := runesFrom_len s _ _

/-- what TxRead reads: m = 0 outside, 1 behind an escape, 2 within a sequence -/
def rdA : List Int → Nat → Int → Nat → List Int → Option (List (Int × List Int) × List Int)
  | [], m, _, _, on => if m = 0 then some ([], on) else none
  | r :: t, m, n, d, on =>
    if m = 0 then (if r = 27 then rdA t 1 0 0 on else (rdA t 0 0 0 on).map fun p => ((r, on) :: p.1, p.2))
    else if m = 1 then (if r = 91 then rdA t 2 0 0 on else none)
    else if 48 ≤ r ∧ r ≤ 57 ∧ d < 3 then rdA t 2 (10 * n + (r - 48)) (d + 1) on
    else if (r = 59 ∨ r = 109) ∧ 0 < d then (if r = 109 then rdA t 0 0 0 (with1 on n) else rdA t 2 0 0 (with1 on n))
    else none
def txRead (rs : List Int) : Option (List (Int × List Int) × List Int) := rdA rs 0 0 0 []

abbrev Acc := List (Int × Value × List Int)
def accCells (acc : Acc) : List Value := acc.flatMap fun p => [.int .i32 p.1, p.2.1]
def accJoin (acc : Acc) (o : Option (List (Int × List Int) × List Int)) : Option (List (Int × List Int) × List Int) := o.map fun p => (acc.map (fun q => (q.1, q.2.2)) ++ p.1, p.2)
def AccOk (w : World) (acc : Acc) : Prop := ∀ q ∈ acc, RdI w q.2.1 q.2.2 ∧ Typ w q.2.1 3

/-- v is a slice of cells that reads as cs -/
def RdCells (w : World) (v : Value) (cs : List (Int × List Int)) : Prop :=
  cs.length ≤ 4611686018427387904 ∧ ∃ A c, v = .slice A cs.length c ∧ cs.length ≤ c ∧ (A = none → c = 0) ∧ (cs ≠ [] → ∃ g o, A = some ⟨g, o, none⟩ ∧ ∀ i r l, cs[i]? = some (r, l) → w.cell? ⟨g, o + i * 2, none⟩ = some (.int .i32 r) ∧ ∃ vc, w.cell? ⟨g, o + i * 2 + 1, none⟩ = some vc ∧ RdI w vc l)
def ReadPost (w : World) (o : Option (List (Int × List Int) × List Int)) (e : Ending) (w' : World) : Prop :=
  Below w.heap.size w w' ∧ match o with
    | none => e = .returned (.tuple #[.slice none 0 0, .slice none 0 0, .bool false])
    | some p => ∃ v u, e = .returned (.tuple #[v, u, .bool true]) ∧ RdCells w' v p.1 ∧ RdI w' u p.2

theorem accCells_snoc (acc : Acc) (r : Int) (v : Value) (l : List Int) : accCells (acc ++ [(r, v, l)]) = accCells acc ++ [.int .i32 r, v] := by simp [accCells]
theorem accJoin_snoc (acc : Acc) (r : Int) (v : Value) (l : List Int) (o : Option (List (Int × List Int) × List Int)) : accJoin (acc ++ [(r, v, l)]) o = accJoin acc (o.map fun p => ((r, l) :: p.1, p.2)) := by
  cases o <;> simp [accJoin]
theorem AccOk.below {w w1 : World} {acc : Acc} (h : AccOk w acc) (hb : Below w.heap.size w w1) : AccOk w1 acc := fun q hq => ⟨(h q hq).1.below hb, (h q hq).2.below hb⟩
/-- what is read, behind an append to a row of another type -/
theorem RdI.grown {w w1 : World} {v u : Value} {l : List Int} {base e t sz n : Nat} {xs : List Value} (h : RdI w v l) (ht : Typ w v t) (ho : w.ownsRow base e sz u n xs) (hne : t ≠ e) (hg : w.grownBy w1 u.ownBlock) : RdI w1 v l := by
  obtain ⟨h0, A, c, rfl, hc, hn, hr⟩ := h
  refine ⟨h0, A, c, rfl, hc, hn, fun hl => ?_⟩
  obtain ⟨g, o, rfl, hx⟩ := hr hl
  refine ⟨g, o, rfl, fun i x hi => ?_⟩
  obtain ⟨C, fz, hC⟩ := ht g (by simp [Value.ownBlock])
  have hlt := (Array.getElem?_eq_some_iff.1 hC).1
  have hk : some g ≠ u.ownBlock := by
    intro e1
    obtain ⟨C', fz', hC'⟩ := own_typed ho g e1.symm
    rw [hC] at hC'
    injection hC' with h1
    injection h1 with _ h2 _
    exact hne h2
  rw [World.cell?_of_block (w := w) (hg.block g hlt hk)]
  exact hx i x hi
theorem Typ.grown {w w1 : World} {v u : Value} {base e t sz n : Nat} {xs : List Value} (ht : Typ w v t) (ho : w.ownsRow base e sz u n xs) (hne : t ≠ e) (hg : w.grownBy w1 u.ownBlock) : Typ w1 v t := by
  intro k hk
  obtain ⟨C, fz, hC⟩ := ht k hk
  have hlt := (Array.getElem?_eq_some_iff.1 hC).1
  refine ⟨C, fz, (hg.block k hlt ?_).trans hC⟩
  intro e1
  obtain ⟨C', fz', hC'⟩ := own_typed ho k e1.symm
  rw [hC] at hC'
  injection hC' with h1
  injection h1 with _ h2 _
  exact hne h2
theorem AccOk.grown {w w1 : World} {u : Value} {acc : Acc} {base e sz n : Nat} {xs : List Value} (h : AccOk w acc) (ho : w.ownsRow base e sz u n xs) (hne : 3 ≠ e) (hg : w.grownBy w1 u.ownBlock) : AccOk w1 acc :=
  fun q hq => ⟨(h q hq).1.grown (h q hq).2 ho hne hg, (h q hq).2.grown ho hne hg⟩
theorem AccOk.snoc {w : World} {acc : Acc} (h : AccOk w acc) {r : Int} {v : Value} {l : List Int} (h1 : RdI w v l) (h2 : Typ w v 3) : AccOk w (acc ++ [(r, v, l)]) := by
  intro q hq
  rcases List.mem_append.1 hq with hq | hq
  · exact h q hq
  · simp at hq; subst hq; exact ⟨h1, h2⟩
/-- a cell that lies below where rows are made, behind an append -/
theorem cell_grown {w w1 : World} {u v : Value} {base e sz n : Nat} {xs : List Value} {a : Addr} (h : w.cell? a = some v) (ho : w.ownsRow base e sz u n xs) (hlt : a.block < base) (hg : w.grownBy w1 u.ownBlock) : w1.cell? a = some v := by
  refine (World.cell?_of_block (w := w) (hg.block a.block (cell_lt h) ?_)).trans h
  intro e1
  have := (own_lt ho _ e1.symm).2
  omega
theorem acc_get : ∀ {acc : Acc} {i : Nat} {q : Int × Value × List Int}, acc[i]? = some q → (accCells acc)[i * 2]? = some (.int .i32 q.1) ∧ (accCells acc)[i * 2 + 1]? = some q.2.1
  | [], i, q, h => by simp at h
  | p :: t, 0, q, h => by simp at h; subst h; simp [accCells]
  | p :: t, i + 1, q, h => by
    have := acc_get (acc := t) (i := i) (q := q) (by simpa using h)
    rw [show (i + 1) * 2 = i * 2 + 1 + 1 by omega]
    simpa [accCells] using this
theorem RdCells.of_own {w : World} {base e : Nat} {v : Value} {n : Nat} {acc : Acc} (h : w.ownsRow base e 2 v n (accCells acc)) (hl : acc.length ≤ 4611686018427387904) (hok : AccOk w acc) : RdCells w v (acc.map fun q => (q.1, q.2.2)) := by
  have hn : n = acc.length := by
    have := h.1
    have e1 : (accCells acc).length = acc.length * 2 := by
      clear this h hok hl
      induction acc with
      | nil => rfl
      | cons p t ih => simp only [accCells, List.flatMap_cons, List.length_append, List.length_cons, List.length_nil] at ih ⊢; omega
    omega
  subst hn
  obtain ⟨A, c, rfl, hc, hA⟩ := own_slice h
  refine ⟨by simpa using hl, A, c, by simp, by simpa using hc, hA, fun hne => ?_⟩
  obtain ⟨g, c', he, _, _, _, hcl⟩ := own_cells h (List.length_pos_iff.2 (by simpa using hne))
  injection he with he1 _ _
  refine ⟨g, 0, he1, fun i r l hi => ?_⟩
  simp only [List.getElem?_map, Option.map_eq_some_iff] at hi
  obtain ⟨q, hq, hql⟩ := hi
  injection hql with h1 h2
  subst h1 h2
  have hg := acc_get hq
  have hmem := hok q (List.mem_of_getElem? hq)
  exact ⟨by rw [Nat.zero_add]; exact hcl _ _ hg.1, q.2.1, by rw [Nat.zero_add]; exact hcl _ _ hg.2, hmem.1⟩

theorem readPost_none {w w' : World} {o : Option (List (Int × List Int) × List Int)} (h : o = none) (hb : Below w.heap.size w w') : ReadPost w o (.returned (.tuple #[.slice none 0 0, .slice none 0 0, .bool false])) w' := by
  subst h; exact ⟨hb, rfl⟩
theorem readPost_some {w w' : World} {o : Option (List (Int × List Int) × List Int)} {cs : List (Int × List Int)} {on : List Int} {v u : Value} (h : o = some (cs, on)) (hb : Below w.heap.size w w') (h1 : RdCells w' v cs) (h2 : RdI w' u on) : ReadPost w o (.returned (.tuple #[v, u, .bool true])) w' := by
  subst h; exact ⟨hb, v, u, rfl, h1, h2⟩

theorem bdrewH {B : Nat} {a w : World} (h : Below B a w) (n : Nat) : Below B a (w.drewN n) := ⟨h.os, h.tape, h.output, h.size, h.block⟩
theorem with1_len (l : List Int) (c : Int) : (with1 l c).length ≤ l.length + 1 := by
  unfold with1; split
  · simp
  · split <;> simp
theorem pow3 {n d : Nat} {c : Int} (h : n < 10 ^ d) (hd : d < 3) (h1 : 48 ≤ c) (h2 : c ≤ 57) : 10 * n + (c - 48).toNat < 10 ^ (d + 1) ∧ 10 * n + (c - 48).toNat ≤ 1000 := by
  have e : 10 ^ (d + 1) = 10 * 10 ^ d := by rw [Nat.pow_succ, Nat.mul_comm]
  have h3 : 10 ^ (d + 1) ≤ 10 ^ 3 := Nat.pow_le_pow_right (by decide) (by omega)
  omega

theorem typ_or {w w1 : World} {v v' : Value} {t : Nat} (h : v' = v ∨ Typ w1 v' t) (h0 : Typ w v t) (hb : Below w.heap.size w w1) : Typ w1 v' t := by
  rcases h with rfl | h
  · exact h0.below hb
  · exact h

theorem infoCell : (Tryd.prog.info? 44).map (fun i => (i.zero, i.size, i.bytes)) = some (some (.agg #[.int .i32 0, .slice none 0 0]), 2, 32) := by kernel_rfl

theorem TxRead_calls (s : ByteArray) (w : World) (hs : s.size ≤ 1000000) :
    Calls Tryd.prog 16 #[.string s] w (ReadPost w (txRead (runes s))) := by
  have hsz : (Conv.runesFrom s s.size 0 #[]).size = (runes s).length := by rw [conv_runes]; simp [runes]
  have hrl := runes_len s
  have hcv := fun W => run_runes_of_string (P := Tryd.prog) W 9 51 21 s Tryd.underlying9 Tryd.underlying51 Tryd.underlying21 (by rw [hsz]; omega)
  rw [hsz, conv_runes] at hcv
  have hrr : runesFrom s s.size 0 = runes s := rfl
  rw [hrr] at hcv
  generalize hrs : runes s = rs at *
  clear hsz hrr hrs
  have hrl2 : rs.length ≤ 1000000 := by omega
  go_enter Tryd.func16, Tryd.ntmps16
  go_wp2
  clear hcv
  generalize hcp : grownCap w rs.length 0 21 = cp
  go_loopw [5, 6, 8] (fun vo vn vi wr => ∃ (k : Nat) (acc : Acc) (on : List Int), k ≤ rs.length ∧ vi = .int .i64 k ∧ Hid (txRead rs = accJoin acc (rdA (rs.drop k) 0 0 0 on)) ∧ wr.ownsRow (w.heap.size + 1) 44 2 vo acc.length (accCells acc) ∧ acc.length ≤ k ∧ AccOk wr acc ∧ RdI wr vn on ∧ Typ wr vn 3 ∧ on.length ≤ k ∧ Below w.heap.size w wr ∧ w.heap.size < wr.heap.size ∧ Hid (∀ i r, rs[i]? = some r → wr.cell? ⟨w.heap.size, i, none⟩ = some (.int .i32 r))) (fun _ _ vi _ => rs.length - (intOf vi).toNat)
  case atStart =>
    refine ⟨0, [], [], Nat.zero_le _, rfl, hid (by simp [txRead, accJoin]), own_nil _ _ _ _, Nat.le_refl _, fun q hq => by simp at hq, RdI.nil _, Typ.nil _ _ _ _, Nat.le_refl _, ((Below.refl _ w).alloc (Nat.le_refl _) _).drew, by simp, hid fun i r hi => ?_⟩
    have hlt := (List.getElem?_eq_some_iff.1 hi).1
    refine (blk_cell (alloc_heap_new w _) i).trans ?_
    rw [Array.getElem?_append_left (by simpa using hlt)]
    simp [hi]
  case round =>
    obtain ⟨k, acc, on, hk, rfl, hacc, hown, hal, hok, hon, hty, honl, hbw, hbs, hrun⟩ := hrel
    have hbs1 : w.heap.size + 1 ≤ wr.heap.size := hbs
    obtain ⟨A6, c6, rfl⟩ : ∃ A6 c6, u6 = .slice A6 on.length c6 := by obtain ⟨_, A6, c6, h, _⟩ := hon; exact ⟨A6, c6, h⟩
    have HOK := hid hok
    have HON := hid hon
    have HTY := hid hty
    clear hok hon hty hcp
    by_cases hlt : k < rs.length
    · have hcell := hrun.out k _ (List.getElem?_eq_getElem hlt)
      have HA := hid (hacc.out.trans (congrArg (fun l => accJoin acc (rdA l 0 0 0 on)) (drop_step hlt)))
      generalize hr : rs[k] = r at *
      clear hacc hr
      by_cases h27 : r = 27
      · have h27b : (r != 27) = false := by simpa using h27
        have HE := hid (show txRead rs = accJoin acc (rdA (rs.drop (k + 1)) 1 0 0 on) by rw [HA.out, h27]; simp [rdA])
        clear HA h27
        by_cases hlt1 : k + 1 < rs.length
        · have hcell1 := hrun.out (k + 1) _ (List.getElem?_eq_getElem hlt1)
          have HB := hid (HE.out.trans (congrArg (fun l => accJoin acc (rdA l 1 0 0 on)) (drop_step hlt1)))
          generalize hr1 : rs[k + 1] = r1 at *
          clear HE hr1
          by_cases h91 : r1 = 91
          · have h91b : (r1 != 91) = false := by simpa using h91
            have HC := hid (show txRead rs = accJoin acc (rdA (rs.drop (k + 2)) 2 0 0 on) by rw [HB.out, h91]; simp [rdA])
            clear HB h91
            have hg1 : ((rs.length : Int) ≤ (k : Int) + 1) = False := by simp; omega
            go_wp2
            clear hcell hcell1
            obtain ⟨wo, rfl⟩ : ∃ wo : World, wo = wr := ⟨_, rfl⟩
            go_loopw [6, 8, 9, 10, 11] (fun vn vi vN vD vE wi => ∃ (j n d : Nat) (on : List Int) (e : Bool), j ≤ rs.length ∧ k < j ∧ vi = .int .i64 j ∧ vN = .int .i64 n ∧ vD = .int .i64 d ∧ vE = .bool e ∧ Hid (txRead rs = accJoin acc (if e then rdA (rs.drop j) 0 0 0 on else rdA (rs.drop j) 2 n d on)) ∧ wi.ownsRow (w.heap.size + 1) 44 2 u5 acc.length (accCells acc) ∧ AccOk wi acc ∧ RdI wi vn on ∧ Typ wi vn 3 ∧ on.length ≤ j ∧ Hid (n < 10 ^ d) ∧ n ≤ 1000 ∧ d ≤ 3 ∧ Below w.heap.size w wi ∧ w.heap.size < wi.heap.size ∧ Hid (∀ i r, rs[i]? = some r → wi.cell? ⟨w.heap.size, i, none⟩ = some (.int .i32 r))) (fun _ vi _ _ vE _ => rs.length + 1 - (intOf vi).toNat)
            case atStart => exact ⟨k + 2, 0, 0, on, false, by omega, by omega, by go_num, rfl, rfl, rfl, hid (by rw [HC.out]; simp), hown, HOK.out, HON.out, HTY.out, by omega, hid (by simp), by omega, by omega, hbw, hbs, hrun⟩
            case round =>
              clear hown HOK HON HTY hbw hbs hrun hbs1 HC honl
              obtain ⟨j, n, d, on', e, hj, hkj, rfl, rfl, rfl, rfl, HC, hown, hok, hon, hty, honl, hnd, hn1, hd3, hbw, hbs, hrun⟩ := hrel
              have hbs1 : w.heap.size + 1 ≤ wr.heap.size := hbs
              obtain ⟨A6, c6, rfl⟩ : ∃ A6 c6, u6 = .slice A6 on'.length c6 := by obtain ⟨_, A6, c6, h, _⟩ := hon; exact ⟨A6, c6, h⟩
              have HOK := hid hok
              have HON := hid hon
              have HTY := hid hty
              clear hok hon hty
              cases e
              · by_cases hjt : j < rs.length
                · have hcell := hrun.out j _ (List.getElem?_eq_getElem hjt)
                  have HE := hid (HC.out.trans (congrArg (fun l => accJoin acc (if false = true then rdA (rs.drop j) 0 0 0 on' else rdA l 2 n d on')) (drop_step hjt)))
                  generalize hr1 : rs[j] = c at *
                  clear HC hr1
                  simp only [Hid, Bool.false_eq_true, if_false] at HE
                  replace HE := hid HE
                  by_cases hdig : 48 ≤ c ∧ c ≤ 57 ∧ d < 3
                  · obtain ⟨hc1, hc2, hc3⟩ := hdig
                    have hp := pow3 hnd.out hc3 hc1 hc2
                    have HF := hid (show txRead rs = accJoin acc (rdA (rs.drop (j + 1)) 2 (10 * n + (c - 48).toNat : Nat) (d + 1) on') by
                      rw [HE.out, rdA, if_neg (by decide), if_neg (by decide), if_pos ⟨hc1, hc2, hc3⟩]
                      congr 2
                      omega)
                    have hp1 := hid hp.1
                    have hp2 := hp.2
                    have hd3' : (d : Int) < 3 := by omega
                    clear hp HE
                    go_wp2
                    go_roundw
                    case rel => exact ⟨j + 1, 10 * n + (c - 48).toNat, d + 1, on', false, by omega, by omega, by go_num, by go_num, by go_num, rfl, hid (by rw [HF.out]; simp), hown, HOK.out, HON.out, HTY.out, by omega, hp1, hp2, by omega, hbw, hbs, hrun⟩
                    case measure => simp [intOf]; omega
                  · by_cases hend : (c = 59 ∨ c = 109) ∧ 0 < d
                    · obtain ⟨hc, hd0⟩ := hend
                      have hd0' : (0 : Int) < (d : Int) := by omega
                      have hc57 : 57 < c := by omega
                      have KW := hid (txWith_calls (.slice A6 on'.length c6) on' n wr HON.out (by omega))
                      have HL := hid (with1_len on' n)
                      by_cases h109 : c = 109
                      · have hb109 : (c == 109) = true := by simpa using h109
                        have hb59 : (c == 59) = false := by rw [beq_eq_false_iff_ne]; omega
                        have HF := hid (show txRead rs = accJoin acc (rdA (rs.drop (j + 1)) 0 0 0 (with1 on' n)) by
                          rw [HE.out, rdA, if_neg (by decide), if_neg (by decide), if_neg hdig, if_pos ⟨hc, hd0⟩, if_pos h109])
                        clear HE hdig hc h109
                        go_wp2_with (go_at_call 25; (with_reducible refine KW.out.mono ?_); rintro e w2 ⟨v2, rfl, hon2, hb2, hty2⟩; have hcell2 := cell_keep hb2 hcell)
                        go_quiet (fail)
                        go_wp2
                        have hb3 := bdrewH hb2 nq
                        have hb4 := bdrewH (Below.refl w2.heap.size w2) nq
                        go_roundw
                        case rel => exact ⟨j + 1, 0, 0, with1 on' n, true, by omega, by omega, by go_num, rfl, rfl, rfl, hid (by rw [HF.out]; simp), own_below hown hb3, HOK.out.below hb3, hon2.below hb4, (typ_or hty2 HTY.out hb2).below hb4, by have := HL.out; omega, hid (by simp), by omega, by omega, hbw.trans (hb3.mono (by omega)), Nat.lt_of_lt_of_le hbs hb3.size, hid fun i r hi => cell_keep hb3 (hrun.out i r hi)⟩
                        case measure => simp [intOf]; omega
                      · have hb59 : (c == 59) = true := by rw [beq_iff_eq]; omega
                        have hb109 : (c == 109) = false := by rw [beq_eq_false_iff_ne]; omega
                        have HF := hid (show txRead rs = accJoin acc (rdA (rs.drop (j + 1)) 2 0 0 (with1 on' n)) by
                          rw [HE.out, rdA, if_neg (by decide), if_neg (by decide), if_neg hdig, if_pos ⟨hc, hd0⟩, if_neg h109])
                        clear HE hdig hc h109
                        go_wp2_with (go_at_call 25; (with_reducible refine KW.out.mono ?_); rintro e w2 ⟨v2, rfl, hon2, hb2, hty2⟩; have hcell2 := cell_keep hb2 hcell)
                        go_quiet (fail)
                        go_wp2
                        have hb3 := bdrewH hb2 nq
                        have hb4 := bdrewH (Below.refl w2.heap.size w2) nq
                        go_roundw
                        case rel => exact ⟨j + 1, 0, 0, with1 on' n, false, by omega, by omega, by go_num, rfl, rfl, rfl, hid (by rw [HF.out]; simp), own_below hown hb3, HOK.out.below hb3, hon2.below hb4, (typ_or hty2 HTY.out hb2).below hb4, by have := HL.out; omega, hid (by simp), by omega, by omega, hbw.trans (hb3.mono (by omega)), Nat.lt_of_lt_of_le hbs hb3.size, hid fun i r hi => cell_keep hb3 (hrun.out i r hi)⟩
                        case measure => simp [intOf]; omega
                    · have HF := hid (show txRead rs = none by
                        rw [HE.out, rdA, if_neg (by decide), if_neg (by decide), if_neg hdig, if_neg hend]; rfl)
                      clear HE
                      by_cases h0 : d = 0
                      · subst h0
                        rcases (show c < 48 ∨ 57 < c by omega) with hcc | hcc
                        all_goals
                          clear hend hdig
                          go_wp2
                          all_goals (go_ret3; exact readPost_none HF.out hbw)
                      · have hc59 : (c == 59) = false := by rw [beq_eq_false_iff_ne]; omega
                        have hc109 : (c == 109) = false := by rw [beq_eq_false_iff_ne]; omega
                        go_wp2
                        all_goals (go_ret3; exact readPost_none HF.out hbw)
                · have HD := hid (show txRead rs = none by rw [HC.out, List.drop_of_length_le (by omega)]; simp [rdA, accJoin])
                  clear HC
                  go_wp2
                  go_ret3
                  exact readPost_none HD.out hbw
              · by_cases hjt : j < rs.length
                all_goals
                  go_wp2
                  go_roundw
                  case rel => exact ⟨j, acc, on', hj, by go_num, hid (by rw [HC.out]; simp), hown, by omega, HOK.out, HON.out, HTY.out, honl, hbw, hbs, hrun⟩
                  case measure => simp [intOf]; omega
          · have h91b : (r1 != 91) = true := by simpa using h91
            have HC := hid (show txRead rs = none by rw [HB.out]; simp [rdA, h91, accJoin])
            go_wp2
            go_ret3
            exact readPost_none HC.out hbw
        · have HC := hid (show txRead rs = none by rw [HE.out, List.drop_of_length_le (by omega)]; simp [rdA, accJoin])
          go_wp2
          go_ret3
          exact readPost_none HC.out hbw
      · have h27b : (r != 27) = true := by simpa using h27
        have HB := hid (show txRead rs = accJoin (acc ++ [(r, .slice A6 on.length c6, on)]) (rdA (rs.drop (k + 1)) 0 0 0 on) by rw [HA.out, accJoin_snoc]; simp [rdA, h27])
        clear HA
        go_wp2_with (at_builtin; refine append_box rfl _ _ 24 44 (.agg #[.int .i32 0, .slice none 0 0]) 2 32 rfl Tryd.underlying24 infoCell rfl (by decide) (w.heap.size + 1) u5 acc.length (accCells acc) rfl hown 1 44 [.int .i32 r, .slice A6 on.length c6] rfl rfl (by simp; exact ⟨rfl, rfl⟩) (by omega) (by decide) hbs1 ?_; intro v2 w2 hown2 hg2)
        go_roundw
        case rel =>
          refine ⟨k + 1, acc ++ [(r, .slice A6 on.length c6, on)], on, by omega, by go_num, HB, ?_, by simp; omega, ?_, HON.out.grown HTY.out hown (by decide) hg2, HTY.out.grown hown (by decide) hg2, by omega, below_grown hbw (by omega) (by omega) hown hg2, Nat.lt_of_lt_of_le hbs hg2.size, hid fun i r hi => cell_grown (hrun.out i r hi) hown (by simp) hg2⟩
          · rw [accCells_snoc, List.length_append]; exact hown2
          · exact (HOK.out.grown hown (by decide) hg2).snoc (HON.out.grown HTY.out hown (by decide) hg2) (HTY.out.grown hown (by decide) hg2)
        case measure => simp [intOf]; omega
    · have HC := hid (show txRead rs = some (acc.map (fun q => (q.1, q.2.2)), on) by rw [hacc.out, List.drop_of_length_le (by omega)]; simp [rdA, accJoin])
      clear hacc
      go_wp2
      go_ret3
      exact readPost_some HC.out hbw (RdCells.of_own hown (by omega) HOK.out) HON.out
end Go.Proofs.YtfiokjdikhfcaaaDoor
