import Derived.Test.YthjpchabeemfmaaGreatDoorEv
import Derived.Test.YthjpchabeemfmaaGreatDoorGk
import Derived.Test.YthjpchabeemfmaaGreatDoorPx2
import Derived.Test.YthjpchabeemfmaaGreatDoorPx3
namespace Go.Proofs.YthjpchabeemfmaaGreatDoor.P
open Go.RowKit Go.Proofs.YthjpchabeemfmaaGreatDoorW.PrintWords Go.Proofs.YthjpchabeemfmaaGreatDoorW.PrintLast Go.Proofs.YthjpchabeemfmaaGreatDoorW.PrintMore
set_option linter.unusedVariables false
set_option linter.unusedSimpArgs false
set_option maxRecDepth 100000

abbrev Stp' := S39
abbrev Itm := S42
theorem rd_st {xs : List Stp'} {n : Nat} {x : Stp'} (h : xs[n]? = some x) : rd_T39 xs (n : Int) = x := by
  unfold rd_T39
  simp [h]
theorem rd_it {xs : List Itm} {n : Nat} {x : Itm} (h : xs[n]? = some x) : rd_T42 xs (n : Int) = x := by
  unfold rd_T42
  simp [h]

/-! sizes -/
theorem fits13_loop (l : List ByteArray) (hl : l.length ≤ 2147483647) : ∀ (d n : Nat), n + d = l.length → ∃ b, Ev (fun k => laws_zzFits13.l0 k l (l.length : Int) (n : Int)) b
  | 0, n, h => ⟨true, Ev.step (fun k => laws_zzFits13.l0.eq_2 _ _ _ k) (ev_neg (by omega) (Ev.now _))⟩
  | d + 1, n, h => by
    obtain ⟨b, hb⟩ := fits13_loop l hl d (n + 1) (by omega)
    by_cases hs : ((rdOf ByteArray.empty l (n : Int)).size : Int) > 2147483647
    · exact ⟨false, Ev.step (fun k => laws_zzFits13.l0.eq_2 _ _ _ k) (ev_pos (by omega) (ev_pos (by omega) (ev_pos (by omega) (ev_pos hs (Ev.now _)))))⟩
    · exact ⟨b, Ev.step (fun k => laws_zzFits13.l0.eq_2 _ _ _ k) (ev_pos (by omega) (ev_pos (by omega) (ev_pos (by omega) (ev_neg hs (by rw [w1 n (by omega)]; exact hb)))))⟩
theorem fits13 (l : List ByteArray) : ∃ b, Ev (fun k => laws_zzFits13.f k l) b ∧ (b = true → l.length ≤ 2147483647) := by
  by_cases hl : (l.length : Int) > 2147483647
  · exact ⟨false, ev_pos hl (Ev.now _), fun h => by cases h⟩
  · obtain ⟨b, hb⟩ := fits13_loop l (by omega) l.length 0 (by omega)
    exact ⟨b, ev_neg hl hb, fun _ => by omega⟩
theorem fits12 (a : Int) (t : ByteArray) (l : List ByteArray) : ∃ b, Ev (fun k => laws_zzFits12.f k a t l) b ∧ (b = true → t.size ≤ 2147483647 ∧ l.length ≤ 2147483647) := by
  by_cases hl : (t.size : Int) > 2147483647
  · exact ⟨false, ev_pos hl (Ev.now _), fun h => by cases h⟩
  · obtain ⟨b, hb, h2⟩ := fits13 l
    cases b with
    | true => exact ⟨true, ev_neg hl (ev_bind hb (ev_pos rfl (Ev.now _))), fun _ => ⟨by omega, h2 rfl⟩⟩
    | false => exact ⟨false, ev_neg hl (ev_bind hb (ev_neg (by simp) (Ev.now _))), fun h => by cases h⟩
theorem fits11_loop (l : List Stp') (hl : l.length ≤ 2147483647) : ∀ (d n : Nat), n + d = l.length → ∃ b, Ev (fun k => laws_zzFits11.l0 k l (l.length : Int) (n : Int)) b ∧ (b = true → ∀ x ∈ l.drop n, x.f1.size ≤ 2147483647 ∧ x.f2.length ≤ 2147483647)
  | 0, n, h => ⟨true, Ev.step (fun k => laws_zzFits11.l0.eq_2 _ _ _ k) (ev_neg (by omega) (Ev.now _)), fun _ x hx => by rw [List.drop_eq_nil_of_le (by omega)] at hx; cases hx⟩
  | d + 1, n, h => by
    obtain ⟨b, hb, hb2⟩ := fits11_loop l hl d (n + 1) (by omega)
    obtain ⟨x, hx⟩ : ∃ x, l[n]? = some x := ⟨_, List.getElem?_eq_getElem (by omega)⟩
    have hd : l.drop n = x :: l.drop (n + 1) := by rw [List.drop_eq_getElem_cons (by omega), (List.getElem?_eq_some_iff.1 hx).2]
    obtain ⟨c, hc, hc2⟩ := fits12 x.f0 x.f1 x.f2
    cases c with
    | true =>
      refine ⟨b, Ev.step (fun k => laws_zzFits11.l0.eq_2 _ _ _ k) (ev_pos (by omega) (ev_pos (by omega) (ev_pos (by omega) ?_))), fun h => ?_⟩
      · rw [rd_st hx, w1 n (by omega)]
        exact ev_bind hc (ev_pos rfl hb)
      · intro y hy
        rw [hd] at hy
        rcases List.mem_cons.1 hy with rfl | hy
        · exact hc2 rfl
        · exact hb2 h y hy
    | false =>
      refine ⟨false, Ev.step (fun k => laws_zzFits11.l0.eq_2 _ _ _ k) (ev_pos (by omega) (ev_pos (by omega) (ev_pos (by omega) ?_))), fun h => by cases h⟩
      rw [rd_st hx]
      exact ev_bind hc (ev_neg (by simp) (Ev.now _))
theorem fits11 (l : List Stp') : ∃ b, Ev (fun k => laws_zzFits11.f k l) b ∧ (b = true → l.length ≤ 2147483647 ∧ ∀ x ∈ l, x.f1.size ≤ 2147483647 ∧ x.f2.length ≤ 2147483647) := by
  by_cases hl : (l.length : Int) > 2147483647
  · exact ⟨false, ev_pos hl (Ev.now _), fun h => by cases h⟩
  · obtain ⟨b, hb, h2⟩ := fits11_loop l (by omega) l.length 0 (by omega)
    exact ⟨b, ev_neg hl hb, fun h => ⟨by omega, by simpa using h2 h⟩⟩

/-! LtRight -/
def RightX (x : Stp') : Prop := x.f1.size ≤ 200 ∧ txSimple x.f1 true = true ∧ x.f2.length ≤ 10 ∧ ∀ t ∈ x.f2, t.size ≤ 200 ∧ txSimple t true = true
theorem simple_f (s : ByteArray) (h : s.size ≤ 1000000000) (b : Bool) : spec_TxSimple.f s b = some (txSimple s b) := by unfold spec_TxSimple.f; rw [if_pos h]
theorem right_in (l : List Stp') (n : Nat) (ts : List ByteArray) (ht : ts.length ≤ 10) (hn : n < 2147483647) (b : Bool) (hb : Ev (fun k => spec_LtRight.l0 k l l (l.length : Int) ((n + 1 : Nat) : Int)) b) :
    ∀ (d m : Nat), m + d = ts.length → ∃ c, Ev (fun k => spec_LtRight.l1 k l l (l.length : Int) (n : Int) ts (ts.length : Int) (m : Int)) c ∧ (c = true → b = true ∧ ∀ t ∈ ts.drop m, t.size ≤ 200 ∧ txSimple t true = true)
  | 0, m, h => ⟨b, Ev.step (fun k => spec_LtRight.l1.eq_2 _ _ _ _ _ _ _ k) (ev_neg (by omega) (by rw [w1 n (by omega)]; exact hb)), fun hc => ⟨hc, fun t ht => by rw [List.drop_eq_nil_of_le (by omega)] at ht; cases ht⟩⟩
  | d + 1, m, h => by
    obtain ⟨c, hc, hc2⟩ := right_in l n ts ht hn b hb d (m + 1) (by omega)
    obtain ⟨x, hx⟩ : ∃ x, ts[m]? = some x := ⟨_, List.getElem?_eq_getElem (by omega)⟩
    have hd : ts.drop m = x :: ts.drop (m + 1) := by rw [List.drop_eq_getElem_cons (by omega), (List.getElem?_eq_some_iff.1 hx).2]
    by_cases hs : (x.size : Int) > 200
    · refine ⟨false, Ev.step (fun k => spec_LtRight.l1.eq_2 _ _ _ _ _ _ _ k) (ev_pos (by omega) (ev_pos (by omega) (ev_pos (by omega) ?_))), fun h => by cases h⟩
      rw [rdOf_at hx]
      exact ev_pos hs (Ev.now _)
    · cases hk : txSimple x true with
      | true =>
        refine ⟨c, Ev.step (fun k => spec_LtRight.l1.eq_2 _ _ _ _ _ _ _ k) (ev_pos (by omega) (ev_pos (by omega) (ev_pos (by omega) ?_))), fun h => ?_⟩
        · rw [rdOf_at hx, w1 m (by omega)]
          exact ev_neg hs (ev_some ((simple_f x (by omega) true).trans (congrArg some hk)) (ev_pos rfl hc))
        · obtain ⟨q1, q2⟩ := hc2 h
          refine ⟨q1, fun t ht => ?_⟩
          rw [hd] at ht
          rcases List.mem_cons.1 ht with rfl | ht
          · exact ⟨by omega, hk⟩
          · exact q2 t ht
      | false =>
        refine ⟨false, Ev.step (fun k => spec_LtRight.l1.eq_2 _ _ _ _ _ _ _ k) (ev_pos (by omega) (ev_pos (by omega) (ev_pos (by omega) ?_))), fun h => by cases h⟩
        rw [rdOf_at hx]
        exact ev_neg hs (ev_some ((simple_f x (by omega) true).trans (congrArg some hk)) (ev_neg (by simp) (Ev.now _)))
theorem right_loop (l : List Stp') (hl : l.length ≤ 2147483647) : ∀ (d n : Nat), n + d = l.length → ∃ b, Ev (fun k => spec_LtRight.l0 k l l (l.length : Int) (n : Int)) b ∧ (b = true → l.length ≤ 80 ∧ ∀ x ∈ l.drop n, RightX x)
  | 0, n, h => by
    refine ⟨decide ((l.length : Int) ≤ 80), Ev.step (fun k => spec_LtRight.l0.eq_2 _ _ _ _ k) (ev_neg (by omega) (Ev.now _)), fun h => ⟨?_, fun x hx => by rw [List.drop_eq_nil_of_le (by omega)] at hx; cases hx⟩⟩
    have := of_decide_eq_true h
    omega
  | d + 1, n, h => by
    obtain ⟨b, hb, hb2⟩ := right_loop l hl d (n + 1) (by omega)
    obtain ⟨x, hx⟩ : ∃ x, l[n]? = some x := ⟨_, List.getElem?_eq_getElem (by omega)⟩
    have hd : l.drop n = x :: l.drop (n + 1) := by rw [List.drop_eq_getElem_cons (by omega), (List.getElem?_eq_some_iff.1 hx).2]
    have hj : Ev (fun k => spec_LtRight.j1 k l l (l.length : Int) (n : Int) true x.f0 x.f1 x.f2) false := Ev.step (fun k => spec_LtRight.j1.eq_2 _ _ _ _ _ _ _ _ k) (ev_pos rfl (Ev.now _))
    by_cases hs : (x.f1.size : Int) > 200
    · refine ⟨false, Ev.step (fun k => spec_LtRight.l0.eq_2 _ _ _ _ k) (ev_pos (by omega) (ev_pos (by omega) (ev_pos (by omega) ?_))), fun h => by cases h⟩
      rw [rd_st hx]
      exact ev_pos hs hj
    · cases hk : txSimple x.f1 true with
      | false =>
        refine ⟨false, Ev.step (fun k => spec_LtRight.l0.eq_2 _ _ _ _ k) (ev_pos (by omega) (ev_pos (by omega) (ev_pos (by omega) ?_))), fun h => by cases h⟩
        rw [rd_st hx]
        exact ev_neg hs (ev_some ((simple_f x.f1 (by omega) true).trans (congrArg some hk)) (ev_neg (by simp) hj))
      | true =>
        by_cases ht : (x.f2.length : Int) > 10
        · refine ⟨false, Ev.step (fun k => spec_LtRight.l0.eq_2 _ _ _ _ k) (ev_pos (by omega) (ev_pos (by omega) (ev_pos (by omega) ?_))), fun h => by cases h⟩
          rw [rd_st hx, decide_eq_true ht]
          exact ev_neg hs (ev_some ((simple_f x.f1 (by omega) true).trans (congrArg some hk)) (ev_pos rfl hj))
        · obtain ⟨c, hc, hc2⟩ := right_in l n x.f2 (by omega) (by omega) b hb x.f2.length 0 (by omega)
          refine ⟨c, Ev.step (fun k => spec_LtRight.l0.eq_2 _ _ _ _ k) (ev_pos (by omega) (ev_pos (by omega) (ev_pos (by omega) ?_))), fun h => ?_⟩
          · rw [rd_st hx, decide_eq_false ht]
            exact ev_neg hs (ev_some ((simple_f x.f1 (by omega) true).trans (congrArg some hk)) (ev_pos rfl (Ev.step (fun k => spec_LtRight.j1.eq_2 _ _ _ _ _ _ _ _ k) (ev_neg (by simp) hc))))
          · obtain ⟨q1, q2⟩ := hc2 h
            obtain ⟨q3, q4⟩ := hb2 q1
            refine ⟨q3, fun y hy => ?_⟩
            rw [hd] at hy
            rcases List.mem_cons.1 hy with rfl | hy
            · exact ⟨by omega, hk, by omega, by simpa using q2⟩
            · exact q4 y hy
theorem right_f (l : List Stp') (hl : l.length ≤ 2147483647) : ∃ b, Ev (fun k => spec_LtRight.f k l) b ∧ (b = true → l.length ≤ 80 ∧ ∀ x ∈ l, RightX x) := by
  obtain ⟨b, hb, h2⟩ := right_loop l hl l.length 0 (by omega)
  exact ⟨b, hb, by simpa using h2⟩

theorem kn_of {s : ByteArray} (h : txSimple s true = true) : Kn (L s) := Kn.of_simple h
theorem shOk_of {x : Stp'} (h : RightX x) : ShOk x := by
  obtain ⟨h1, h2, h3, h4⟩ := h
  exact ⟨by rw [L_len]; exact h1, (kn_of h2).clean, h3, fun t ht => ⟨by rw [L_len]; exact (h4 t ht).1, (kn_of (h4 t ht).2).clean⟩⟩
end Go.Proofs.YthjpchabeemfmaaGreatDoor.P

namespace Go.Proofs.YthjpchabeemfmaaGreatDoor.P
open Go.RowKit Go.Proofs.YthjpchabeemfmaaGreatDoorW.PrintWords Go.Proofs.YthjpchabeemfmaaGreatDoorW.PrintLast Go.Proofs.YthjpchabeemfmaaGreatDoorW.PrintMore
set_option linter.unusedVariables false
set_option linter.unusedSimpArgs false
set_option maxRecDepth 100000

/-! LtPlayed -/
def toI (it : It) : Itm := ⟨S it.2, (it.1 : Int)⟩
def weight (xs : List Stp') : Nat := (xs.map fun x => 1 + x.f2.length).sum
theorem play_len (xs : List Stp') : ∀ n, n ≤ xs.length → (playK (xs.map st0) n).1.length + weight (xs.drop n) ≤ weight xs ∧ (playK (xs.map st0) n).2 ≤ n
  | 0, _ => by simp [playK]
  | n + 1, h => by
    obtain ⟨h1, h2⟩ := play_len xs n (by omega)
    obtain ⟨x, hx⟩ : ∃ x, xs[n]? = some x := ⟨_, List.getElem?_eq_getElem (by omega)⟩
    have hd : xs.drop n = x :: xs.drop (n + 1) := by rw [List.drop_eq_getElem_cons (by omega), (List.getElem?_eq_some_iff.1 hx).2]
    have hp : (xs.map st0)[n]? = some (st0 x) := by rw [List.getElem?_map, hx]; rfl
    rw [playK_succ _ n _ hp]
    have hw : weight (xs.drop n) = 1 + x.f2.length + weight (xs.drop (n + 1)) := by rw [hd]; simp [weight]
    have hi := indent_le (playK (xs.map st0) n).1 (playK (xs.map st0) n).2
    unfold stepP
    repeat' split
    all_goals simp only [List.length_append, List.length_map, List.length_cons, List.length_nil, st0, stOf] at *
    all_goals omega
theorem played_in (xs : List Stp') (n : Nat) (hn : n < 2147483647) (lev : Int) (out : List Itm) (ts : List ByteArray) (ht : out.length + ts.length < 5864062014805) (R : List Itm)
    (hb : Ev (fun k => spec_LtPlayed.l0 k (out ++ ts.map fun t => (⟨t, lev⟩ : Itm)) lev xs (xs.length : Int) ((n + 1 : Nat) : Int)) R) :
    ∀ (d m : Nat), m + d = ts.length → Ev (fun k => spec_LtPlayed.l1 k (out ++ (ts.take m).map fun t => (⟨t, lev⟩ : Itm)) lev xs (xs.length : Int) (n : Int) ts (ts.length : Int) (m : Int)) R
  | 0, m, h => by
    refine Ev.step (fun k => spec_LtPlayed.l1.eq_2 _ _ _ _ _ _ _ _ k) (ev_neg (by omega) ?_)
    rw [w1 n (by omega), List.take_of_length_le (by omega)]
    exact hb
  | d + 1, m, h => by
    have ih := played_in xs n hn lev out ts ht R hb d (m + 1) (by omega)
    obtain ⟨x, hx⟩ : ∃ x, ts[m]? = some x := ⟨_, List.getElem?_eq_getElem (by omega)⟩
    refine Ev.step (fun k => spec_LtPlayed.l1.eq_2 _ _ _ _ _ _ _ _ k) (ev_pos (by omega) (ev_pos (by omega) (ev_pos (by omega) (ev_pos ?_ ?_))))
    · simp only [List.length_append, List.length_map, List.length_take]
      omega
    · rw [rdOf_at hx, w1 m (by omega)]
      rw [List.take_add_one, hx] at ih
      simpa using ih
theorem mx_sub (n : Nat) (h : n ≤ 2147483647) : mx (wrap64 ((n : Int) - 1)) 0 = ((n - 1 : Nat) : Int) := by
  unfold mx wrap64
  split <;> omega
theorem played_loop (xs : List Stp') (hl : xs.length ≤ 2147483647) (hw : weight xs < 5864062014805) : ∀ (d n : Nat), n + d = xs.length → Ev (fun k => spec_LtPlayed.l0 k ((playK (xs.map st0) n).1.map toI) ((playK (xs.map st0) n).2 : Int) xs (xs.length : Int) (n : Int)) ((itemsOf xs).map toI)
  | 0, n, h => by
    obtain rfl : n = xs.length := by omega
    exact Ev.step (fun k => spec_LtPlayed.l0.eq_2 _ _ _ _ _ k) (ev_neg (by omega) (Ev.now _))
  | d + 1, n, h => by
    have ih := played_loop xs hl hw d (n + 1) (by omega)
    obtain ⟨hb1, hb2⟩ := play_len xs n (by omega)
    obtain ⟨x, hx⟩ : ∃ x, xs[n]? = some x := ⟨_, List.getElem?_eq_getElem (by omega)⟩
    have hd : xs.drop n = x :: xs.drop (n + 1) := by rw [List.drop_eq_getElem_cons (by omega), (List.getElem?_eq_some_iff.1 hx).2]
    have hp : (xs.map st0)[n]? = some (st0 x) := by rw [List.getElem?_map, hx]; rfl
    have hww : weight (xs.drop n) = 1 + x.f2.length + weight (xs.drop (n + 1)) := by rw [hd]; simp [weight]
    rw [playK_succ _ n _ hp] at ih
    generalize playK (xs.map st0) n = q at *
    obtain ⟨its, lev⟩ := q
    simp only at *
    have htx : ∀ t : ByteArray, toI (lev, L t) = (⟨t, (lev : Int)⟩ : Itm) := fun t => by unfold toI; rw [show S (L t) = t from S_L t]
    refine Ev.step (fun k => spec_LtPlayed.l0.eq_2 _ _ _ _ _ k) (ev_pos (by omega) (ev_pos (by omega) (ev_pos (by omega) ?_)))
    rw [rd_st hx]
    rw [w1 n (by omega)]
    by_cases k0 : x.f0 = 0
    · have e : stepP (its, lev) (st0 x) = (its ++ [(lev, L x.f1)], lev) := by unfold stepP; rw [if_pos (show (st0 x).kind = 0 from k0)]; all_goals rfl
      rw [e] at ih
      refine ev_pos k0 (ev_pos (by simp only [List.length_map]; omega) ?_)
      simpa only [List.map_append, List.map_cons, List.map_nil, htx] using ih
    refine ev_neg k0 ?_
    by_cases k1 : x.f0 = 1
    · have e : stepP (its, lev) (st0 x) = (its ++ (x.f2.map L).map (lev, ·), lev) := by unfold stepP; rw [if_neg (show ¬ (st0 x).kind = 0 from k0), if_pos (show (st0 x).kind = 1 from k1)]; all_goals rfl
      rw [e] at ih
      refine ev_pos k1 ?_
      have e2 : ((x.f2.map L).map (lev, ·)).map toI = x.f2.map fun t => (⟨t, (lev : Int)⟩ : Itm) := by
        rw [List.map_map, List.map_map]
        apply List.map_congr_left
        intro t _
        exact htx t
      rw [List.map_append, e2] at ih
      have := played_in xs n (by omega) lev (its.map toI) x.f2 (by simp only [List.length_map]; omega) ((itemsOf xs).map toI) ih x.f2.length 0 (by omega)
      simpa using this
    refine ev_neg k1 ?_
    by_cases k2 : x.f0 = 2
    · have e : stepP (its, lev) (st0 x) = (its, indent its lev) := by unfold stepP; rw [if_neg (show ¬ (st0 x).kind = 0 from k0), if_neg (show ¬ (st0 x).kind = 1 from k1), if_pos (show (st0 x).kind = 2 from k2)]; all_goals rfl
      rw [e] at ih
      refine ev_pos k2 ?_
      rcases Nat.eq_zero_or_pos its.length with h0 | h0
      · obtain rfl : its = [] := List.eq_nil_of_length_eq_zero h0
        refine ev_neg (by simp) ?_
        simpa [indent] using ih
      · obtain ⟨m, hm⟩ : ∃ m, its.length = m + 1 := ⟨its.length - 1, by omega⟩
        obtain ⟨it, hit⟩ : ∃ it, its[m]? = some it := ⟨_, List.getElem?_eq_getElem (by omega)⟩
        have hlast : its.getLast? = some it := by rw [List.getLast?_eq_getElem?, hm]; exact hit
        have hwm : wrap64 (((its.map toI).length : Int) - 1) = (m : Int) := by rw [List.length_map, hm, wi _ (by omega) (by omega)]; omega
        have hrd : rd_T42 (its.map toI) (m : Int) = toI it := rd_it (by rw [List.getElem?_map, hit]; rfl)
        refine ev_pos (by simp only [List.length_map]; omega) ?_
        rw [hwm, hrd]
        refine ev_pos (by omega) (ev_pos (by simp only [List.length_map]; omega) ?_)
        unfold indent at ih
        rw [hlast] at ih
        simp only at ih
        by_cases hlt : it.1 < lev
        · rw [if_pos hlt] at ih
          exact ev_neg (by simp only [toI]; omega) ih
        · rw [if_neg hlt] at ih
          refine ev_pos (by simp only [toI]; omega) ?_
          rw [w1 lev (by omega)]
          exact ih
    refine ev_neg k2 ?_
    by_cases k3 : x.f0 = 3
    · have e : stepP (its, lev) (st0 x) = (its, lev - 1) := by unfold stepP; rw [if_neg (show ¬ (st0 x).kind = 0 from k0), if_neg (show ¬ (st0 x).kind = 1 from k1), if_neg (show ¬ (st0 x).kind = 2 from k2), if_pos (show (st0 x).kind = 3 from k3)]; all_goals rfl
      rw [e] at ih
      refine ev_pos k3 ?_
      rw [mx_sub lev (by omega)]
      exact ih
    refine ev_neg k3 ?_
    by_cases k4 : x.f0 = 4
    · have e : stepP (its, lev) (st0 x) = (its, 0) := by unfold stepP; rw [if_neg (show ¬ (st0 x).kind = 0 from k0), if_neg (show ¬ (st0 x).kind = 1 from k1), if_neg (show ¬ (st0 x).kind = 2 from k2), if_neg (show ¬ (st0 x).kind = 3 from k3), if_pos (show (st0 x).kind = 4 from k4)]; all_goals rfl
      rw [e] at ih
      exact ev_pos k4 ih
    refine ev_neg k4 ?_
    by_cases k5 : x.f0 = 5
    · have e : stepP (its, lev) (st0 x) = ([], 0) := by unfold stepP; rw [if_neg (show ¬ (st0 x).kind = 0 from k0), if_neg (show ¬ (st0 x).kind = 1 from k1), if_neg (show ¬ (st0 x).kind = 2 from k2), if_neg (show ¬ (st0 x).kind = 3 from k3), if_neg (show ¬ (st0 x).kind = 4 from k4), if_pos (show (st0 x).kind = 5 from k5)]; all_goals rfl
      rw [e] at ih
      exact ev_pos k5 ih
    have e : stepP (its, lev) (st0 x) = (its, lev) := by unfold stepP; rw [if_neg (show ¬ (st0 x).kind = 0 from k0), if_neg (show ¬ (st0 x).kind = 1 from k1), if_neg (show ¬ (st0 x).kind = 2 from k2), if_neg (show ¬ (st0 x).kind = 3 from k3), if_neg (show ¬ (st0 x).kind = 4 from k4), if_neg (show ¬ (st0 x).kind = 5 from k5)]
    rw [e] at ih
    exact ev_neg k5 ih
theorem played_f (xs : List Stp') (hl : xs.length ≤ 2147483647) (hw : weight xs < 5864062014805) : Ev (fun k => spec_LtPlayed.f k xs) ((itemsOf xs).map toI) := by
  have := played_loop xs hl hw xs.length 0 (by omega)
  show Ev (fun k => spec_LtPlayed.l0 k ([] : List Itm) 0 xs (xs.length : Int) 0) _
  simpa [playK] using this

theorem weight_bulk (xs : List Stp') : weight xs ≤ (xs.map fun x => x.f1.size + (x.f2.map fun s => s.size + 1).sum + 1).sum := by
  have k : ∀ l : List ByteArray, l.length ≤ (l.map fun s => s.size + 1).sum := by
    intro l
    induction l with
    | nil => simp
    | cons s t ih => simp only [List.length_cons, List.map_cons, List.sum_cons]; omega
  induction xs with
  | nil => simp [weight]
  | cons x t ih =>
    have h := k x.f2
    have : weight (x :: t) = 1 + x.f2.length + weight t := by simp [weight]
    rw [this]
    simp only [List.map_cons, List.sum_cons]
    omega
end Go.Proofs.YthjpchabeemfmaaGreatDoor.P

namespace Go.Proofs.YthjpchabeemfmaaGreatDoor.P
open Go.RowKit Go.Proofs.YthjpchabeemfmaaGreatDoorW.PrintWords Go.Proofs.YthjpchabeemfmaaGreatDoorW.PrintLast Go.Proofs.YthjpchabeemfmaaGreatDoorW.PrintMore
set_option linter.unusedVariables false
set_option linter.unusedSimpArgs false
set_option maxRecDepth 100000
set_option maxHeartbeats 2000000

theorem lit (l : List UInt8) : (⟨l.toArray⟩ : ByteArray) = S l := rfl
theorem items_facts {xs : List Stp'} (hl : xs.length ≤ 80) (h : ∀ x ∈ xs, RightX x) : (itemsOf xs).length ≤ 800 ∧ (∀ it ∈ itemsOf xs, it.1 ≤ 80 ∧ it.2.length ≤ 200 ∧ Kn it.2) ∧ okL (itemsOf xs) := by
  have hp : ∀ p ∈ xs.map st0, p.texts.length ≤ 10 ∧ (p.text.length ≤ 200 ∧ Kn p.text) ∧ ∀ t ∈ p.texts, t.length ≤ 200 ∧ Kn t := by
    intro p hp
    obtain ⟨x, hx, rfl⟩ := List.mem_map.1 hp
    obtain ⟨h1, h2, h3, h4⟩ := h x hx
    refine ⟨by show (x.f2.map L).length ≤ 10; rw [List.length_map]; exact h3, ⟨by show (L x.f1).length ≤ 200; rw [L_len]; exact h1, kn_of h2⟩, fun t ht => ?_⟩
    obtain ⟨u, hu, rfl⟩ := List.mem_map.1 (show t ∈ x.f2.map L from ht)
    exact ⟨by rw [L_len]; exact (h4 u hu).1, kn_of (h4 u hu).2⟩
  obtain ⟨a1, a2, a3⟩ := playK_inv (xs.map st0) (fun t => t.length ≤ 200 ∧ Kn t) hp xs.length (by rw [List.length_map]; exact Nat.le_refl _)
  refine ⟨by unfold itemsOf; omega, fun it hit => ?_, (playK_ok (xs.map st0) xs.length (by rw [List.length_map]; exact Nat.le_refl _)).ok⟩
  have := a3 it hit
  exact ⟨by omega, this.2.1, this.2.2⟩
theorem weight_right {xs : List Stp'} (hl : xs.length ≤ 80) (h : ∀ x ∈ xs, RightX x) : weight xs < 5864062014805 := by
  have : ∀ (l : List Stp'), (∀ x ∈ l, RightX x) → weight l ≤ 11 * l.length := by
    intro l
    induction l with
    | nil => intro _; simp [weight]
    | cons x t ih =>
      intro hx
      have h1 := ih (fun y hy => hx y (by simp [hy]))
      have h2 := (hx x (by simp)).2.2.1
      have : weight (x :: t) = 1 + x.f2.length + weight t := by simp [weight]
      rw [this, List.length_cons]
      omega
  have := this xs h
  omega
theorem listHTML_f {xs : List Stp'} (hl : xs.length ≤ 200) (h : ∀ x ∈ xs, RightX x) (c : ByteArray) (hc : c.size ≤ 60) : impl_ListHTML.f xs c = some (S (htmlOf (clsOf (L c)) (itemsOf xs))) := by
  unfold impl_ListHTML.f
  rw [if_pos ⟨hl, fun x hx => shOk_of (h x hx), by rw [L_len]; exact hc⟩]
end Go.Proofs.YthjpchabeemfmaaGreatDoor.P
