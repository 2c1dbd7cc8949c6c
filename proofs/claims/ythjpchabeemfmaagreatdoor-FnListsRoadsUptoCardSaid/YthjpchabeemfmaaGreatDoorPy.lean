import Derived.Test.YthjpchabeemfmaaGreatDoorPw
import Derived.Test.YthjpchabeemfmaaGreatDoorPx8
import Derived.Test.YthjpchabeemfmaaGreatDoorPx9
namespace Go.Proofs.YthjpchabeemfmaaGreatDoor.P
open Go.RowKit Go.Proofs.YthjpchabeemfmaaGreatDoorW.PrintWords Go.Proofs.YthjpchabeemfmaaGreatDoorW.PrintLast Go.Proofs.YthjpchabeemfmaaGreatDoorW.PrintMore
set_option linter.unusedVariables false
set_option linter.unusedSimpArgs false
set_option maxRecDepth 100000
set_option maxHeartbeats 2000000

/-! FnListsHTMLBack -/
theorem begins_f (a b : List UInt8) (ha : a.length ≤ 1000000) (hb : b.length ≤ 1000) : spec_LsBegins.f (S a) (S b) = some (if a.take b.length = b then (S (a.drop b.length), true) else (S a, false)) := by
  unfold spec_LsBegins.f
  rw [if_pos ⟨by rw [S_sz]; omega, by rw [S_sz]; omega⟩, L_S, L_S]
theorem back_strip (out : List Itm) (lev : Int) (r : List UInt8) (ls : List ByteArray) (len i : Int) (R : List Itm × Bool) (h : Ev (fun k => spec_LtHTMLBack.j2 k out lev (S (60 :: r)) ls len i) R) : ∀ p : List UInt8, (∀ b ∈ p, b = 32) → Ev (fun k => spec_LtHTMLBack.l1 k out lev (S (p ++ 60 :: r)) ls len i) R
  | [], _ => by
    have hbt := bt_get (S (60 :: r)) (n := 0) (b := 60) (by rw [L_S]; rfl)
    refine Ev.step (fun k => spec_LtHTMLBack.l1.eq_2 _ _ _ _ _ _ k) (ev_neg (by rw [toList_L, List.nil_append, L_S]; simp) (ev_pos (by rw [S_sz, List.nil_append, List.length_cons]; omega) (ev_neg ?_ h)))
    rw [List.nil_append, show (0 : Int) = ((0 : Nat) : Int) from rfl, hbt]
    decide
  | b :: p, hp => by
    have hb := hp b (by simp)
    subst hb
    have ih := back_strip out lev r ls len i R h p (fun c hc => hp c (by simp [hc]))
    have hbt := bt_get (S (32 :: (p ++ 60 :: r))) (n := 0) (b := 32) (by rw [L_S]; rfl)
    refine Ev.step (fun k => spec_LtHTMLBack.l1.eq_2 _ _ _ _ _ _ k) (ev_neg (by rw [toList_L, L_S]; simp) (ev_pos (by rw [S_sz, List.cons_append, List.length_cons]; omega) (ev_pos ?_ (ev_pos (by rw [S_sz, List.cons_append, List.length_cons]; omega) ?_))))
    · rw [List.cons_append, show (0 : Int) = ((0 : Nat) : Int) from rfl, hbt]
      decide
    · rw [S_ext, S_sz, List.cons_append, List.drop_one, List.tail_cons, List.take_of_length_le (by simp)]
      exact ih

section
variable (C : List UInt8) (all : List HLn) (R : List Itm × Bool)
theorem back_line {n : Nat} {x : HLn} (out : List Itm) (lev : Int) (hx : all[n]? = some x) (t : List UInt8) (ht : rest C x = 60 :: t) (h : Ev (fun k => spec_LtHTMLBack.j2 k out lev (S (60 :: t)) (lns C all) ((lns C all).length : Int) (n : Int)) R) :
    Ev (fun k => spec_LtHTMLBack.l0 k out lev (lns C all) ((lns C all).length : Int) (n : Int)) R := by
  have hlt := (List.getElem?_eq_some_iff.1 hx).1
  refine Ev.step (fun k => spec_LtHTMLBack.l0.eq_2 _ _ _ _ _ k) (ev_pos (by rw [lns_len]; omega) (ev_pos (by omega) (ev_pos (by rw [lns_len]; omega) ?_)))
  rw [lns_get hx, text_rest, ht]
  exact back_strip out lev t _ _ _ R h (pad2 x.pad) (fun b hb => pad2_mem b hb)
end
section
variable (C : List UInt8) (all : List HLn) (hall : all.length ≤ 1000000) (R : List Itm × Bool)
include hall
theorem back_close {n l : Nat} (out : List Itm) (lev : Int) (hx : all[n]? = some (cLn l)) (h0 : -1000000 ≤ lev) (h1 : lev ≤ 1000000)
    (h : Ev (fun k => spec_LtHTMLBack.l0 k out (lev - 1) (lns C all) ((lns C all).length : Int) ((n + 1 : Nat) : Int)) R) : Ev (fun k => spec_LtHTMLBack.l0 k out lev (lns C all) ((lns C all).length : Int) (n : Int)) R := by
  have hlt := (List.getElem?_eq_some_iff.1 hx).1
  refine back_line C all R out lev hx [47, 117, 108, 62] rfl (Ev.step (fun k => spec_LtHTMLBack.j2.eq_2 _ _ _ _ _ _ k) ?_)
  rw [lit [60, 117, 108, 32]]
  refine ev_some (begins_f _ _ (by decide) (by decide)) ?_
  rw [if_neg (by decide)]
  refine ev_neg (by simp) (ev_pos (by rw [toList_L, L_S]) ?_)
  rw [wi _ (by omega) (by omega), w1 n (by omega)]
  exact h
theorem back_item {n l : Nat} {t : List UInt8} (out : List Itm) (lev : Int) (hx : all[n]? = some (iLn l t)) (ht : t.length ≤ 10000) (ho : out.length ≤ 1000000)
    (h : Ev (fun k => spec_LtHTMLBack.l0 k (out ++ [(⟨S t, lev⟩ : Itm)]) lev (lns C all) ((lns C all).length : Int) ((n + 1 : Nat) : Int)) R) : Ev (fun k => spec_LtHTMLBack.l0 k out lev (lns C all) ((lns C all).length : Int) (n : Int)) R := by
  have hlt := (List.getElem?_eq_some_iff.1 hx).1
  refine back_line C all R out lev hx (108 :: 105 :: 62 :: (t ++ [60, 47, 108, 105, 62])) (by simp [rest, iLn]) (Ev.step (fun k => spec_LtHTMLBack.j2.eq_2 _ _ _ _ _ _ k) ?_)
  have hne : ¬ (60 :: 108 :: 105 :: 62 :: (t ++ [60, 47, 108, 105, 62])) = ([60, 47, 117, 108, 62] : List UInt8) := by simp
  rw [lit [60, 117, 108, 32], lit [60, 108, 105, 62]]
  refine ev_some (begins_f _ _ (by simp only [List.length_cons, List.length_append, List.length_nil]; omega) (by decide)) ?_
  rw [if_neg (by simp)]
  refine ev_neg (by simp) (ev_neg (by rw [toList_L, L_S]; exact hne) ?_)
  refine ev_some (begins_f _ _ (by simp only [List.length_cons, List.length_append, List.length_nil]; omega) (by decide)) ?_
  rw [if_pos (by rfl)]
  have hs : (S ((60 :: 108 :: 105 :: 62 :: (t ++ [60, 47, 108, 105, 62])).drop ([60, 108, 105, 62] : List UInt8).length)).size = t.length + 5 := by rw [S_sz]; simp
  have hw : wrap64 (((t.length + 5 : Nat) : Int) - 5) = (t.length : Int) := by rw [wi _ (by omega) (by omega)]; omega
  have he : (60 :: 108 :: 105 :: 62 :: (t ++ [60, 47, 108, 105, 62])).drop ([60, 108, 105, 62] : List UInt8).length = t ++ [60, 47, 108, 105, 62] := rfl
  refine ev_pos rfl (ev_neg (by simp only [hs]; omega) ?_)
  simp only [hs, hw]
  refine ev_pos (by omega) (ev_pos (by omega) (ev_pos ?_ (ev_pos (by omega) ?_)))
  · rw [Int.toNat_natCast, S_ext, toList_L, L_S, he, List.drop_left, List.take_of_length_le (by simp)]
  · rw [Int.toNat_natCast, S_ext, he, List.drop_zero, Nat.sub_zero, List.take_left, w1 n (by omega)]
    exact h
theorem back_closes (out : List Itm) : ∀ (m a n : Nat) (post : List HLn), a ≤ 100 → m ≤ a → all.drop n = closesL a m ++ post →
    Ev (fun k => spec_LtHTMLBack.l0 k out ((a - m : Nat) : Int) (lns C all) ((lns C all).length : Int) ((n + m : Nat) : Int)) R → Ev (fun k => spec_LtHTMLBack.l0 k out (a : Int) (lns C all) ((lns C all).length : Int) (n : Int)) R
  | 0, a, n, post, ha, hm, hd, h => h
  | m + 1, a, n, post, ha, hm, hd, h => by
    have hx : all[n]? = some (cLn a) := by rw [← List.head?_drop, hd]; rfl
    have hd2 : all.drop (n + 1) = closesL (a - 1) m ++ post := by rw [← List.drop_drop, hd]; rfl
    have ih := back_closes out m (a - 1) (n + 1) post (by omega) (by omega) hd2 (by rw [show a - 1 - m = a - (m + 1) by omega, show n + 1 + m = n + (m + 1) by omega]; exact h)
    refine back_close C all hall R out a hx (by omega) (by omega) ?_
    rw [show ((a : Int) - 1) = ((a - 1 : Nat) : Int) by omega]
    exact ih
end
section
variable (C : List UInt8) (hC : C.length ≤ 1000) (all : List HLn) (hall : all.length ≤ 1000000) (R : List Itm × Bool)
include hC hall
theorem back_ul {n : Nat} {x : HLn} (out : List Itm) (lev : Int) (hx : all[n]? = some x) (hu : x.ul = true) (ht : x.tail.length ≤ 10000) (h0 : -1000000 ≤ lev) (h1 : lev ≤ 1000000)
    (h : Ev (fun k => spec_LtHTMLBack.l0 k out (lev + 1) (lns C all) ((lns C all).length : Int) ((n + 1 : Nat) : Int)) R) : Ev (fun k => spec_LtHTMLBack.l0 k out lev (lns C all) ((lns C all).length : Int) (n : Int)) R := by
  have hlt := (List.getElem?_eq_some_iff.1 hx).1
  have e : rest C x = 60 :: (117 :: 108 :: 32 :: ([99, 108, 97, 115, 115, 61, 34] ++ (C ++ x.tail))) := by unfold rest; rw [hu]; simp [ulHead]
  refine back_line C all R out lev hx _ e (Ev.step (fun k => spec_LtHTMLBack.j2.eq_2 _ _ _ _ _ _ k) ?_)
  rw [lit [60, 117, 108, 32]]
  refine ev_some (begins_f _ _ (by simp only [List.length_cons, List.length_append, List.length_nil]; omega) (by decide)) ?_
  rw [if_pos (by rfl)]
  refine ev_pos rfl ?_
  rw [wi _ (by omega) (by omega), w1 n (by omega)]
  exact h
theorem back_opens (out : List Itm) : ∀ (m a n : Nat) (post : List HLn), a + m ≤ 100 → all.drop n = opensL a m ++ post →
    Ev (fun k => spec_LtHTMLBack.l0 k out ((a + m : Nat) : Int) (lns C all) ((lns C all).length : Int) ((n + m : Nat) : Int)) R → Ev (fun k => spec_LtHTMLBack.l0 k out (a : Int) (lns C all) ((lns C all).length : Int) (n : Int)) R
  | 0, a, n, post, ha, hd, h => h
  | m + 1, a, n, post, ha, hd, h => by
    have hx : all[n]? = some (oLn a) := by rw [← List.head?_drop, hd]; rfl
    have hd2 : all.drop (n + 1) = opensL (a + 1) m ++ post := by rw [← List.drop_drop, hd]; rfl
    have ih := back_opens out m (a + 1) (n + 1) post (by omega) hd2 (by rw [show a + 1 + m = a + (m + 1) by omega, show n + 1 + m = n + (m + 1) by omega]; exact h)
    have hdl := decDigits_len (a + 1) (by omega)
    refine back_ul C hC all hall R out a hx rfl (by simp only [oLn, List.length_cons, List.length_append, List.length_nil]; omega) (by omega) (by omega) ?_
    exact ih
end
theorem closesL_len : ∀ (n a : Nat), (closesL a n).length = n
  | 0, a => rfl
  | n + 1, a => by simp [closesL, closesL_len n]
theorem opensL_len : ∀ (n a : Nat), (opensL a n).length = n
  | 0, a => rfl
  | n + 1, a => by simp [opensL, opensL_len n]
theorem back_lin (C : List UInt8) (hC : C.length ≤ 1000) (all : List HLn) (hall : all.length ≤ 1000000) : ∀ (l : List It) (lev n : Nat) (out : List Itm), lev ≤ 100 → (∀ it ∈ l, it.1 ≤ 100 ∧ it.2.length ≤ 10000) → out.length + l.length ≤ 1000000 → all.drop n = linL lev l →
    Ev (fun k => spec_LtHTMLBack.l0 k out (lev : Int) (lns C all) ((lns C all).length : Int) (n : Int)) (out ++ l.map toI, true)
  | [], lev, n, out, hlev, hit, ho, hd => by
    refine back_closes C all hall _ out lev lev n [cLn 0] hlev (Nat.le_refl _) hd ?_
    have hd2 : all.drop (n + lev) = [cLn 0] := by
      rw [← List.drop_drop, hd, linL, List.drop_left' (closesL_len _ _)]
    have hx : all[n + lev]? = some (cLn 0) := by rw [← List.head?_drop, hd2]; rfl
    have hl : all.length = n + lev + 1 := by
      have := congrArg List.length hd2
      rw [List.length_drop, List.length_singleton] at this
      omega
    refine back_close C all hall _ out _ hx (by omega) (by omega) ?_
    refine Ev.step (fun k => spec_LtHTMLBack.l0.eq_2 _ _ _ _ _ k) (ev_neg (by rw [lns_len]; omega) ?_)
    rw [Nat.sub_self, List.map_nil, List.append_nil]
    exact Ev.now _
  | x :: t, lev, n, out, hlev, hit, ho, hd => by
    obtain ⟨x1, x2⟩ := hit x (by simp)
    rw [linL] at hd
    have hd2 : all.drop (n + (x.1 - lev)) = closesL lev (lev - x.1) ++ (iLn x.1 x.2 :: linL x.1 t) := by rw [← List.drop_drop, hd, List.drop_left' (opensL_len _ _)]
    have hd3 : all.drop (n + (x.1 - lev) + (lev - x.1)) = iLn x.1 x.2 :: linL x.1 t := by rw [← List.drop_drop, hd2, List.drop_left' (closesL_len _ _)]
    have hx : all[n + (x.1 - lev) + (lev - x.1)]? = some (iLn x.1 x.2) := by rw [← List.head?_drop, hd3]; rfl
    have hd4 : all.drop (n + (x.1 - lev) + (lev - x.1) + 1) = linL x.1 t := by rw [← List.drop_drop, hd3]; rfl
    simp only [List.length_cons] at ho
    have ih := back_lin C hC all hall t x.1 _ (out ++ [toI x]) x1 (fun it h => hit it (by simp [h])) (by simp; omega) hd4
    have hstep := back_item C all hall _ out (x.1 : Int) hx x2 (by omega) ih
    have hfin : out ++ (x :: t).map toI = out ++ [toI x] ++ t.map toI := by simp
    rw [hfin]
    rcases Nat.lt_or_ge lev x.1 with hlt | hge
    · refine back_opens C hC all hall _ out (x.1 - lev) lev n _ (by omega) hd ?_
      rw [show lev + (x.1 - lev) = x.1 by omega]
      rw [show lev - x.1 = 0 by omega, Nat.add_zero] at hstep
      exact hstep
    · refine back_closes C all hall _ out (lev - x.1) lev n (iLn x.1 x.2 :: linL x.1 t) (by omega) (by omega) (by rw [show x.1 - lev = 0 by omega, Nat.add_zero] at hd2; exact hd2) ?_
      rw [show lev - (lev - x.1) = x.1 by omega]
      rw [show x.1 - lev = 0 by omega, Nat.add_zero] at hstep
      exact hstep
theorem back_f (C : List UInt8) (hC : C.length ≤ 1000) (s : ByteArray) (l : List It) (hl : l.length ≤ 1000) (hit : ∀ it ∈ l, it.1 ≤ 100 ∧ it.2.length ≤ 10000) (h : spec_TxLines.f s = some (lns C (topL :: linL 0 l))) :
    Ev (fun k => spec_LtHTMLBack.f k s) (l.map toI, true) := by
  have hln := linL_len l 0 (by omega) (fun it h => (hit it h).1)
  have hall : (topL :: linL 0 l).length ≤ 1000000 := by rw [List.length_cons]; omega
  have := back_lin C hC (topL :: linL 0 l) hall l 0 1 [] (by omega) hit (by simp; omega) rfl
  refine ev_some h ?_
  refine back_ul C hC (topL :: linL 0 l) hall _ [] (-1) (n := 0) rfl rfl (by decide) (by omega) (by omega) ?_
  exact this
theorem same_loop (l : List It) (hl : l.length ≤ 1000000) : ∀ (d n : Nat), n + d = l.length → Ev (fun k => spec_LsSame.l0 k (l.map toI) (l.map toI) ((l.map toI).length : Int) (n : Int)) true
  | 0, n, h => Ev.step (fun k => spec_LsSame.l0.eq_2 _ _ _ _ k) (ev_neg (by rw [List.length_map]; omega) (Ev.now _))
  | d + 1, n, h => by
    have ih := same_loop l hl d (n + 1) (by omega)
    refine Ev.step (fun k => spec_LsSame.l0.eq_2 _ _ _ _ k) (ev_pos (by rw [List.length_map]; omega) (ev_pos (by omega) (ev_pos (by rw [List.length_map]; omega) (ev_pos (by rw [List.length_map]; omega) (ev_neg (by simp) ?_)))))
    rw [w1 n (by omega)]
    exact ih
theorem same_f (l : List It) (hl : l.length ≤ 1000000) : Ev (fun k => spec_LsSame.f k (l.map toI) (l.map toI)) true := by
  unfold spec_LsSame.f
  exact ev_pos rfl (same_loop l hl l.length 0 (by omega))
end Go.Proofs.YthjpchabeemfmaaGreatDoor.P
