import Derived.Test.YthjpchabeemfmaaGreatDoorQa
import Derived.Test.YthjpchabeemfmaaGreatDoorQb
import Derived.Test.YthjpchabeemfmaaGreatDoorPx7
import Derived.Test.YthjpchabeemfmaaGreatDoorPx8
namespace Go.Proofs.YthjpchabeemfmaaGreatDoor.P
open Go.RowKit Go.Proofs.YthjpchabeemfmaaGreatDoorW.PrintWords Go.Proofs.YthjpchabeemfmaaGreatDoorW.PrintLast Go.Proofs.YthjpchabeemfmaaGreatDoorW.PrintMore
set_option linter.unusedVariables false
set_option linter.unusedSimpArgs false
set_option maxRecDepth 100000
set_option maxHeartbeats 2000000

theorem bg_app (a b : List UInt8) : bg (a ++ b) a := by unfold bg; rw [List.take_left]
theorem drop_app (a b : List UInt8) : (a ++ b).drop a.length = b := List.drop_left
/-- a clear bullet's line begins with no connector -/
theorem clear_vert {s : Sty} {x t : List UInt8} (h : ClearB s x) : ¬ bg (x ++ 32 :: t) s.vert := by
  intro hb
  rw [bg_iff] at hb
  have h2 : (x ++ [32]) <+: (x ++ 32 :: t) := ⟨t, by simp⟩
  rcases Nat.le_total s.vert.length (x ++ [32]).length with hl | hl
  · exact h.2.2.1 ((bg_iff _ _).2 (List.prefix_of_prefix_length_le hb h2 hl))
  · exact h.2.2.2.1 ((bg_iff _ _).2 (List.prefix_of_prefix_length_le h2 hb hl))
theorem clear_blank {s : Sty} {x t : List UInt8} (h : ClearB s x) (n : Nat) (hn : n ≠ 0) : ¬ bg (x ++ 32 :: t) (List.replicate n 32) := by
  obtain ⟨h1, h2, _⟩ := h
  obtain ⟨n, rfl⟩ : ∃ m, n = m + 1 := ⟨n - 1, by omega⟩
  cases x with
  | nil => exact absurd rfl h1
  | cons b r =>
    intro hb
    unfold bg at hb
    rw [List.length_replicate, List.replicate_succ, List.cons_append, List.take_succ_cons] at hb
    injection hb with hb _
    subst hb
    exact h2 rfl
theorem clear_other {s : Sty} {x y t : List UInt8} (hx : ClearB s x) (hy : ClearB s y) (mx : x ∈ bul s) (my : y ∈ bul s) (hb : bg (x ++ 32 :: t) (y ++ [32])) : y = x := by
  rw [bg_iff] at hb
  have h2 : (x ++ [32]) <+: (x ++ 32 :: t) := ⟨t, by simp⟩
  rcases Nat.le_total (y ++ [32]).length (x ++ [32]).length with hl | hl
  · exact (hx.2.2.2.2 y my ((bg_iff _ _).2 (List.prefix_of_prefix_length_le hb h2 hl))).symm
  · exact hy.2.2.2.2 x mx ((bg_iff _ _).2 (List.prefix_of_prefix_length_le h2 hb hl))
theorem vert_blank {s : Sty} (h : ClearS s) (n : Nat) (hn : n ≠ 0) (t : List UInt8) : ¬ bg (List.replicate n 32 ++ t) s.vert := by
  obtain ⟨n, rfl⟩ : ∃ m, n = m + 1 := ⟨n - 1, by omega⟩
  obtain ⟨h1, h2⟩ := h.vert
  intro hb
  unfold bg at hb
  cases hv : s.vert with
  | nil => exact h1 hv
  | cons b r =>
    rw [hv, List.replicate_succ, List.cons_append, List.length_cons, List.take_succ_cons] at hb
    injection hb with hb _
    rw [hv] at h2
    subst hb
    exact h2 rfl
theorem bul_mem (s : Sty) (h : Hint) : bulletF s h ∈ bul s := by
  unfold bulletF bul
  split
  · split <;> simp
  · split
    · simp
    · split
      · simp
      · split
        · simp
        · split <;> simp
section
variable (s : Sty) (f0 : Int) (hC : ClearS s) (hS : ShortSt s) (LN : List ByteArray)
abbrev BK0 (k : Nat) (out : List Itm) (n : Int) := spec_LsBack.l0 k out (S (spacesF s)) LN (LN.length : Int) n f0 (S s.single) (S s.top) (S s.first) (S s.middle) (S s.vert) (S s.bottom) (S s.newline) (S s.pre)
abbrev BK1 (k : Nat) (out : List Itm) (lev : Int) (rest : List UInt8) (more : Bool) (n : Int) := spec_LsBack.l1 k out (S (spacesF s)) lev (S rest) more LN (LN.length : Int) n f0 (S s.single) (S s.top) (S s.first) (S s.middle) (S s.vert) (S s.bottom) (S s.newline) (S s.pre)
abbrev BK2 (k : Nat) (out : List Itm) (lev : Int) (rest : List UInt8) (found : Bool) (n : Int) (j : Int) := spec_LsBack.l2 k out (S (spacesF s)) lev (S rest) found LN (LN.length : Int) n ((bul s).map S) (((bul s).map S).length : Int) j f0 (S s.single) (S s.top) (S s.first) (S s.middle) (S s.vert) (S s.bottom) (S s.newline) (S s.pre)
include hC hS in
/-- the bullets: the one that stands there is found, once -/
theorem back_bul (R : List Itm × Bool) (x t : List UInt8) (hx : x ∈ bul s) (lev : Nat) (ht : t.length ≤ 1000) (out : List Itm) (ho : out.length ≤ 1000000) (n : Int) (h : Ev (fun k => BK0 s f0 LN k (out ++ [(⟨S t, (lev : Int)⟩ : Itm)]) (wrap64 (n + 1))) R) :
    ∀ d j : Nat, j + d = 5 → Ev (fun k => BK2 s f0 LN k (if x ∈ (bul s).take j then out ++ [(⟨S t, (lev : Int)⟩ : Itm)] else out) lev (x ++ 32 :: t) (decide (x ∈ (bul s).take j)) n (j : Int)) R
  | 0, j, hj => by
    have hm : x ∈ (bul s).take j := by rw [List.take_of_length_le (show (bul s).length ≤ j by show 5 ≤ j; omega)]; exact hx
    rw [if_pos hm, decide_eq_true hm]
    exact Ev.step (fun k => spec_LsBack.l2.eq_2 _ _ _ _ _ _ _ _ _ _ _ _ _ _ _ _ _ _ _ _ k) (ev_neg (by rw [List.length_map]; show ¬ ((j : Int) < (5 : Nat)); omega) (ev_pos rfl h))
  | d + 1, j, hj => by
    have hlt : j < (bul s).length := by show j < 5; omega
    obtain ⟨y, hy⟩ : ∃ y, (bul s)[j]? = some y := ⟨_, List.getElem?_eq_getElem hlt⟩
    have my := List.mem_of_getElem? hy
    have ih := back_bul R x t hx lev ht out ho n h d (j + 1) (by omega)
    have htk : (bul s).take (j + 1) = (bul s).take j ++ [y] := by rw [List.take_add_one, hy]; rfl
    have hw : wrap64 ((j : Int) + 1) = ((j + 1 : Nat) : Int) := w1 j (by omega)
    have sz : ∀ z ∈ bul s, z.length ≤ 20 := by
      intro z hz
      simp only [bul, List.mem_cons, List.mem_nil_iff, or_false] at hz
      rcases hz with rfl | rfl | rfl | rfl | rfl
      · exact hS.single
      · exact hS.top
      · exact hS.first
      · exact hS.middle
      · exact hS.bottom
    have hy20 := sz y my
    have hx20 := sz x hx
    refine Ev.step (fun k => spec_LsBack.l2.eq_2 _ _ _ _ _ _ _ _ _ _ _ _ _ _ _ _ _ _ _ _ k) (ev_pos (by rw [List.length_map]; show ((j : Int) < (5 : Nat)); omega) (ev_pos (by omega) (ev_pos (by rw [List.length_map]; show ((j : Int) < (5 : Nat)); omega) ?_)))
    rw [rd_bul hy, lit32]
    refine ev_pos (by rw [S_sz]; omega) (ev_some (begins_g _ _ (by simp only [List.length_append, List.length_cons]; omega) (by rw [List.length_append, List.length_singleton]; omega)) ?_)
    by_cases hb : bg (x ++ 32 :: t) (y ++ [32])
    · rw [if_pos hb]
      have hyx := clear_other (hC.bullets x hx) (hC.bullets y my) hx my hb
      subst hyx
      have hm : y ∈ (bul s).take (j + 1) := by rw [htk]; simp
      rw [if_pos hm, decide_eq_true hm] at ih
      refine ev_pos rfl ?_
      by_cases hf : y ∈ (bul s).take j
      · rw [if_pos hf, decide_eq_true hf]
        refine ev_pos rfl ?_
        rw [hw]
        exact ih
      · rw [if_neg hf, decide_eq_false hf]
        refine ev_neg (by simp) (ev_pos (by omega) ?_)
        have hd : (y ++ 32 :: t).drop (y ++ [32]).length = t := by
          rw [show y ++ 32 :: t = (y ++ [32]) ++ t by simp, List.drop_left]
        dsimp only
        rw [hd, hw]
        exact ih
    · rw [if_neg hb]
      have hne : x ≠ y := fun e => hb (by subst e; rw [bg_iff]; exact ⟨t, by simp⟩)
      have hiff : x ∈ (bul s).take (j + 1) ↔ x ∈ (bul s).take j := by
        rw [htk, List.mem_append, List.mem_singleton]
        exact ⟨fun h => h.elim id (fun h => absurd h hne), Or.inl⟩
      refine ev_neg (by simp) ?_
      rw [hw]
      by_cases hf : x ∈ (bul s).take j
      · have hm := hiff.2 hf
        rw [if_pos hm, decide_eq_true hm] at ih
        rw [if_pos hf, decide_eq_true hf]
        exact ih
      · have hm : ¬ x ∈ (bul s).take (j + 1) := fun h => hf (hiff.1 h)
        rw [if_neg hm, decide_eq_false hm] at ih
        rw [if_neg hf, decide_eq_false hf]
        exact ih
include hC hS in
/-- what connects is taken off, level by level -/
theorem back_links (hb0 : Lib.runeCount ⟨s.vert.toArray⟩ ≠ 0) (R : List Itm × Bool) (x t : List UInt8) (hx : x ∈ bul s) (L : Nat) (hL : L ≤ 1000) (ht : t.length ≤ 1000) (rest : List It) (out : List Itm) (ho : out.length ≤ 1000000) (n : Int) (h : Ev (fun k => BK0 s f0 LN k (out ++ [(⟨S t, (L : Int)⟩ : Itm)]) (wrap64 (n + 1))) R) :
    ∀ d l : Nat, l + d = L → Ev (fun k => BK1 s f0 LN k out (l : Int) (linksF s.vert (spacesF s) rest l d ++ (x ++ 32 :: t)) true n) R
  | 0, l, hl => by
    obtain rfl : l = L := by omega
    have hlen : (x ++ 32 :: t).length ≤ 1000000 := by
      have : x.length ≤ 20 := by
        simp only [bul, List.mem_cons, List.mem_nil_iff, or_false] at hx
        rcases hx with rfl | rfl | rfl | rfl | rfl
        · exact hS.single
        · exact hS.top
        · exact hS.first
        · exact hS.middle
        · exact hS.bottom
      rw [List.length_append, List.length_cons]
      omega
    have hv20 := hS.vert
    have hsp := spacesF_len hS
    have e0 : linksF s.vert (spacesF s) rest l 0 ++ (x ++ 32 :: t) = x ++ 32 :: t := rfl
    rw [e0]
    refine Ev.step (fun k => spec_LsBack.l1.eq_2 _ _ _ _ _ _ _ _ _ _ _ _ _ _ _ _ _ k) (ev_pos rfl ?_)
    refine ev_some (begins_g _ _ hlen (by omega)) ?_
    rw [if_neg (clear_vert (hC.bullets x hx))]
    refine ev_neg (by simp) (ev_some (begins_g _ _ hlen (by omega)) ?_)
    have hnb : ¬ bg (x ++ 32 :: t) (spacesF s) := clear_blank (hC.bullets x hx) _ hb0
    rw [if_neg hnb]
    refine ev_neg (by simp) ?_
    refine Ev.step (fun k => spec_LsBack.l1.eq_2 _ _ _ _ _ _ _ _ _ _ _ _ _ _ _ _ _ k) (ev_neg (by simp) (ev_some rfl ?_))
    have := back_bul s f0 hC hS LN R x t hx l ht out ho n h 5 0 rfl
    rw [List.take_zero, if_neg (by simp), decide_eq_false (by simp)] at this
    exact this
  | d + 1, l, hl => by
    have ih := back_links hb0 R x t hx L hL ht rest out ho n h d (l + 1) (by omega)
    have hw : wrap64 ((l : Int) + 1) = ((l + 1 : Nat) : Int) := w1 l (by omega)
    have hv20 := hS.vert
    have hsp := spacesF_len hS
    have hx20 : x.length ≤ 20 := by
      simp only [bul, List.mem_cons, List.mem_nil_iff, or_false] at hx
      rcases hx with rfl | rfl | rfl | rfl | rfl
      · exact hS.single
      · exact hS.top
      · exact hS.first
      · exact hS.middle
      · exact hS.bottom
    have hll := links_len hS.vert (spacesF_len hS) rest d (l + 1)
    have hlen : (linksF s.vert (spacesF s) rest l (d + 1) ++ (x ++ 32 :: t)).length ≤ 1000000 := by
      rw [linksF]
      simp only [List.length_append, List.length_cons]
      split <;> omega
    refine Ev.step (fun k => spec_LsBack.l1.eq_2 _ _ _ _ _ _ _ _ _ _ _ _ _ _ _ _ _ k) (ev_pos rfl ?_)
    refine ev_some (begins_g _ _ hlen (by omega)) ?_
    rw [linksF, List.append_assoc]
    cases hm : moreF l rest with
    | true =>
      rw [if_pos rfl, if_pos (bg_app _ _)]
      refine ev_pos rfl ?_
      dsimp only
      rw [drop_app, hw]
      exact ih
    | false =>
      have e : spacesF s = List.replicate (Lib.runeCount ⟨s.vert.toArray⟩) 32 := rfl
      have hvb : ¬ bg (spacesF s ++ (linksF s.vert (spacesF s) rest (l + 1) d ++ (x ++ 32 :: t))) s.vert := vert_blank hC _ hb0 _
      rw [if_neg (show ¬ (false = true) by decide), if_neg hvb]
      have hlen2 : (spacesF s ++ (linksF s.vert (spacesF s) rest (l + 1) d ++ (x ++ 32 :: t))).length ≤ 1000000 := by
        simp only [List.length_append, List.length_cons]
        omega
      refine ev_neg (by simp) (ev_some (begins_g _ _ hlen2 (by omega)) ?_)
      rw [if_pos (bg_app _ _)]
      refine ev_pos rfl ?_
      dsimp only
      rw [drop_app, hw]
      exact ih
include hC hS in
theorem back_all (hb0 : Lib.runeCount ⟨s.vert.toArray⟩ ≠ 0) (its : List It) (hn : its.length ≤ 100000) (hi : ∀ it ∈ its, it.1 ≤ 1000 ∧ it.2.length ≤ 1000) (hLN : LN = (linesO s (spacesF s) none its).map S) :
    ∀ d n : Nat, n + d = its.length → Ev (fun k => BK0 s f0 LN k ((its.take n).map toI) (n : Int)) (its.map toI, true)
  | 0, n, hd => by
    have hl : LN.length = its.length := by rw [hLN, List.length_map, linesO_len]
    rw [List.take_of_length_le (by omega)]
    exact Ev.step (fun k => spec_LsBack.l0.eq_2 _ _ _ _ _ _ _ _ _ _ _ _ _ _ k) (ev_neg (by omega) (Ev.now _))
  | d + 1, n, hd => by
    have hl : LN.length = its.length := by rw [hLN, List.length_map, linesO_len]
    have hlt : n < its.length := by omega
    obtain ⟨x, hx⟩ : ∃ x, its[n]? = some x := ⟨_, List.getElem?_eq_getElem hlt⟩
    obtain ⟨hx1, hx2⟩ := hi x (List.mem_of_getElem? hx)
    have ih := back_all hb0 its hn hi hLN d (n + 1) (by omega)
    obtain ⟨p, hp⟩ := linesO_get s (spacesF s) its none n x hx
    have hg : rdOf ByteArray.empty LN (n : Int) = S (lineO s (spacesF s) p x (its.drop (n + 1))) := by
      rw [hLN]
      exact rdOf_at (by rw [List.getElem?_map, hp]; rfl)
    have hw : wrap64 ((n : Int) + 1) = ((n + 1 : Nat) : Int) := w1 n (by omega)
    have htk : (its.take (n + 1)).map toI = (its.take n).map toI ++ [(⟨S x.2, (x.1 : Int)⟩ : Itm)] := by rw [List.take_add_one, hx, List.map_append]; rfl
    refine Ev.step (fun k => spec_LsBack.l0.eq_2 _ _ _ _ _ _ _ _ _ _ _ _ _ _ k) (ev_pos (by omega) (ev_pos (by omega) (ev_pos (by omega) ?_)))
    rw [hg]
    have e : lineO s (spacesF s) p x (its.drop (n + 1)) = linksF s.vert (spacesF s) (its.drop (n + 1)) 0 x.1 ++ (bulletF s (hintF p x (its.drop (n + 1))) ++ 32 :: x.2) := by
      unfold lineO aheadF
      rw [hC.pre, List.nil_append]
    rw [e]
    refine back_links s f0 hC hS LN hb0 _ _ x.2 (bul_mem s _) x.1 hx1 hx2 _ _ (by rw [List.length_map, List.length_take]; omega) (n : Int) ?_ x.1 0 (by omega)
    rw [hw, ← htk]
    exact ih
end
/-- a list rendered in a clear style reads back -/
theorem lsBack_f (s : Sty) (f0 : Int) (hC : ClearS s) (hS : ShortSt s) (hL : LineSt s) (its : List It) (hne : its ≠ []) (hn : its.length ≤ 800) (hi : ∀ it ∈ its, it.1 ≤ 200 ∧ it.2.length ≤ 200) (ht : ∀ it ∈ its, textF s it.2 = it.2 ∧ LineT it.2 ∧ ∀ b ∈ it.2, b ≠ 10) (hsz : (renderF s its).length ≤ 1000000000)
    (hW : spec_TxWidth.f (S s.vert) = some ((Lib.runeCount ⟨s.vert.toArray⟩ : Nat) : Int)) (hb0 : Lib.runeCount ⟨s.vert.toArray⟩ ≠ 0) :
    Ev (fun k => spec_LsBack.f k (S (renderF s its)) f0 (S s.single) (S s.top) (S s.first) (S s.middle) (S s.vert) (S s.bottom) (S s.newline) (S s.pre)) (its.map toI, true) := by
  have hsp := spacesF_len hS
  have hlen : Lib.runeCount ⟨s.vert.toArray⟩ ≤ 20 := by unfold spacesF at hsp; rw [List.length_replicate] at hsp; exact hsp
  have hT : spec_TxTimes.f (⟨#[32]⟩ : ByteArray) ((Lib.runeCount ⟨s.vert.toArray⟩ : Nat) : Int) = some (S (spacesF s)) := by
    unfold spec_TxTimes.f
    rw [if_pos ⟨by decide, by omega, by omega⟩, Int.toNat_natCast]
    congr 2
    unfold spacesF
    generalize Lib.runeCount ⟨s.vert.toArray⟩ = m
    show Lib.repeatL [32] m = _
    induction m with
    | zero => rfl
    | succ m ih => rw [Lib.repeatL, ih]; rfl
  refine ev_neg (by rw [toList_L, L_S]; exact hC.vert.1) (ev_some hW (ev_some hT (ev_some (render_linesL hL hS its hne hi ht hn hsz) ?_)))
  have := back_all s f0 hC hS ((linesO s (spacesF s) none its).map S) hb0 its (by omega) (fun it hit => by have := hi it hit; omega) rfl its.length 0 (by omega)
  exact this
end Go.Proofs.YthjpchabeemfmaaGreatDoor.P
