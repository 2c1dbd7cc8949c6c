import Derived.Test.YtejjjenjnfaopaaGreatDoorDf
import Derived.Test.YtejjjenjnfaopaaGreatDoorNa
import Derived.Test.YtejjjenjnfaopaaGreatDoorGp
import Derived.Test.YtejjjenjnfaopaaGreatDoorPx3
import Derived.Test.YtejjjenjnfaopaaGreatDoorPx5
import Derived.Test.YtejjjenjnfaopaaGreatDoorFz
namespace Go.Proofs.YtejjjenjnfaopaaGreatDoor
open Go.RowKit
set_option linter.unusedVariables false
set_option linter.unusedSimpArgs false
set_option maxHeartbeats 2000000
set_option maxRecDepth 100000

/-! two styles that differ in the bullet of an only item, and in the new line -/
structure Near (A B : Sty) : Prop where
 top : A.top = B.top
 first : A.first = B.first
 middle : A.middle = B.middle
 vert : A.vert = B.vert
 bottom : A.bottom = B.bottom
 pre : A.pre = B.pre
theorem mark_near {A B : Sty} (h : Near A B) (sp : List UInt8) (hn : Hint) (hb : hn.only = true → hn.top = false) (k : Nat) : markF A sp hn k = markF B sp hn k := by
 have hbul : bulletF A hn = bulletF B hn := by
  unfold bulletF
  rw [h.top, h.first, h.middle, h.bottom]
  by_cases ho : hn.only = true
  ·rw [if_pos ho, if_pos ho, hb ho]
   simp
  ·rw [if_neg ho, if_neg ho]
 unfold markF
 rw [hbul, h.vert]
theorem lines_near {A B : Sty} (h : Near A B) (sp : List UInt8) (hn : Hint) (hb : hn.only = true → hn.top = false) (ah : List UInt8) : ∀ (ls : List (List UInt8)) (k : Nat), linesF A sp hn ah k ls = linesF B sp hn ah k ls
 | [], _ => rfl
 | l :: r, k => by
  unfold linesF
  rw [mark_near h sp hn hb, lines_near h sp hn hb ah r (k + 1)]
theorem out_near {A B : Sty} (h : Near A B) (sp : List UInt8) : ∀ (l : List It) (prev : Option Nat), (∀ it ∈ l, textF A it.2 = textF B it.2) → (prev = none → ∀ x t, l = x :: t → moreF x.1 t = true) → outF A sp prev l = outF B sp prev l
 | [], _, _, _ => rfl
 | x :: t, prev, ht, hm => by
  unfold outF
  rw [out_near h sp t (some x.1) (fun it hit => ht it (List.mem_cons_of_mem _ hit)) (fun e => by cases e)]
  congr 1
  unfold itemF
  rw [ht x List.mem_cons_self]
  have ha : aheadF A sp x t = aheadF B sp x t := by unfold aheadF; rw [h.pre, h.vert]
  rw [ha, lines_near h sp (hintF prev x t) (fun ho => by
   cases prev with
   | some p => rfl
   | none =>
    have := hm rfl x t rfl
    simp [hintF, this] at ho) _ _ 0]
theorem render_near {A B : Sty} (h : Near A B) (l : List It) (ht : ∀ it ∈ l, textF A it.2 = textF B it.2) (hm : ∀ x t, l = x :: t → moreF x.1 t = true) : renderF A l = renderF B l := by
 unfold renderF
 have : spacesF A = spacesF B := by unfold spacesF; rw [h.vert]
 rw [this]
 exact out_near h _ l none ht (fun _ => hm)
theorem named_near (n : Nat) (hn : n < 11) : Near (namedA n) (namedB n) := by
 match n, hn with
 | 0, _ | 1, _ | 2, _ | 3, _ | 4, _ | 5, _ | 6, _ | 7, _ | 8, _ | 9, _ | 10, _ => exact ⟨rfl, rfl, rfl, rfl, rfl, rfl⟩
theorem text_no10 (s : Sty) (hs : s.newline = [10] ∨ s.newline = [60, 98, 114, 47, 62]) (t : List UInt8) (h : ∀ b ∈ t, b ≠ 10) : textF s t = t := by
 unfold textF
 split
 ·rfl
 ·exact repAll_no h
theorem named_nl (n : Nat) (hn : n < 11) : ((namedA n).newline = [10] ∨ (namedA n).newline = [60, 98, 114, 47, 62]) ∧ (namedB n).newline = [10] := by
 match n, hn with
 | 0, _ | 1, _ | 2, _ | 3, _ | 4, _ | 5, _ | 6, _ | 7, _ | 8, _ | 9, _ | 10, _ => exact ⟨by decide, rfl⟩
theorem named_short (n : Nat) (hn : n < 11) : ShortSt (namedA n) ∧ ShortSt (namedB n) := by
 match n, hn with
 | 0, _ | 1, _ | 2, _ | 3, _ | 4, _ | 5, _ | 6, _ | 7, _ | 8, _ | 9, _ | 10, _ => exact ⟨⟨by decide, by decide, by decide, by decide, by decide, by decide, by decide, by decide⟩, ⟨by decide, by decide, by decide, by decide, by decide, by decide, by decide, by decide⟩⟩
theorem named_fmt (n : Nat) (hn : n < 11) : (namedA n).fmt = 0 ∧ (namedB n).fmt = 0 ∧ (namedA n).name = [] ∧ (namedB n).name = [] := by
 match n, hn with
 | 0, _ | 1, _ | 2, _ | 3, _ | 4, _ | 5, _ | 6, _ | 7, _ | 8, _ | 9, _ | 10, _ => exact ⟨rfl, rfl, rfl, rfl⟩
theorem render_named (n : Nat) (hn : n < 11) (l : List It) (ht : ∀ it ∈ l, ∀ b ∈ it.2, b ≠ 10) (hm : ∀ x t, l = x :: t → moreF x.1 t = true) : renderF (namedA n) l = renderF (namedB n) l :=
 render_near (named_near n hn) l (fun it hit => by rw [text_no10 _ (named_nl n hn).1 _ (ht it hit), text_no10 _ (.inl (named_nl n hn).2) _ (ht it hit)]) hm
end Go.Proofs.YtejjjenjnfaopaaGreatDoor

namespace Go.Proofs.YtejjjenjnfaopaaGreatDoor.P
open Go.RowKit Go.Proofs.YtejjjenjnfaopaaGreatDoorW.PrintWords Go.Proofs.YtejjjenjnfaopaaGreatDoorW.PrintLast Go.Proofs.YtejjjenjnfaopaaGreatDoorW.PrintMore
set_option linter.unusedVariables false
set_option linter.unusedSimpArgs false
set_option maxRecDepth 100000
set_option maxHeartbeats 2000000

/-! lines by runes and by bytes -/
theorem splitN_skip : ∀ (e r : List UInt8), (∀ b ∈ e, b ≠ 10) → ∀ h t, splitN r = h :: t → splitN (e ++ r) = (e ++ h) :: t
 | [], r, _, h, t, hr => hr
 | b :: e, r, he, h, t, hr => by
  have ih := splitN_skip e r (fun x hx => he x (by simp [hx])) h t hr
  rw [List.cons_append, splitN, if_neg (he b (by simp)), ih]
  rfl
theorem enc_no10 {r : Int} (hv : VR r) (h : r ≠ 10) : ∀ b ∈ Lib.encodeRune r, b ≠ 10 := fun b hb e => by
 subst e
 have := enc_small r hv 10 (by decide) hb
 exact h this
theorem linesR_split : ∀ (rs : List Int), (∀ r ∈ rs, VR r) → ∀ cur h t, splitN (encs rs) = h :: t → linesR cur rs = (cur ++ h) :: t
 | [], _, cur, h, t, e => by
  rw [encs_nil, splitN] at e
  injection e with e1 e2
  subst e1 e2
  simp [linesR]
 | r :: rs, hv, cur, h, t, e => by
  have hr := hv r (by simp)
  obtain ⟨h2, t2, e2⟩ : ∃ h2 t2, splitN (encs rs) = h2 :: t2 := by
   cases hs : splitN (encs rs) with
   | nil => exact absurd hs (splitN_ne _)
   | cons a b => exact ⟨a, b, rfl⟩
  rw [encs_cons] at e
  by_cases h10 : r = 10
  ·have ih := linesR_split rs (fun x hx => hv x (by simp [hx])) [] h2 t2 e2
   subst h10
   have e10 : Lib.encodeRune 10 = [10] := by decide
   rw [e10, List.cons_append, List.nil_append, splitN, if_pos rfl, e2] at e
   injection e with e3 e4
   subst e3 e4
   rw [linesR, if_pos rfl, ih]
   simp
  ·have ih := linesR_split rs (fun x hx => hv x (by simp [hx])) (cur ++ Lib.encodeRune r) h2 t2 e2
   rw [splitN_skip _ _ (enc_no10 hr h10) h2 t2 e2] at e
   injection e with e3 e4
   subst e3 e4
   rw [linesR, if_neg h10, ih]
   simp
theorem lines_split {l : List UInt8} (h : Kn l) : linesR [] (runesL l) = splitN l := by
 cases hs : splitN l with
 | nil => exact absurd hs (splitN_ne _)
 | cons a b =>
  have := linesR_split (runesL l) h.vr [] a b (by rw [h.encs]; exact hs)
  simpa using this

/-- a style that draws as the list's own does: new line as it is, blanks as wide as what connects -/
structure DrawSt (s : Sty) : Prop where
 short : ShortSt s
 nl : s.newline = [10]
 wide : ∃ n : Nat, n ≤ 1000 ∧ spec_TxWidth.f (S s.vert) = some (n : Int) ∧ Lib.repeatL [32] n = spacesF s

theorem more_loop (lev : Nat) (l : List It) (hl : l.length ≤ 1000) : ∀ (d j : Nat), j + d = l.length → Ev (fun k => spec_LsMore.l0 k (lev : Int) (l.map toI) ((l.map toI).length : Int) (j : Int)) (moreF lev (l.drop j))
 | 0, j, h => by
  rw [List.drop_eq_nil_of_le (by omega)]
  exact Ev.step (fun k => spec_LsMore.l0.eq_2 _ _ _ _ k) (ev_neg (by rw [List.length_map]; omega) (Ev.now _))
 | d + 1, j, h => by
  have ih := more_loop lev l hl d (j + 1) (by omega)
  obtain ⟨x, hx⟩ : ∃ x, l[j]? = some x := ⟨_, List.getElem?_eq_getElem (by omega)⟩
  have hd : l.drop j = x :: l.drop (j + 1) := by rw [List.drop_eq_getElem_cons (by omega), (List.getElem?_eq_some_iff.1 hx).2]
  have hrd : rd_T43 (l.map toI) (j : Int) = toI x := rd_it (by rw [List.getElem?_map, hx]; rfl)
  refine Ev.step (fun k => spec_LsMore.l0.eq_2 _ _ _ _ k) (ev_pos (by rw [List.length_map]; omega) (ev_pos (by omega) (ev_pos (by rw [List.length_map]; omega) ?_)))
  rw [hrd, hd, moreF]
  by_cases h1 : x.1 < lev
  ·rw [if_pos h1]
   refine ev_pos (by simp only [toI]; omega) ?_
   rw [show ((toI x).f1 == (lev : Int)) = false by simp only [toI]; rw [beq_eq_false_iff_ne]; omega]
   exact Ev.now _
  ·rw [if_neg h1]
   by_cases h2 : x.1 = lev
   ·rw [if_pos h2]
    refine ev_pos (by simp only [toI]; omega) ?_
    rw [show ((toI x).f1 == (lev : Int)) = true by simp only [toI]; simp [h2]]
    exact Ev.now _
   ·rw [if_neg h2]
    refine ev_neg (by simp only [toI]; omega) ?_
    rw [w1 j (by omega)]
    exact ih
theorem more_f (its : List It) (hl : its.length ≤ 1000) (lev n : Nat) (hn : n < its.length) : Ev (fun k => spec_LsMore.f k (its.map toI) (n : Int) (lev : Int)) (moreF lev (its.drop (n + 1))) := by
 unfold spec_LsMore.f
 rw [w1 n (by omega)]
 refine ev_pos (by omega) (ev_pos (by rw [List.length_map]; omega) (ev_some rfl ?_))
 rw [Int.toNat_natCast, ← List.map_drop]
 have := more_loop lev (its.drop (n + 1)) (by rw [List.length_drop]; omega) (its.drop (n + 1)).length 0 (by omega)
 exact this

section
variable (s : Sty) (hs : DrawSt s) (its : List It) (hl : its.length ≤ 1000) (hi : ∀ it ∈ its, it.1 ≤ 80 ∧ it.2.length ≤ 200 ∧ Kn it.2) (fm : Int)
include hs hl
theorem link_f (n lev : Nat) (hn : n < its.length) : Ev (fun k => spec_ltLink.f k (its.map toI) (n : Int) (lev : Int) fm (S s.single) (S s.top) (S s.first) (S s.middle) (S s.vert) (S s.bottom) (S s.newline) (S s.pre)) (S (if moreF lev (its.drop (n + 1)) then s.vert else spacesF s)) := by
 unfold spec_ltLink.f
 refine ev_bind (more_f its hl lev n hn) ?_
 cases moreF lev (its.drop (n + 1)) with
 | true => exact ev_pos rfl (Ev.now _)
 | false =>
  obtain ⟨m, h1, h2, h3⟩ := hs.wide
  refine ev_neg (by simp) (ev_some h2 (ev_some (a := S (spacesF s)) ?_ (Ev.now _)))
  unfold spec_TxTimes.f
  rw [if_pos ⟨by decide, by omega, by omega⟩, Int.toNat_natCast, ← h3]
  rfl
theorem ahead_loop (n lev : Nat) (hn : n < its.length) : ∀ (d l : Nat) (acc : List UInt8), l + d = lev → lev ≤ 1000 → acc.length + 20 * d ≤ 1000000 →
  Ev (fun k => spec_LtAhead.l0 k (its.map toI) (n : Int) (S acc) (lev : Int) (l : Int) fm (S s.single) (S s.top) (S s.first) (S s.middle) (S s.vert) (S s.bottom) (S s.newline) (S s.pre)) (S (acc ++ linksF s.vert (spacesF s) (its.drop (n + 1)) l d))
 | 0, l, acc, h, _, _ => by
  rw [linksF, List.append_nil]
  exact Ev.step (fun k => spec_LtAhead.l0.eq_2 _ _ _ _ _ _ _ _ _ _ _ _ _ _ k) (ev_neg (by omega) (Ev.now _))
 | d + 1, l, acc, h, hlev, ha => by
  have h20 : (if moreF l (its.drop (n + 1)) then s.vert else spacesF s).length ≤ 20 := by
   have := spacesF_len hs.short
   have := hs.short.vert
   split <;> omega
  have ih := ahead_loop n lev hn d (l + 1) (acc ++ (if moreF l (its.drop (n + 1)) then s.vert else spacesF s)) (by omega) hlev (by rw [List.length_append]; omega)
  refine Ev.step (fun k => spec_LtAhead.l0.eq_2 _ _ _ _ _ _ _ _ _ _ _ _ _ _ k) (ev_pos (by omega) (ev_bind (link_f s hs its hl fm n l hn) (ev_pos (by rw [S_sz, S_sz]; omega) ?_)))
  rw [S_app, w1 l (by omega), linksF, ← List.append_assoc]
  exact ih
include hi
theorem ahead_f (n : Nat) (x : It) (hx : its[n]? = some x) : Ev (fun k => spec_LtAhead.f k (its.map toI) (n : Int) fm (S s.single) (S s.top) (S s.first) (S s.middle) (S s.vert) (S s.bottom) (S s.newline) (S s.pre)) (S (aheadF s (spacesF s) x (its.drop (n + 1)))) := by
 have hn := (List.getElem?_eq_some_iff.1 hx).1
 have hx1 := (hi x (List.mem_of_getElem? hx)).1
 have hp := hs.short.pre
 have hrd : rd_T43 (its.map toI) (n : Int) = toI x := rd_it (by rw [List.getElem?_map, hx]; rfl)
 unfold spec_LtAhead.f
 refine ev_pos (by omega) (ev_pos (by rw [List.length_map]; omega) ?_)
 rw [hrd]
 exact ahead_loop s hs its hl fm n x.1 hn x.1 0 s.pre (by omega) (by omega) (by omega)
end
theorem first_f (its : List It) (hl : its.length ≤ 1000) (n : Nat) (x : It) (hx : its[n]? = some x) : spec_LsFirst.f (its.map toI) (n : Int) = some (hintF (prevAt its n) x (its.drop (n + 1))).first := by
 have hn := (List.getElem?_eq_some_iff.1 hx).1
 unfold spec_LsFirst.f
 cases n with
 | zero => rw [if_pos (show ((0 : Nat) : Int) = 0 from rfl)]; rfl
 | succ j =>
  obtain ⟨y, hy⟩ : ∃ y, its[j]? = some y := ⟨_, List.getElem?_eq_getElem (by omega)⟩
  have hp : prevAt its (j + 1) = some y.1 := by simp [prevAt, hy]
  have e : wrap64 (((j + 1 : Nat) : Int) - 1) = (j : Int) := by rw [wi _ (by omega) (by omega)]; omega
  have r1 : rd_T43 (its.map toI) (j : Int) = toI y := rd_it (by rw [List.getElem?_map, hy]; rfl)
  have r2 : rd_T43 (its.map toI) ((j + 1 : Nat) : Int) = toI x := rd_it (by rw [List.getElem?_map, hx]; rfl)
  rw [if_neg (by omega), e, if_pos (by omega), if_pos (by rw [List.length_map]; omega), if_pos (by omega), if_pos (by rw [List.length_map]; omega), r1, r2]
  unfold hintF
  rw [hp]
  simp [toI]
theorem bullet_f (s : Sty) (its : List It) (hl : its.length ≤ 1000) (fm : Int) (n : Nat) (x : It) (hx : its[n]? = some x) : Ev (fun k => spec_LtBullet.f k (its.map toI) (n : Int) fm (S s.single) (S s.top) (S s.first) (S s.middle) (S s.vert) (S s.bottom) (S s.newline) (S s.pre)) (S (bulletF s (hintF (prevAt its n) x (its.drop (n + 1))))) := by
 have hn := (List.getElem?_eq_some_iff.1 hx).1
 have hrd : rd_T43 (its.map toI) (n : Int) = toI x := rd_it (by rw [List.getElem?_map, hx]; rfl)
 have hf := first_f its hl n x hx
 have hm := more_f its hl x.1 n hn
 have hbot : moreF x.1 (its.drop (n + 1)) = true → (its.drop (n + 1)).isEmpty = false := by
  intro h
  cases hd : its.drop (n + 1) with
  | nil => rw [hd] at h; cases h
  | cons a b => rfl
 have htop : (hintF (prevAt its n) x (its.drop (n + 1))).top = decide (n = 0) := by
  unfold hintF
  cases n with
  | zero => rfl
  | succ j =>
   obtain ⟨y, hy⟩ : ∃ y, its[j]? = some y := ⟨_, List.getElem?_eq_getElem (by omega)⟩
   simp [prevAt, hy]
 have hf0 : n = 0 → (hintF (prevAt its n) x (its.drop (n + 1))).first = true := fun e => by subst e; rfl
 unfold spec_LtBullet.f
 refine ev_pos (by omega) (ev_pos (by rw [List.length_map]; omega) ?_)
 rw [hrd]
 refine ev_bind (show Ev (fun k => spec_LsMore.f k (its.map toI) (n : Int) (toI x).f1) _ from hm) (ev_some hf ?_)
 have hB : bulletF s (hintF (prevAt its n) x (its.drop (n + 1))) = (if (hintF (prevAt its n) x (its.drop (n + 1))).first && !moreF x.1 (its.drop (n + 1)) then (if n = 0 then s.single else s.bottom) else if n = 0 then s.top else if (hintF (prevAt its n) x (its.drop (n + 1))).first then s.first else if (its.drop (n + 1)).isEmpty then s.bottom else if !moreF x.1 (its.drop (n + 1)) then s.bottom else s.middle) := by
  unfold bulletF
  rw [htop]
  have e1 : (hintF (prevAt its n) x (its.drop (n + 1))).only = ((hintF (prevAt its n) x (its.drop (n + 1))).first && !moreF x.1 (its.drop (n + 1))) := rfl
  have e2 : (hintF (prevAt its n) x (its.drop (n + 1))).last = !moreF x.1 (its.drop (n + 1)) := rfl
  have e3 : (hintF (prevAt its n) x (its.drop (n + 1))).bottom = (its.drop (n + 1)).isEmpty := rfl
  rw [e1, e2, e3]
  simp only [decide_eq_true_eq]
 rw [hB]
 generalize (hintF (prevAt its n) x (its.drop (n + 1))).first = fi at *
 generalize moreF x.1 (its.drop (n + 1)) = mo at *
 generalize (its.drop (n + 1)).isEmpty = bo at *
 have st : ∀ (b1 b2 b3 : Bool) (R : List UInt8), (if b3 = true then (some (S s.single) : Option ByteArray) else (if (n : Int) = 0 then (some (S s.top)) else (if b1 = true then (if b2 = true then (some (S s.first)) else (some (S s.middle))) else (some (S s.bottom))))) = some (S R) →
   Ev (fun k => spec_LtBullet.j0 k (n : Int) b1 b2 b3 fm (S s.single) (S s.top) (S s.first) (S s.middle) (S s.vert) (S s.bottom) (S s.newline) (S s.pre)) (S R) := fun b1 b2 b3 R h =>
  Ev.step (fun k => spec_LtBullet.j0.eq_2 _ _ _ _ _ _ _ _ _ _ _ _ _ k) (ev_const h)
 by_cases h0 : n = 0
 ·have hfi := hf0 h0
  subst hfi h0
  cases mo with
  | true => exact ev_pos rfl (ev_pos rfl (st _ _ _ _ (by simp)))
  | false => exact ev_pos rfl (ev_neg (by simp) (st _ _ _ _ (by simp)))
 ·have hn0 : (n : Int) ≠ 0 := by omega
  have hnb : ((n : Int) == 0) = false := by simpa using hn0
  cases fi with
  | true =>
   cases mo with
   | true => exact ev_pos rfl (ev_pos rfl (st _ _ _ _ (by simp [h0])))
   | false => exact ev_pos rfl (ev_neg (by simp) (st _ _ _ _ (by simp [h0])))
  | false =>
   refine ev_neg (by simp) (st _ _ _ _ ?_)
   cases mo with
   | true =>
    have := hbot rfl
    subst this
    simp [h0]
   | false => simp [h0]
end Go.Proofs.YtejjjenjnfaopaaGreatDoor.P

namespace Go.Proofs.YtejjjenjnfaopaaGreatDoor.P
open Go.RowKit Go.Proofs.YtejjjenjnfaopaaGreatDoorW.PrintWords Go.Proofs.YtejjjenjnfaopaaGreatDoorW.PrintLast Go.Proofs.YtejjjenjnfaopaaGreatDoorW.PrintMore
set_option linter.unusedVariables false
set_option linter.unusedSimpArgs false
set_option maxRecDepth 100000
set_option maxHeartbeats 2000000

/-- an item's lines -/
def linesD (s : Sty) (sp : List UInt8) (h : Hint) (ah : List UInt8) : Nat → List (List UInt8) → List (List UInt8)
 | _, [] => []
 | k, l :: r => (ah ++ (markF s sp h k ++ l)) :: linesD s sp h ah (k + 1) r
theorem linesD_len (s : Sty) (sp : List UInt8) (h : Hint) (ah : List UInt8) : ∀ (ls : List (List UInt8)) (k : Nat), (linesD s sp h ah k ls).length = ls.length
 | [], _ => rfl
 | l :: r, k => by simp [linesD, linesD_len s sp h ah r]
theorem linesF_D (s : Sty) (sp : List UInt8) (h : Hint) (ah : List UInt8) : ∀ (ls : List (List UInt8)) (k : Nat), 0 < k → linesF s sp h ah k ls = (linesD s sp h ah k ls).flatMap fun x => 10 :: x
 | [], _, _ => rfl
 | l :: r, k, hk => by
  rw [linesF, linesD, List.flatMap_cons, ← linesF_D s sp h ah r (k + 1) (by omega), if_pos hk]
  simp
theorem drawn_in (s : Sty) (its : List It) (fm : Int) (i : Nat) (R : ByteArray) (ls : List (List UInt8)) (hls : ls.length ≤ 1000) (hn : i < 2147483647) : ∀ (d k : Nat) (acc : List UInt8), k + d = ls.length → (acc ++ (ls.drop k).flatMap fun x => 10 :: x).length ≤ 100000000000 → (0 < i ∨ 0 < k) →
  Ev (fun q => spec_LtDrawn.l0 q (its.map toI) (S (acc ++ (ls.drop k).flatMap fun x => 10 :: x)) ((its.map toI).length : Int) ((i + 1 : Nat) : Int) fm (S s.single) (S s.top) (S s.first) (S s.middle) (S s.vert) (S s.bottom) (S s.newline) (S s.pre)) R →
  Ev (fun q => spec_LtDrawn.l1 q (its.map toI) (S acc) (i : Int) ((its.map toI).length : Int) (i : Int) (ls.map S) ((ls.map S).length : Int) (k : Int) fm (S s.single) (S s.top) (S s.first) (S s.middle) (S s.vert) (S s.bottom) (S s.newline) (S s.pre)) R
 | 0, k, acc, h, ha, hik, hb => by
  rw [List.drop_eq_nil_of_le (by omega), List.flatMap_nil, List.append_nil] at hb
  refine Ev.step (fun q => spec_LtDrawn.l1.eq_2 _ _ _ _ _ _ _ _ _ _ _ _ _ _ _ _ _ q) (ev_neg (by rw [List.length_map]; omega) ?_)
  rw [w1 i (by omega)]
  exact hb
 | d + 1, k, acc, h, ha, hik, hb => by
  obtain ⟨l, hlk⟩ : ∃ l, ls[k]? = some l := ⟨_, List.getElem?_eq_getElem (by omega)⟩
  have hd : ls.drop k = l :: ls.drop (k + 1) := by rw [List.drop_eq_getElem_cons (by omega), (List.getElem?_eq_some_iff.1 hlk).2]
  have hrl : rdOf ByteArray.empty (ls.map S) (k : Int) = S l := rdOf_at (by rw [List.getElem?_map, hlk]; rfl)
  have e : acc ++ (ls.drop k).flatMap (fun x => 10 :: x) = (acc ++ ([10] ++ l)) ++ (ls.drop (k + 1)).flatMap (fun x => 10 :: x) := by rw [hd]; simp
  rw [e] at ha hb
  have hsz : acc.length + 1 + l.length ≤ 100000000000 := by
   simp only [List.length_append, List.length_cons, List.length_nil] at ha
   omega
  have ih := drawn_in s its fm i R ls hls hn d (k + 1) (acc ++ ([10] ++ l)) (by omega) ha (.inr (by omega)) hb
  refine Ev.step (fun q => spec_LtDrawn.l1.eq_2 _ _ _ _ _ _ _ _ _ _ _ _ _ _ _ _ _ q) (ev_pos (by rw [List.length_map]; omega) (ev_pos (by omega) (ev_pos (by rw [List.length_map]; omega) ?_)))
  rw [hrl, w1 k (by omega)]
  have fin : Ev (fun q => if (S acc).size + 1 ≤ 9223372036854775807 then (if (S acc ++ (⟨#[10]⟩ : ByteArray)).size + (S l).size ≤ 9223372036854775807 then spec_LtDrawn.l1 q (its.map toI) ((S acc ++ (⟨#[10]⟩ : ByteArray)) ++ S l) (i : Int) ((its.map toI).length : Int) (i : Int) (ls.map S) ((ls.map S).length : Int) ((k + 1 : Nat) : Int) fm (S s.single) (S s.top) (S s.first) (S s.middle) (S s.vert) (S s.bottom) (S s.newline) (S s.pre) else none) else none) R := by
   refine ev_pos (by rw [S_sz]; omega) (ev_pos (by rw [lit [10], S_app, S_sz, S_sz, List.length_append]; simp only [List.length_cons, List.length_nil]; omega) ?_)
   rw [lit [10], S_app, S_app, List.append_assoc]
   exact ih
  by_cases hi0 : 0 < i
  ·exact ev_pos (by omega) fin
  ·exact ev_neg (by omega) (ev_pos (by omega) fin)
section
variable (s : Sty) (hs : DrawSt s) (its : List It) (hl : its.length ≤ 1000) (hi : ∀ it ∈ its, it.1 ≤ 80 ∧ it.2.length ≤ 200 ∧ Kn it.2) (fm : Int)
include hs hl hi
theorem lines_loop (n : Nat) (x : It) (hx : its[n]? = some x) (ls : List (List UInt8)) (hls : ls.length ≤ 1000) (h200 : ∀ l ∈ ls, l.length ≤ 1000) : ∀ (d k : Nat) (done : List ByteArray), k + d = ls.length → done.length ≤ k →
  Ev (fun q => spec_LtLines.l1 q (its.map toI) (n : Int) done (ls.map S) ((ls.map S).length : Int) (k : Int) fm (S s.single) (S s.top) (S s.first) (S s.middle) (S s.vert) (S s.bottom) (S s.newline) (S s.pre))
   (done ++ (linesD s (spacesF s) (hintF (prevAt its n) x (its.drop (n + 1))) (aheadF s (spacesF s) x (its.drop (n + 1))) k (ls.drop k)).map S)
 | 0, k, done, h, _ => by
  rw [List.drop_eq_nil_of_le (show ls.length ≤ k by omega)]
  refine Ev.step (fun q => spec_LtLines.l1.eq_2 _ _ _ _ _ _ _ _ _ _ _ _ _ _ _ q) (ev_neg (by rw [List.length_map]; omega) ?_)
  simpa [linesD] using Ev.now _
 | d + 1, k, done, h, hdn => by
  have hn := (List.getElem?_eq_some_iff.1 hx).1
  obtain ⟨l, hlk⟩ : ∃ l, ls[k]? = some l := ⟨_, List.getElem?_eq_getElem (by omega)⟩
  have hl2 := h200 l (List.mem_of_getElem? hlk)
  have hd : ls.drop k = l :: ls.drop (k + 1) := by rw [List.drop_eq_getElem_cons (by omega), (List.getElem?_eq_some_iff.1 hlk).2]
  have hrl : rdOf ByteArray.empty (ls.map S) (k : Int) = S l := rdOf_at (by rw [List.getElem?_map, hlk]; rfl)
  have hrd : rd_T43 (its.map toI) (n : Int) = toI x := rd_it (by rw [List.getElem?_map, hx]; rfl)
  have hah : (aheadF s (spacesF s) x (its.drop (n + 1))).length ≤ 1620 := by
   have := links_len hs.short.vert (spacesF_len hs.short) (its.drop (n + 1)) x.1 0
   have := hs.short.pre
   have := (hi x (List.mem_of_getElem? hx)).1
   unfold aheadF
   rw [List.length_append]
   omega
  have hmk := mark_len hs.short (hintF (prevAt its n) x (its.drop (n + 1))) k
  have ih := lines_loop n x hx ls hls h200 d (k + 1) (done ++ [S (aheadF s (spacesF s) x (its.drop (n + 1)) ++ (markF s (spacesF s) (hintF (prevAt its n) x (its.drop (n + 1))) k ++ l))]) (by omega) (by simp; omega)
  rw [hd, linesD]
  refine Ev.step (fun q => spec_LtLines.l1.eq_2 _ _ _ _ _ _ _ _ _ _ _ _ _ _ _ q) (ev_pos (by rw [List.length_map]; omega) (ev_pos (by omega) (ev_pos (by rw [List.length_map]; omega) ?_)))
  rw [hrl]
  by_cases h0 : k = 0
  ·have hb := bullet_f s its hl fm n x hx
   have hmk0 : markF s (spacesF s) (hintF (prevAt its n) x (its.drop (n + 1))) k = bulletF s (hintF (prevAt its n) x (its.drop (n + 1))) ++ [32] := by unfold markF; rw [if_pos h0]
   rw [hmk0] at ih hmk ⊢
   generalize bulletF s (hintF (prevAt its n) x (its.drop (n + 1))) = bu at *
   rw [List.length_append] at hmk
   simp only [List.length_cons, List.length_nil] at hmk
   refine ev_pos (by omega) (ev_bind (ahead_f s hs its hl hi fm n x hx) (ev_bind hb ?_))
   refine ev_pos (by rw [S_sz, S_sz]; omega) (ev_pos (by rw [S_app, S_sz, List.length_append]; omega) (ev_pos (by rw [lit [32], S_app, S_app, S_sz, S_sz]; simp only [List.length_append, List.length_cons, List.length_nil]; omega) (ev_pos (by omega) ?_)))
   rw [w1 k (by omega), lit [32], S_app, S_app, S_app]
   simpa using ih
  ·have hmk0 : markF s (spacesF s) (hintF (prevAt its n) x (its.drop (n + 1))) k = (if moreF x.1 (its.drop (n + 1)) then s.vert else spacesF s) := by
    unfold markF
    rw [if_neg h0]
    have e2 : (hintF (prevAt its n) x (its.drop (n + 1))).last = !moreF x.1 (its.drop (n + 1)) := rfl
    rw [e2]
    cases moreF x.1 (its.drop (n + 1)) <;> rfl
   rw [hmk0] at ih hmk ⊢
   refine ev_neg (by omega) (ev_bind (ahead_f s hs its hl hi fm n x hx) (ev_pos (by omega) (ev_pos (by rw [List.length_map]; omega) ?_)))
   rw [hrd]
   refine ev_bind (show Ev (fun q => spec_ltLink.f q (its.map toI) (n : Int) (toI x).f1 fm (S s.single) (S s.top) (S s.first) (S s.middle) (S s.vert) (S s.bottom) (S s.newline) (S s.pre)) _ from link_f s hs its hl fm n x.1 hn) ?_
   refine ev_pos (by rw [S_sz, S_sz]; omega) (ev_pos (by rw [S_app, S_sz, S_sz, List.length_append]; omega) (ev_pos (by omega) ?_))
   rw [w1 k (by omega), S_app, S_app]
   simpa using ih
theorem lines_f (n : Nat) (x : It) (hx : its[n]? = some x) : Ev (fun q => spec_LtLines.f q (its.map toI) (n : Int) fm (S s.single) (S s.top) (S s.first) (S s.middle) (S s.vert) (S s.bottom) (S s.newline) (S s.pre))
  ((linesD s (spacesF s) (hintF (prevAt its n) x (its.drop (n + 1))) (aheadF s (spacesF s) x (its.drop (n + 1))) 0 (splitN x.2)).map S) := by
 have hn := (List.getElem?_eq_some_iff.1 hx).1
 obtain ⟨x1, x2, x3⟩ := hi x (List.mem_of_getElem? hx)
 have hrd : rd_T43 (its.map toI) (n : Int) = toI x := rd_it (by rw [List.getElem?_map, hx]; rfl)
 have hsl := splitN_len x.2
 unfold spec_LtLines.f
 refine ev_pos (by omega) (ev_pos (by rw [List.length_map]; omega) ?_)
 rw [hrd]
 have ht : spec_TxLines.f (toI x).f0 = some ((splitN x.2).map S) := by
  unfold spec_TxLines.f
  rw [if_pos (by show (S x.2).size ≤ _; rw [S_sz]; omega), runes_eq]
  show some ((linesR [] (runesL (L (S x.2)))).map S) = _
  rw [L_S, lines_split x3]
 refine ev_some ht (ev_pos (by rw [toList_L, L_S]; exact hs.nl) (Ev.step (fun q => spec_LtLines.j1.eq_2 _ _ _ _ _ _ _ _ _ _ _ _ q) ?_))
 have := lines_loop s hs its hl hi fm n x hx (splitN x.2) (by omega) (fun l hl => by have := splitN_each x.2 l hl; omega) (splitN x.2).length 0 [] (by omega) (by simp)
 simpa using this
theorem drawn_loop : ∀ (d n : Nat) (acc : List UInt8), n + d = its.length → (acc ++ outF s (spacesF s) (prevAt its n) (its.drop n)).length ≤ 100000000000 → (n = 0 → acc = []) →
  Ev (fun q => spec_LtDrawn.l0 q (its.map toI) (S acc) ((its.map toI).length : Int) (n : Int) fm (S s.single) (S s.top) (S s.first) (S s.middle) (S s.vert) (S s.bottom) (S s.newline) (S s.pre)) (S (acc ++ outF s (spacesF s) (prevAt its n) (its.drop n)))
 | 0, n, acc, h, _, _ => by
  rw [List.drop_eq_nil_of_le (by omega), outF, List.append_nil]
  exact Ev.step (fun q => spec_LtDrawn.l0.eq_2 _ _ _ _ _ _ _ _ _ _ _ _ _ q) (ev_neg (by rw [List.length_map]; omega) (Ev.now _))
 | d + 1, n, acc, h, ha, h0 => by
  obtain ⟨x, hx⟩ : ∃ x, its[n]? = some x := ⟨_, List.getElem?_eq_getElem (by omega)⟩
  obtain ⟨x1, x2, x3⟩ := hi x (List.mem_of_getElem? hx)
  have hd : its.drop n = x :: its.drop (n + 1) := by rw [List.drop_eq_getElem_cons (by omega), (List.getElem?_eq_some_iff.1 hx).2]
  have hp : prevAt its (n + 1) = some x.1 := by simp [prevAt, hx]
  have htx : textF s x.2 = x.2 := by unfold textF; rw [if_pos hs.nl]
  have hsn := splitN_len x.2
  have hso : (prevAt its n).isSome = decide (0 < n) := by
   cases n with
   | zero => rfl
   | succ j =>
    obtain ⟨y, hy⟩ : ∃ y, its[j]? = some y := ⟨_, List.getElem?_eq_getElem (by omega)⟩
    simp [prevAt, hy]
  rw [hd, outF, ← List.append_assoc, ← hp] at ha ⊢
  have ih := drawn_loop d (n + 1) (acc ++ itemF s (spacesF s) (prevAt its n) x (its.drop (n + 1))) (by omega) ha (fun e => by omega)
  have hlf := lines_f s hs its hl hi fm n x hx
  have hit : itemF s (spacesF s) (prevAt its n) x (its.drop (n + 1)) = (if 0 < n then [10] else []) ++ linesF s (spacesF s) (hintF (prevAt its n) x (its.drop (n + 1))) (aheadF s (spacesF s) x (its.drop (n + 1))) 0 (splitN x.2) := by
   unfold itemF
   rw [hso, htx]
   simp
  rw [hit] at ih ha ⊢
  generalize hintF (prevAt its n) x (its.drop (n + 1)) = hn at *
  generalize aheadF s (spacesF s) x (its.drop (n + 1)) = ah at *
  refine Ev.step (fun q => spec_LtDrawn.l0.eq_2 _ _ _ _ _ _ _ _ _ _ _ _ _ q) (ev_pos (by rw [List.length_map]; omega) (ev_bind hlf ?_))
  have hdl := linesD_len s (spacesF s) hn ah (splitN x.2) 0
  by_cases hn0 : 0 < n
  ·rw [if_pos hn0] at ih ha ⊢
   have e : [10] ++ linesF s (spacesF s) hn ah 0 (splitN x.2) = (linesD s (spacesF s) hn ah 0 (splitN x.2)).flatMap fun y => 10 :: y := by
    cases hsp : splitN x.2 with
    | nil => exact absurd hsp (splitN_ne _)
    | cons l r =>
     rw [linesF, linesD, List.flatMap_cons, ← linesF_D s (spacesF s) hn ah r (0 + 1) (by omega), if_neg (by omega)]
     simp
   rw [e] at ih ha ⊢
   refine drawn_in s its fm n _ (linesD s (spacesF s) hn ah 0 (splitN x.2)) (by omega) (by omega) (linesD s (spacesF s) hn ah 0 (splitN x.2)).length 0 acc (by omega) ?_ (.inl hn0) ?_
   ·rw [List.length_append] at ha
    simpa using (by omega : (acc ++ (linesD s (spacesF s) hn ah 0 (splitN x.2)).flatMap fun y => 10 :: y).length ≤ 100000000000)
   ·exact ih
  ·have hz : n = 0 := by omega
   have hacc := h0 hz
   subst hacc
   rw [if_neg hn0, List.nil_append, List.nil_append] at ih ha ⊢
   cases hsp : splitN x.2 with
   | nil => exact absurd hsp (splitN_ne _)
   | cons l r =>
    rw [hsp] at ih ha hdl
    have e : linesF s (spacesF s) hn ah 0 (l :: r) = (ah ++ (markF s (spacesF s) hn 0 ++ l)) ++ (linesD s (spacesF s) hn ah (0 + 1) r).flatMap fun y => 10 :: y := by
     rw [linesF, ← linesF_D s (spacesF s) hn ah r (0 + 1) (by omega), if_neg (by omega)]
     simp
    rw [e] at ih ha ⊢
    rw [linesD] at hdl ⊢
    generalize hD : linesD s (spacesF s) hn ah (0 + 1) r = D at *
    generalize ah ++ (markF s (spacesF s) hn 0 ++ l) = f0 at *
    have hsz : f0.length ≤ 100000000000 := by
     simp only [List.length_append] at ha
     omega
    have hi2 := drawn_in s its fm n (S (f0 ++ (D.flatMap fun y => 10 :: y) ++ outF s (spacesF s) (prevAt its (n + 1)) (its.drop (n + 1)))) (f0 :: D) (by simp only [List.length_cons] at hdl ⊢; rw [hsp] at hsn; simp only [List.length_cons] at hsn; omega) (by omega) D.length 1 f0 (by simp only [List.length_cons]; omega) (by rw [List.length_append] at ha; simpa using (by omega : (f0 ++ D.flatMap fun y => 10 :: y).length ≤ 100000000000)) (.inr (by omega)) ih
    refine Ev.step (fun q => spec_LtDrawn.l1.eq_2 _ _ _ _ _ _ _ _ _ _ _ _ _ _ _ _ _ q) (ev_pos (by rw [List.length_map, List.length_cons]; omega) (ev_pos (by omega) (ev_pos (by rw [List.length_map, List.length_cons]; omega) (ev_neg (by omega) (ev_neg (by omega) (ev_pos ?_ ?_))))))
    ·rw [show rdOf ByteArray.empty ((f0 :: D).map S) 0 = S f0 from rfl, S_sz, S_sz]
     simp only [List.length_nil]
     omega
    ·rw [show rdOf ByteArray.empty ((f0 :: D).map S) 0 = S f0 from rfl, S_app, List.nil_append, show wrap64 (0 + 1) = ((1 : Nat) : Int) from w1 0 (by omega)]
     exact hi2
theorem drawn_f (hlen : (renderF s its).length ≤ 100000000000) : Ev (fun q => spec_LtDrawn.f q (its.map toI) fm (S s.single) (S s.top) (S s.first) (S s.middle) (S s.vert) (S s.bottom) (S s.newline) (S s.pre)) (S (renderF s its)) := by
 have h0 : renderF s its = [] ++ outF s (spacesF s) (prevAt its 0) (its.drop 0) := rfl
 rw [h0] at hlen ⊢
 exact drawn_loop s hs its hl hi fm its.length 0 [] (by omega) hlen (fun _ => rfl)
end
theorem dfl_draw : DrawSt dfl := ⟨dfl_short, rfl, 2, by decide, by unfold spec_TxWidth.f; rfl, by rfl⟩
end Go.Proofs.YtejjjenjnfaopaaGreatDoor.P

namespace Go.Proofs.YtejjjenjnfaopaaGreatDoor.P
open Go.RowKit Go.Proofs.YtejjjenjnfaopaaGreatDoorW.PrintWords Go.Proofs.YtejjjenjnfaopaaGreatDoorW.PrintLast Go.Proofs.YtejjjenjnfaopaaGreatDoorW.PrintMore
set_option linter.unusedVariables false
set_option linter.unusedSimpArgs false
set_option maxRecDepth 100000
set_option maxHeartbeats 2000000

theorem simple_no10 {t : List UInt8} (h : txSimple (S t) false = true) : ∀ b ∈ t, b ≠ 10 := by
 have hk : Kn t := by have := Kn.of_simple h; rwa [show (S t).data.toList = t from L_S t] at this
 have hr : ∀ r ∈ runesL t, r ≠ 10 := by
  intro r hr e
  have h2 : txSimpleL (runes (S t)) false = true := h
  rw [runes_eq, L_S] at h2
  have := List.all_eq_true.1 h2 r hr
  subst e
  exact absurd this (by decide)
 intro b hb
 rw [← hk.encs] at hb
 obtain ⟨r, hr1, hr2⟩ := List.mem_flatMap.1 hb
 exact enc_no10 (hk.vr r hr1) (hr r hr1) b hr2
theorem sty9_S (s : Sty) (h : s.name = []) (h0 : s.fmt = 0) : sty9 0 (S s.single) (S s.top) (S s.first) (S s.middle) (S s.vert) (S s.bottom) (S s.newline) (S s.pre) = s := by
 cases s
 simp only at h h0
 subst h h0
 simp only [sty9, L_S]
theorem named_draw (n : Nat) (hn : n < 11) : DrawSt (namedB n) := by
 refine ⟨(named_short n hn).2, (named_nl n hn).2, ?_⟩
 match n, hn with
 | 0, _ | 1, _ | 2, _ | 3, _ | 4, _ | 5, _ | 10, _ => exact ⟨2, by decide, by unfold spec_TxWidth.f; rfl, by rfl⟩
 | 6, _ | 7, _ | 8, _ | 9, _ => exact ⟨3, by decide, by unfold spec_TxWidth.f; rfl, by rfl⟩
set_option linter.unusedSectionVars false
section
variable (l0 : List Stp') (hl80 : l0.length ≤ 80) (hR : ∀ x ∈ l0, RightX x) (a : Int) (h0 : 0 ≤ a) (h1 : a ≤ 255) (hm : ∀ x t, itemsOf l0 = x :: t → moreF x.1 t = true)
include hl80 hR h0 h1 hm in
theorem named_end (hno : ∀ it ∈ itemsOf l0, ∀ b ∈ it.2, b ≠ 10) : Ev (fun k => (impl_ListNamed.f (wrap64 (Int.tmod a 11))).bind fun bt177 => ((impl_ListRender.f l0 bt177.1 bt177.2.1 bt177.2.2.1 bt177.2.2.2.1 bt177.2.2.2.2.1 bt177.2.2.2.2.2.1 bt177.2.2.2.2.2.2.1 bt177.2.2.2.2.2.2.2.1 bt177.2.2.2.2.2.2.2.2).bind fun t186 => ((spec_LtNamed.f (wrap64 (Int.tmod a 11))).bind fun bt187 => ((spec_LtDrawn.f k ((itemsOf l0).map toI) bt187.1 bt187.2.1 bt187.2.2.1 bt187.2.2.2.1 bt187.2.2.2.2.1 bt187.2.2.2.2.2.1 bt187.2.2.2.2.2.2.1 bt187.2.2.2.2.2.2.2.1 bt187.2.2.2.2.2.2.2.2).bind fun t196 => (some (t186.toList == t196.toList)))))) true := by
 obtain ⟨N, hN, e⟩ : ∃ N : Nat, N < 11 ∧ wrap64 (Int.tmod a 11) = (N : Int) := by
  refine ⟨(Int.tmod a 11).toNat, ?_, ?_⟩
  ·rw [Int.tmod_eq_emod_of_nonneg h0]; omega
  ·rw [Int.tmod_eq_emod_of_nonneg h0, wi _ (by omega) (by omega)]; omega
 rw [e]
 obtain ⟨i1, i2, i3⟩ := items_facts hl80 hR
 have hA := named_short N hN
 have hF := named_fmt N hN
 have eA : impl_ListNamed.f (N : Int) = some ((0 : Int), S (namedA N).single, S (namedA N).top, S (namedA N).first, S (namedA N).middle, S (namedA N).vert, S (namedA N).bottom, S (namedA N).newline, S (namedA N).pre) := by
  unfold impl_ListNamed.f
  rw [if_pos ⟨by omega, by omega⟩]
  simp only [Int.toNat_natCast]
 have eB : spec_LtNamed.f (N : Int) = some ((0 : Int), S (namedB N).single, S (namedB N).top, S (namedB N).first, S (namedB N).middle, S (namedB N).vert, S (namedB N).bottom, S (namedB N).newline, S (namedB N).pre) := by
  unfold spec_LtNamed.f
  rw [if_pos ⟨by omega, by omega⟩]
  simp only [Int.toNat_natCast]
 have hlen : (renderF (namedB N) (itemsOf l0)).length ≤ 100000000000 := by
  have := out_len hA.2 (itemsOf l0) none (fun it hit => ⟨by have := (i2 it hit).1; omega, (i2 it hit).2.1⟩)
  unfold renderF
  omega
 have eR : impl_ListRender.f l0 0 (S (namedA N).single) (S (namedA N).top) (S (namedA N).first) (S (namedA N).middle) (S (namedA N).vert) (S (namedA N).bottom) (S (namedA N).newline) (S (namedA N).pre) = some (S (renderF (namedA N) (itemsOf l0))) := by
  have h9 := sty9_S (namedA N) hF.2.2.1 hF.1
  unfold impl_ListRender.f
  rw [h9, if_pos ⟨by omega, fun x hx => shOk_of (hR x hx), hA.1, rfl⟩]
 have eD := drawn_f (namedB N) (named_draw N hN) (itemsOf l0) (by omega) i2 0 hlen
 rw [render_named N hN (itemsOf l0) hno hm] at eR
 refine ev_some eA (ev_some eR (ev_some eB (ev_bind eD ?_)))
 simp only [beq_self_eq_true]
 exact Ev.now _
include hl80 hR h0 h1 hm in
theorem named_loop : ∀ (d n : Nat), n + d = (itemsOf l0).length → (∀ it ∈ (itemsOf l0).take n, ∀ b ∈ it.2, b ≠ 10) → Ev (fun k => laws_FnListsNamed.l0 k l0 a ((itemsOf l0).map toI) ((itemsOf l0).map toI) (((itemsOf l0).map toI).length : Int) (n : Int)) true
 | 0, n, hn, hno => by
  refine Ev.step (fun k => laws_FnListsNamed.l0.eq_2 _ _ _ _ _ _ k) (ev_neg (by rw [List.length_map]; omega) ?_)
  rw [List.take_of_length_le (by omega)] at hno
  exact named_end l0 hl80 hR a h0 h1 hm hno
 | d + 1, n, hn, hno => by
  obtain ⟨i1, i2, i3⟩ := items_facts hl80 hR
  obtain ⟨x, hx⟩ : ∃ x, (itemsOf l0)[n]? = some x := ⟨_, List.getElem?_eq_getElem (by omega)⟩
  have hxm := List.mem_of_getElem? hx
  have hx2 : ((itemsOf l0).map toI)[n]? = some (toI x) := by rw [List.getElem?_map, hx]; rfl
  refine Ev.step (fun k => laws_FnListsNamed.l0.eq_2 _ _ _ _ _ _ k) (ev_pos (by rw [List.length_map]; omega) (ev_pos (by omega) (ev_pos (by rw [List.length_map]; omega) ?_)))
  rw [rd_it hx2]
  cases hs : txSimple (S x.2) false with
  | false => exact ev_some ((simple_f (toI x).f0 (by show (S x.2).size ≤ _; rw [S_sz]; have := (i2 x hxm).2.1; omega) false).trans (congrArg some hs)) (ev_neg (by simp) (Ev.now _))
  | true =>
   refine ev_some ((simple_f (toI x).f0 (by show (S x.2).size ≤ _; rw [S_sz]; have := (i2 x hxm).2.1; omega) false).trans (congrArg some hs)) (ev_pos rfl ?_)
   rw [w1 n (by omega)]
   refine named_loop d (n + 1) (by omega) (fun it hit b hb => ?_)
   rw [List.take_add_one, hx] at hit
   rcases List.mem_append.1 hit with h | h
   ·exact hno it h b hb
   ·simp only [Option.toList_some, List.mem_singleton] at h
    subst h
    exact simple_no10 hs b hb
end
theorem named_law (l0 : List Stp') (a1 : Int) (ha : (Lit.int .u8 a1).wf = true) (hm : (l0.map fun x => x.f1.size + (x.f2.map fun s => s.size + 1).sum + 1).sum + 1 ≤ 1048576) : ∃ k, laws_FnListsNamed.f k l0 a1 = some true := by
 have hr : 0 ≤ a1 ∧ a1 ≤ 255 := by
  have := ha
  simp [Lit.wf, IntKind.min, IntKind.max, IntKind.bits, IntKind.signed] at this
  omega
 apply Ev.rounds
 have hw := weight_bulk l0
 have hj0 : ∀ p, Ev (fun k => laws_FnListsNamed.j0 k l0 a1 p true) true := fun p => Ev.step (fun k => laws_FnListsNamed.j0.eq_2 _ _ _ _ k) (ev_pos rfl (Ev.now _))
 unfold laws_FnListsNamed.f
 obtain ⟨b, hb, hb2⟩ := fits11 l0
 refine ev_bind hb ?_
 cases b with
 | false => exact ev_neg (by simp) (Ev.now _)
 | true =>
  obtain ⟨hl, _⟩ := hb2 rfl
  obtain ⟨c, hc, hc2⟩ := right_f l0 hl
  refine ev_pos rfl (ev_bind (played_f l0 hl (by omega)) (ev_bind hc ?_))
  cases c with
  | false => exact ev_neg (by simp) (hj0 _)
  | true =>
   obtain ⟨hl80, hR⟩ := hc2 rfl
   obtain ⟨i1, i2, i3⟩ := items_facts hl80 hR
   refine ev_pos rfl ?_
   cases hz : itemsOf l0 with
   | nil => exact ev_pos (by simp) (hj0 _)
   | cons x t =>
    have hx2 : ((itemsOf l0).map toI)[0]? = some (toI x) := by rw [hz]; rfl
    rw [← hz]
    refine ev_neg (by rw [List.length_map, hz]; simp only [List.length_cons]; omega) (ev_pos (by rw [List.length_map, hz]; simp only [List.length_cons]; omega) ?_)
    have hmo := more_f (itemsOf l0) (by omega) x.1 0 (by rw [hz]; simp)
    have hrd := rd_it hx2
    have hd1 : (itemsOf l0).drop (0 + 1) = t := by rw [hz]; rfl
    rw [hd1] at hmo
    have hmo2 : Ev (fun k => spec_LsMore.f k ((itemsOf l0).map toI) 0 ((rd_T43 ((itemsOf l0).map toI) 0).f1)) (moreF x.1 t) := by
     have : (rd_T43 ((itemsOf l0).map toI) 0).f1 = (x.1 : Int) := by
      have := hrd
      rw [show ((0 : Nat) : Int) = 0 from rfl] at this
      rw [this]
      rfl
     rw [this]
     exact hmo
    refine ev_bind hmo2 ?_
    cases hmore : moreF x.1 t with
    | false => exact hj0 _
    | true =>
     refine Ev.step (fun k => laws_FnListsNamed.j0.eq_2 _ _ _ _ k) (ev_neg (by simp) ?_)
     exact named_loop l0 hl80 hR a1 hr.1 hr.2 (fun y s e => by rw [hz] at e; injection e with e1 e2; subst e1 e2; exact hmore) _ 0 (Nat.zero_add _) (fun it hit => by simp at hit)
end Go.Proofs.YtejjjenjnfaopaaGreatDoor.P
