import Derived.Test.YteenhipldfdkaaaDoorPg
import Derived.Test.YteenhipldfdkaaaDoorDf
import Derived.Test.YteenhipldfdkaaaDoorPx2
import Derived.Test.YteenhipldfdkaaaDoorPx3
import Derived.Test.YteenhipldfdkaaaDoorPx4
namespace Go.Proofs.YteenhipldfdkaaaDoor.P
open Go.RowKit Go.Proofs.YteenhipldfdkaaaDoorW.PrintWords Go.Proofs.YteenhipldfdkaaaDoorW.PrintLast Go.Proofs.YteenhipldfdkaaaDoorW.PrintMore
set_option linter.unusedVariables false
set_option linter.unusedSimpArgs false
set_option maxRecDepth 100000
set_option maxHeartbeats 2000000

/-! lines by runes and by bytes -/
theorem splitN_skip : ∀ (e r : List UInt8), (∀ b ∈ e, b ≠ 10) → ∀ h t, splitN r = h :: t → splitN (e ++ r) = (e ++ h) :: t
  | [], r, _, h, t, hr => hr
  | b :: e, r, he, h, t, hr => by
    have ih := splitN_skip e r (fun x hx => he x (by simp [hx])) h t hr
    rw [List.cons_append, splitN, if_neg (he b (by simp)), ih]
    rfl
theorem enc_no10 {r : Int} (hv : VR r) (h : r ≠ 10) : ∀ b ∈ Lib.encodeRune r, b ≠ 10 := fun b hb e => by
  subst e
  have := enc_small r hv 10 (by decide) hb
  exact h this
theorem linesR_split : ∀ (rs : List Int), (∀ r ∈ rs, VR r) → ∀ cur h t, splitN (encs rs) = h :: t → linesR cur rs = (cur ++ h) :: t
  | [], _, cur, h, t, e => by
    rw [encs_nil, splitN] at e
    injection e with e1 e2
    subst e1 e2
    simp [linesR]
  | r :: rs, hv, cur, h, t, e => by
    have hr := hv r (by simp)
    obtain ⟨h2, t2, e2⟩ : ∃ h2 t2, splitN (encs rs) = h2 :: t2 := by
      cases hs : splitN (encs rs) with
      | nil => exact absurd hs (splitN_ne _)
      | cons a b => exact ⟨a, b, rfl⟩
    rw [encs_cons] at e
    by_cases h10 : r = 10
    · have ih := linesR_split rs (fun x hx => hv x (by simp [hx])) [] h2 t2 e2
      subst h10
      have e10 : Lib.encodeRune 10 = [10] := by decide
      rw [e10, List.cons_append, List.nil_append, splitN, if_pos rfl, e2] at e
      injection e with e3 e4
      subst e3 e4
      rw [linesR, if_pos rfl, ih]
      simp
    · have ih := linesR_split rs (fun x hx => hv x (by simp [hx])) (cur ++ Lib.encodeRune r) h2 t2 e2
      rw [splitN_skip _ _ (enc_no10 hr h10) h2 t2 e2] at e
      injection e with e3 e4
      subst e3 e4
      rw [linesR, if_neg h10, ih]
      simp
theorem lines_split {l : List UInt8} (h : Kn l) : linesR [] (runesL l) = splitN l := by
  cases hs : splitN l with
  | nil => exact absurd hs (splitN_ne _)
  | cons a b =>
    have := linesR_split (runesL l) h.vr [] a b (by rw [h.encs]; exact hs)
    simpa using this

/-- a style that draws as the list's own does: new line as it is, blanks as wide as what connects -/
structure DrawSt (s : Sty) : Prop where
  short : ShortSt s
  nl : s.newline = [10]
  wide : ∃ n : Nat, n ≤ 1000 ∧ spec_TxWidth.f (S s.vert) = some (n : Int) ∧ Lib.repeatL [32] n = spacesF s

theorem more_loop (lev : Nat) (l : List It) (hl : l.length ≤ 1000) : ∀ (d j : Nat), j + d = l.length → Ev (fun k => spec_LsMore.l0 k (lev : Int) (l.map toI) ((l.map toI).length : Int) (j : Int)) (moreF lev (l.drop j))
  | 0, j, h => by
    rw [List.drop_eq_nil_of_le (by omega)]
    exact Ev.step (fun k => spec_LsMore.l0.eq_2 _ _ _ _ k) (ev_neg (by rw [List.length_map]; omega) (Ev.now _))
  | d + 1, j, h => by
    have ih := more_loop lev l hl d (j + 1) (by omega)
    obtain ⟨x, hx⟩ : ∃ x, l[j]? = some x := ⟨_, List.getElem?_eq_getElem (by omega)⟩
    have hd : l.drop j = x :: l.drop (j + 1) := by rw [List.drop_eq_getElem_cons (by omega), (List.getElem?_eq_some_iff.1 hx).2]
    have hrd : rd_T54 (l.map toI) (j : Int) = toI x := rd_it (by rw [List.getElem?_map, hx]; rfl)
    refine Ev.step (fun k => spec_LsMore.l0.eq_2 _ _ _ _ k) (ev_pos (by rw [List.length_map]; omega) (ev_pos (by omega) (ev_pos (by rw [List.length_map]; omega) ?_)))
    rw [hrd, hd, moreF]
    by_cases h1 : x.1 < lev
    · rw [if_pos h1]
      refine ev_pos (by simp only [toI]; omega) ?_
      rw [show ((toI x).f1 == (lev : Int)) = false by simp only [toI]; rw [beq_eq_false_iff_ne]; omega]
      exact Ev.now _
    · rw [if_neg h1]
      by_cases h2 : x.1 = lev
      · rw [if_pos h2]
        refine ev_pos (by simp only [toI]; omega) ?_
        rw [show ((toI x).f1 == (lev : Int)) = true by simp only [toI]; simp [h2]]
        exact Ev.now _
      · rw [if_neg h2]
        refine ev_neg (by simp only [toI]; omega) ?_
        rw [w1 j (by omega)]
        exact ih
theorem more_f (its : List It) (hl : its.length ≤ 1000) (lev n : Nat) (hn : n < its.length) : Ev (fun k => spec_LsMore.f k (its.map toI) (n : Int) (lev : Int)) (moreF lev (its.drop (n + 1))) := by
  unfold spec_LsMore.f
  rw [w1 n (by omega)]
  refine ev_pos (by omega) (ev_pos (by rw [List.length_map]; omega) (ev_some rfl ?_))
  rw [Int.toNat_natCast, ← List.map_drop]
  have := more_loop lev (its.drop (n + 1)) (by rw [List.length_drop]; omega) (its.drop (n + 1)).length 0 (by omega)
  exact this

section
variable (s : Sty) (hs : DrawSt s) (its : List It) (hl : its.length ≤ 1000) (hi : ∀ it ∈ its, it.1 ≤ 80 ∧ it.2.length ≤ 200 ∧ Kn it.2) (fm : Int)
include hs hl
theorem link_f (n lev : Nat) (hn : n < its.length) : Ev (fun k => spec_ltLink.f k (its.map toI) (n : Int) (lev : Int) fm (S s.single) (S s.top) (S s.first) (S s.middle) (S s.vert) (S s.bottom) (S s.newline) (S s.pre)) (S (if moreF lev (its.drop (n + 1)) then s.vert else spacesF s)) := by
  unfold spec_ltLink.f
  refine ev_bind (more_f its hl lev n hn) ?_
  cases moreF lev (its.drop (n + 1)) with
  | true => exact ev_pos rfl (Ev.now _)
  | false =>
    obtain ⟨m, h1, h2, h3⟩ := hs.wide
    refine ev_neg (by simp) (ev_some h2 (ev_some (a := S (spacesF s)) ?_ (Ev.now _)))
    unfold spec_TxTimes.f
    rw [if_pos ⟨by decide, by omega, by omega⟩, Int.toNat_natCast, ← h3]
    rfl
theorem ahead_loop (n lev : Nat) (hn : n < its.length) : ∀ (d l : Nat) (acc : List UInt8), l + d = lev → lev ≤ 1000 → acc.length + 20 * d ≤ 1000000 →
    Ev (fun k => spec_LtAhead.l0 k (its.map toI) (n : Int) (S acc) (lev : Int) (l : Int) fm (S s.single) (S s.top) (S s.first) (S s.middle) (S s.vert) (S s.bottom) (S s.newline) (S s.pre)) (S (acc ++ linksF s.vert (spacesF s) (its.drop (n + 1)) l d))
  | 0, l, acc, h, _, _ => by
    rw [linksF, List.append_nil]
    exact Ev.step (fun k => spec_LtAhead.l0.eq_2 _ _ _ _ _ _ _ _ _ _ _ _ _ _ k) (ev_neg (by omega) (Ev.now _))
  | d + 1, l, acc, h, hlev, ha => by
    have h20 : (if moreF l (its.drop (n + 1)) then s.vert else spacesF s).length ≤ 20 := by
      have := spacesF_len hs.short
      have := hs.short.vert
      split <;> omega
    have ih := ahead_loop n lev hn d (l + 1) (acc ++ (if moreF l (its.drop (n + 1)) then s.vert else spacesF s)) (by omega) hlev (by rw [List.length_append]; omega)
    refine Ev.step (fun k => spec_LtAhead.l0.eq_2 _ _ _ _ _ _ _ _ _ _ _ _ _ _ k) (ev_pos (by omega) (ev_bind (link_f s hs its hl fm n l hn) (ev_pos (by rw [S_sz, S_sz]; omega) ?_)))
    rw [S_app, w1 l (by omega), linksF, ← List.append_assoc]
    exact ih
include hi
theorem ahead_f (n : Nat) (x : It) (hx : its[n]? = some x) : Ev (fun k => spec_LtAhead.f k (its.map toI) (n : Int) fm (S s.single) (S s.top) (S s.first) (S s.middle) (S s.vert) (S s.bottom) (S s.newline) (S s.pre)) (S (aheadF s (spacesF s) x (its.drop (n + 1)))) := by
  have hn := (List.getElem?_eq_some_iff.1 hx).1
  have hx1 := (hi x (List.mem_of_getElem? hx)).1
  have hp := hs.short.pre
  have hrd : rd_T54 (its.map toI) (n : Int) = toI x := rd_it (by rw [List.getElem?_map, hx]; rfl)
  unfold spec_LtAhead.f
  refine ev_pos (by omega) (ev_pos (by rw [List.length_map]; omega) ?_)
  rw [hrd]
  exact ahead_loop s hs its hl fm n x.1 hn x.1 0 s.pre (by omega) (by omega) (by omega)
end
theorem first_f (its : List It) (hl : its.length ≤ 1000) (n : Nat) (x : It) (hx : its[n]? = some x) : spec_LsFirst.f (its.map toI) (n : Int) = some (hintF (prevAt its n) x (its.drop (n + 1))).first := by
  have hn := (List.getElem?_eq_some_iff.1 hx).1
  unfold spec_LsFirst.f
  cases n with
  | zero => rw [if_pos (show ((0 : Nat) : Int) = 0 from rfl)]; rfl
  | succ j =>
    obtain ⟨y, hy⟩ : ∃ y, its[j]? = some y := ⟨_, List.getElem?_eq_getElem (by omega)⟩
    have hp : prevAt its (j + 1) = some y.1 := by simp [prevAt, hy]
    have e : wrap64 (((j + 1 : Nat) : Int) - 1) = (j : Int) := by rw [wi _ (by omega) (by omega)]; omega
    have r1 : rd_T54 (its.map toI) (j : Int) = toI y := rd_it (by rw [List.getElem?_map, hy]; rfl)
    have r2 : rd_T54 (its.map toI) ((j + 1 : Nat) : Int) = toI x := rd_it (by rw [List.getElem?_map, hx]; rfl)
    rw [if_neg (by omega), e, if_pos (by omega), if_pos (by rw [List.length_map]; omega), if_pos (by omega), if_pos (by rw [List.length_map]; omega), r1, r2]
    unfold hintF
    rw [hp]
    simp [toI]
theorem bullet_f (s : Sty) (its : List It) (hl : its.length ≤ 1000) (fm : Int) (n : Nat) (x : It) (hx : its[n]? = some x) : Ev (fun k => spec_LtBullet.f k (its.map toI) (n : Int) fm (S s.single) (S s.top) (S s.first) (S s.middle) (S s.vert) (S s.bottom) (S s.newline) (S s.pre)) (S (bulletF s (hintF (prevAt its n) x (its.drop (n + 1))))) := by
  have hn := (List.getElem?_eq_some_iff.1 hx).1
  have hrd : rd_T54 (its.map toI) (n : Int) = toI x := rd_it (by rw [List.getElem?_map, hx]; rfl)
  have hf := first_f its hl n x hx
  have hm := more_f its hl x.1 n hn
  have hbot : moreF x.1 (its.drop (n + 1)) = true → (its.drop (n + 1)).isEmpty = false := by
    intro h
    cases hd : its.drop (n + 1) with
    | nil => rw [hd] at h; cases h
    | cons a b => rfl
  have htop : (hintF (prevAt its n) x (its.drop (n + 1))).top = decide (n = 0) := by
    unfold hintF
    cases n with
    | zero => rfl
    | succ j =>
      obtain ⟨y, hy⟩ : ∃ y, its[j]? = some y := ⟨_, List.getElem?_eq_getElem (by omega)⟩
      simp [prevAt, hy]
  have hf0 : n = 0 → (hintF (prevAt its n) x (its.drop (n + 1))).first = true := fun e => by subst e; rfl
  unfold spec_LtBullet.f
  refine ev_pos (by omega) (ev_pos (by rw [List.length_map]; omega) ?_)
  rw [hrd]
  refine ev_bind (show Ev (fun k => spec_LsMore.f k (its.map toI) (n : Int) (toI x).f1) _ from hm) (ev_some hf ?_)
  have hB : bulletF s (hintF (prevAt its n) x (its.drop (n + 1))) = (if (hintF (prevAt its n) x (its.drop (n + 1))).first && !moreF x.1 (its.drop (n + 1)) then (if n = 0 then s.single else s.bottom) else if n = 0 then s.top else if (hintF (prevAt its n) x (its.drop (n + 1))).first then s.first else if (its.drop (n + 1)).isEmpty then s.bottom else if !moreF x.1 (its.drop (n + 1)) then s.bottom else s.middle) := by
    unfold bulletF
    rw [htop]
    have e1 : (hintF (prevAt its n) x (its.drop (n + 1))).only = ((hintF (prevAt its n) x (its.drop (n + 1))).first && !moreF x.1 (its.drop (n + 1))) := rfl
    have e2 : (hintF (prevAt its n) x (its.drop (n + 1))).last = !moreF x.1 (its.drop (n + 1)) := rfl
    have e3 : (hintF (prevAt its n) x (its.drop (n + 1))).bottom = (its.drop (n + 1)).isEmpty := rfl
    rw [e1, e2, e3]
    simp only [decide_eq_true_eq]
  rw [hB]
  generalize (hintF (prevAt its n) x (its.drop (n + 1))).first = fi at *
  generalize moreF x.1 (its.drop (n + 1)) = mo at *
  generalize (its.drop (n + 1)).isEmpty = bo at *
  have st : ∀ (b1 b2 b3 : Bool) (R : List UInt8), (if b3 = true then (some (S s.single) : Option ByteArray) else (if (n : Int) = 0 then (some (S s.top)) else (if b1 = true then (if b2 = true then (some (S s.first)) else (some (S s.middle))) else (some (S s.bottom))))) = some (S R) →
      Ev (fun k => spec_LtBullet.j0 k (n : Int) b1 b2 b3 fm (S s.single) (S s.top) (S s.first) (S s.middle) (S s.vert) (S s.bottom) (S s.newline) (S s.pre)) (S R) := fun b1 b2 b3 R h =>
    Ev.step (fun k => spec_LtBullet.j0.eq_2 _ _ _ _ _ _ _ _ _ _ _ _ _ k) (ev_const h)
  by_cases h0 : n = 0
  · have hfi := hf0 h0
    subst hfi h0
    cases mo with
    | true => exact ev_pos rfl (ev_pos rfl (st _ _ _ _ (by simp)))
    | false => exact ev_pos rfl (ev_neg (by simp) (st _ _ _ _ (by simp)))
  · have hn0 : (n : Int) ≠ 0 := by omega
    have hnb : ((n : Int) == 0) = false := by simpa using hn0
    cases fi with
    | true =>
      cases mo with
      | true => exact ev_pos rfl (ev_pos rfl (st _ _ _ _ (by simp [h0])))
      | false => exact ev_pos rfl (ev_neg (by simp) (st _ _ _ _ (by simp [h0])))
    | false =>
      refine ev_neg (by simp) (st _ _ _ _ ?_)
      cases mo with
      | true =>
        have := hbot rfl
        subst this
        simp [h0]
      | false => simp [h0]
end Go.Proofs.YteenhipldfdkaaaDoor.P
