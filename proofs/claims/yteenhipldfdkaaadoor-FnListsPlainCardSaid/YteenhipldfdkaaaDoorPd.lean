import Derived.Test.YteenhipldfdkaaaDoorPs
import Derived.Test.YteenhipldfdkaaaDoorPx4
namespace Go.Proofs.YteenhipldfdkaaaDoor.P
open Go.RowKit Go.Proofs.YteenhipldfdkaaaDoorW.PrintWords Go.Proofs.YteenhipldfdkaaaDoorW.PrintLast Go.Proofs.YteenhipldfdkaaaDoorW.PrintMore
set_option linter.unusedVariables false
set_option linter.unusedSimpArgs false
set_option maxRecDepth 100000
set_option maxHeartbeats 2000000

/-- an item's lines -/
def linesD (s : Sty) (sp : List UInt8) (h : Hint) (ah : List UInt8) : Nat → List (List UInt8) → List (List UInt8)
  | _, [] => []
  | k, l :: r => (ah ++ (markF s sp h k ++ l)) :: linesD s sp h ah (k + 1) r
theorem linesD_len (s : Sty) (sp : List UInt8) (h : Hint) (ah : List UInt8) : ∀ (ls : List (List UInt8)) (k : Nat), (linesD s sp h ah k ls).length = ls.length
  | [], _ => rfl
  | l :: r, k => by simp [linesD, linesD_len s sp h ah r]
theorem linesF_D (s : Sty) (sp : List UInt8) (h : Hint) (ah : List UInt8) : ∀ (ls : List (List UInt8)) (k : Nat), 0 < k → linesF s sp h ah k ls = (linesD s sp h ah k ls).flatMap fun x => 10 :: x
  | [], _, _ => rfl
  | l :: r, k, hk => by
    rw [linesF, linesD, List.flatMap_cons, ← linesF_D s sp h ah r (k + 1) (by omega), if_pos hk]
    simp
theorem drawn_in (s : Sty) (its : List It) (fm : Int) (i : Nat) (R : ByteArray) (ls : List (List UInt8)) (hls : ls.length ≤ 1000) (hn : i < 2147483647) : ∀ (d k : Nat) (acc : List UInt8), k + d = ls.length → (acc ++ (ls.drop k).flatMap fun x => 10 :: x).length ≤ 100000000000 → (0 < i ∨ 0 < k) →
    Ev (fun q => spec_LtDrawn.l0 q (its.map toI) (S (acc ++ (ls.drop k).flatMap fun x => 10 :: x)) ((its.map toI).length : Int) ((i + 1 : Nat) : Int) fm (S s.single) (S s.top) (S s.first) (S s.middle) (S s.vert) (S s.bottom) (S s.newline) (S s.pre)) R →
    Ev (fun q => spec_LtDrawn.l1 q (its.map toI) (S acc) (i : Int) ((its.map toI).length : Int) (i : Int) (ls.map S) ((ls.map S).length : Int) (k : Int) fm (S s.single) (S s.top) (S s.first) (S s.middle) (S s.vert) (S s.bottom) (S s.newline) (S s.pre)) R
  | 0, k, acc, h, ha, hik, hb => by
    rw [List.drop_eq_nil_of_le (by omega), List.flatMap_nil, List.append_nil] at hb
    refine Ev.step (fun q => spec_LtDrawn.l1.eq_2 _ _ _ _ _ _ _ _ _ _ _ _ _ _ _ _ _ q) (ev_neg (by rw [List.length_map]; omega) ?_)
    rw [w1 i (by omega)]
    exact hb
  | d + 1, k, acc, h, ha, hik, hb => by
    obtain ⟨l, hlk⟩ : ∃ l, ls[k]? = some l := ⟨_, List.getElem?_eq_getElem (by omega)⟩
    have hd : ls.drop k = l :: ls.drop (k + 1) := by rw [List.drop_eq_getElem_cons (by omega), (List.getElem?_eq_some_iff.1 hlk).2]
    have hrl : rdOf ByteArray.empty (ls.map S) (k : Int) = S l := rdOf_at (by rw [List.getElem?_map, hlk]; rfl)
    have e : acc ++ (ls.drop k).flatMap (fun x => 10 :: x) = (acc ++ ([10] ++ l)) ++ (ls.drop (k + 1)).flatMap (fun x => 10 :: x) := by rw [hd]; simp
    rw [e] at ha hb
    have hsz : acc.length + 1 + l.length ≤ 100000000000 := by
      simp only [List.length_append, List.length_cons, List.length_nil] at ha
      omega
    have ih := drawn_in s its fm i R ls hls hn d (k + 1) (acc ++ ([10] ++ l)) (by omega) ha (.inr (by omega)) hb
    refine Ev.step (fun q => spec_LtDrawn.l1.eq_2 _ _ _ _ _ _ _ _ _ _ _ _ _ _ _ _ _ q) (ev_pos (by rw [List.length_map]; omega) (ev_pos (by omega) (ev_pos (by rw [List.length_map]; omega) ?_)))
    rw [hrl, w1 k (by omega)]
    have fin : Ev (fun q => if (S acc).size + 1 ≤ 9223372036854775807 then (if (S acc ++ (⟨#[10]⟩ : ByteArray)).size + (S l).size ≤ 9223372036854775807 then spec_LtDrawn.l1 q (its.map toI) ((S acc ++ (⟨#[10]⟩ : ByteArray)) ++ S l) (i : Int) ((its.map toI).length : Int) (i : Int) (ls.map S) ((ls.map S).length : Int) ((k + 1 : Nat) : Int) fm (S s.single) (S s.top) (S s.first) (S s.middle) (S s.vert) (S s.bottom) (S s.newline) (S s.pre) else none) else none) R := by
      refine ev_pos (by rw [S_sz]; omega) (ev_pos (by rw [lit [10], S_app, S_sz, S_sz, List.length_append]; simp only [List.length_cons, List.length_nil]; omega) ?_)
      rw [lit [10], S_app, S_app, List.append_assoc]
      exact ih
    by_cases hi0 : 0 < i
    · exact ev_pos (by omega) fin
    · exact ev_neg (by omega) (ev_pos (by omega) fin)
section
variable (s : Sty) (hs : DrawSt s) (its : List It) (hl : its.length ≤ 1000) (hi : ∀ it ∈ its, it.1 ≤ 80 ∧ it.2.length ≤ 200 ∧ Kn it.2) (fm : Int)
include hs hl hi
theorem lines_loop (n : Nat) (x : It) (hx : its[n]? = some x) (ls : List (List UInt8)) (hls : ls.length ≤ 1000) (h200 : ∀ l ∈ ls, l.length ≤ 1000) : ∀ (d k : Nat) (done : List ByteArray), k + d = ls.length → done.length ≤ k →
    Ev (fun q => spec_LtLines.l1 q (its.map toI) (n : Int) done (ls.map S) ((ls.map S).length : Int) (k : Int) fm (S s.single) (S s.top) (S s.first) (S s.middle) (S s.vert) (S s.bottom) (S s.newline) (S s.pre))
      (done ++ (linesD s (spacesF s) (hintF (prevAt its n) x (its.drop (n + 1))) (aheadF s (spacesF s) x (its.drop (n + 1))) k (ls.drop k)).map S)
  | 0, k, done, h, _ => by
    rw [List.drop_eq_nil_of_le (show ls.length ≤ k by omega)]
    refine Ev.step (fun q => spec_LtLines.l1.eq_2 _ _ _ _ _ _ _ _ _ _ _ _ _ _ _ q) (ev_neg (by rw [List.length_map]; omega) ?_)
    simpa [linesD] using Ev.now _
  | d + 1, k, done, h, hdn => by
    have hn := (List.getElem?_eq_some_iff.1 hx).1
    obtain ⟨l, hlk⟩ : ∃ l, ls[k]? = some l := ⟨_, List.getElem?_eq_getElem (by omega)⟩
    have hl2 := h200 l (List.mem_of_getElem? hlk)
    have hd : ls.drop k = l :: ls.drop (k + 1) := by rw [List.drop_eq_getElem_cons (by omega), (List.getElem?_eq_some_iff.1 hlk).2]
    have hrl : rdOf ByteArray.empty (ls.map S) (k : Int) = S l := rdOf_at (by rw [List.getElem?_map, hlk]; rfl)
    have hrd : rd_T54 (its.map toI) (n : Int) = toI x := rd_it (by rw [List.getElem?_map, hx]; rfl)
    have hah : (aheadF s (spacesF s) x (its.drop (n + 1))).length ≤ 1620 := by
      have := links_len hs.short.vert (spacesF_len hs.short) (its.drop (n + 1)) x.1 0
      have := hs.short.pre
      have := (hi x (List.mem_of_getElem? hx)).1
      unfold aheadF
      rw [List.length_append]
      omega
    have hmk := mark_len hs.short (hintF (prevAt its n) x (its.drop (n + 1))) k
    have ih := lines_loop n x hx ls hls h200 d (k + 1) (done ++ [S (aheadF s (spacesF s) x (its.drop (n + 1)) ++ (markF s (spacesF s) (hintF (prevAt its n) x (its.drop (n + 1))) k ++ l))]) (by omega) (by simp; omega)
    rw [hd, linesD]
    refine Ev.step (fun q => spec_LtLines.l1.eq_2 _ _ _ _ _ _ _ _ _ _ _ _ _ _ _ q) (ev_pos (by rw [List.length_map]; omega) (ev_pos (by omega) (ev_pos (by rw [List.length_map]; omega) ?_)))
    rw [hrl]
    by_cases h0 : k = 0
    · have hb := bullet_f s its hl fm n x hx
      have hmk0 : markF s (spacesF s) (hintF (prevAt its n) x (its.drop (n + 1))) k = bulletF s (hintF (prevAt its n) x (its.drop (n + 1))) ++ [32] := by unfold markF; rw [if_pos h0]
      rw [hmk0] at ih hmk ⊢
      generalize bulletF s (hintF (prevAt its n) x (its.drop (n + 1))) = bu at *
      rw [List.length_append] at hmk
      simp only [List.length_cons, List.length_nil] at hmk
      refine ev_pos (by omega) (ev_bind (ahead_f s hs its hl hi fm n x hx) (ev_bind hb ?_))
      refine ev_pos (by rw [S_sz, S_sz]; omega) (ev_pos (by rw [S_app, S_sz, List.length_append]; omega) (ev_pos (by rw [lit [32], S_app, S_app, S_sz, S_sz]; simp only [List.length_append, List.length_cons, List.length_nil]; omega) (ev_pos (by omega) ?_)))
      rw [w1 k (by omega), lit [32], S_app, S_app, S_app]
      simpa using ih
    · have hmk0 : markF s (spacesF s) (hintF (prevAt its n) x (its.drop (n + 1))) k = (if moreF x.1 (its.drop (n + 1)) then s.vert else spacesF s) := by
        unfold markF
        rw [if_neg h0]
        have e2 : (hintF (prevAt its n) x (its.drop (n + 1))).last = !moreF x.1 (its.drop (n + 1)) := rfl
        rw [e2]
        cases moreF x.1 (its.drop (n + 1)) <;> rfl
      rw [hmk0] at ih hmk ⊢
      refine ev_neg (by omega) (ev_bind (ahead_f s hs its hl hi fm n x hx) (ev_pos (by omega) (ev_pos (by rw [List.length_map]; omega) ?_)))
      rw [hrd]
      refine ev_bind (show Ev (fun q => spec_ltLink.f q (its.map toI) (n : Int) (toI x).f1 fm (S s.single) (S s.top) (S s.first) (S s.middle) (S s.vert) (S s.bottom) (S s.newline) (S s.pre)) _ from link_f s hs its hl fm n x.1 hn) ?_
      refine ev_pos (by rw [S_sz, S_sz]; omega) (ev_pos (by rw [S_app, S_sz, S_sz, List.length_append]; omega) (ev_pos (by omega) ?_))
      rw [w1 k (by omega), S_app, S_app]
      simpa using ih
theorem lines_f (n : Nat) (x : It) (hx : its[n]? = some x) : Ev (fun q => spec_LtLines.f q (its.map toI) (n : Int) fm (S s.single) (S s.top) (S s.first) (S s.middle) (S s.vert) (S s.bottom) (S s.newline) (S s.pre))
    ((linesD s (spacesF s) (hintF (prevAt its n) x (its.drop (n + 1))) (aheadF s (spacesF s) x (its.drop (n + 1))) 0 (splitN x.2)).map S) := by
  have hn := (List.getElem?_eq_some_iff.1 hx).1
  obtain ⟨x1, x2, x3⟩ := hi x (List.mem_of_getElem? hx)
  have hrd : rd_T54 (its.map toI) (n : Int) = toI x := rd_it (by rw [List.getElem?_map, hx]; rfl)
  have hsl := splitN_len x.2
  unfold spec_LtLines.f
  refine ev_pos (by omega) (ev_pos (by rw [List.length_map]; omega) ?_)
  rw [hrd]
  have ht : spec_TxLines.f (toI x).f0 = some ((splitN x.2).map S) := by
    unfold spec_TxLines.f
    rw [if_pos (by show (S x.2).size ≤ _; rw [S_sz]; omega), runes_eq]
    show some ((linesR [] (runesL (L (S x.2)))).map S) = _
    rw [L_S, lines_split x3]
  refine ev_some ht (ev_pos (by rw [toList_L, L_S]; exact hs.nl) (Ev.step (fun q => spec_LtLines.j1.eq_2 _ _ _ _ _ _ _ _ _ _ _ _ q) ?_))
  have := lines_loop s hs its hl hi fm n x hx (splitN x.2) (by omega) (fun l hl => by have := splitN_each x.2 l hl; omega) (splitN x.2).length 0 [] (by omega) (by simp)
  simpa using this
theorem drawn_loop : ∀ (d n : Nat) (acc : List UInt8), n + d = its.length → (acc ++ outF s (spacesF s) (prevAt its n) (its.drop n)).length ≤ 100000000000 → (n = 0 → acc = []) →
    Ev (fun q => spec_LtDrawn.l0 q (its.map toI) (S acc) ((its.map toI).length : Int) (n : Int) fm (S s.single) (S s.top) (S s.first) (S s.middle) (S s.vert) (S s.bottom) (S s.newline) (S s.pre)) (S (acc ++ outF s (spacesF s) (prevAt its n) (its.drop n)))
  | 0, n, acc, h, _, _ => by
    rw [List.drop_eq_nil_of_le (by omega), outF, List.append_nil]
    exact Ev.step (fun q => spec_LtDrawn.l0.eq_2 _ _ _ _ _ _ _ _ _ _ _ _ _ q) (ev_neg (by rw [List.length_map]; omega) (Ev.now _))
  | d + 1, n, acc, h, ha, h0 => by
    obtain ⟨x, hx⟩ : ∃ x, its[n]? = some x := ⟨_, List.getElem?_eq_getElem (by omega)⟩
    obtain ⟨x1, x2, x3⟩ := hi x (List.mem_of_getElem? hx)
    have hd : its.drop n = x :: its.drop (n + 1) := by rw [List.drop_eq_getElem_cons (by omega), (List.getElem?_eq_some_iff.1 hx).2]
    have hp : prevAt its (n + 1) = some x.1 := by simp [prevAt, hx]
    have htx : textF s x.2 = x.2 := by unfold textF; rw [if_pos hs.nl]
    have hsn := splitN_len x.2
    have hso : (prevAt its n).isSome = decide (0 < n) := by
      cases n with
      | zero => rfl
      | succ j =>
        obtain ⟨y, hy⟩ : ∃ y, its[j]? = some y := ⟨_, List.getElem?_eq_getElem (by omega)⟩
        simp [prevAt, hy]
    rw [hd, outF, ← List.append_assoc, ← hp] at ha ⊢
    have ih := drawn_loop d (n + 1) (acc ++ itemF s (spacesF s) (prevAt its n) x (its.drop (n + 1))) (by omega) ha (fun e => by omega)
    have hlf := lines_f s hs its hl hi fm n x hx
    have hit : itemF s (spacesF s) (prevAt its n) x (its.drop (n + 1)) = (if 0 < n then [10] else []) ++ linesF s (spacesF s) (hintF (prevAt its n) x (its.drop (n + 1))) (aheadF s (spacesF s) x (its.drop (n + 1))) 0 (splitN x.2) := by
      unfold itemF
      rw [hso, htx]
      simp
    rw [hit] at ih ha ⊢
    generalize hintF (prevAt its n) x (its.drop (n + 1)) = hn at *
    generalize aheadF s (spacesF s) x (its.drop (n + 1)) = ah at *
    refine Ev.step (fun q => spec_LtDrawn.l0.eq_2 _ _ _ _ _ _ _ _ _ _ _ _ _ q) (ev_pos (by rw [List.length_map]; omega) (ev_bind hlf ?_))
    have hdl := linesD_len s (spacesF s) hn ah (splitN x.2) 0
    by_cases hn0 : 0 < n
    · rw [if_pos hn0] at ih ha ⊢
      have e : [10] ++ linesF s (spacesF s) hn ah 0 (splitN x.2) = (linesD s (spacesF s) hn ah 0 (splitN x.2)).flatMap fun y => 10 :: y := by
        cases hsp : splitN x.2 with
        | nil => exact absurd hsp (splitN_ne _)
        | cons l r =>
          rw [linesF, linesD, List.flatMap_cons, ← linesF_D s (spacesF s) hn ah r (0 + 1) (by omega), if_neg (by omega)]
          simp
      rw [e] at ih ha ⊢
      refine drawn_in s its fm n _ (linesD s (spacesF s) hn ah 0 (splitN x.2)) (by omega) (by omega) (linesD s (spacesF s) hn ah 0 (splitN x.2)).length 0 acc (by omega) ?_ (.inl hn0) ?_
      · rw [List.length_append] at ha
        simpa using (by omega : (acc ++ (linesD s (spacesF s) hn ah 0 (splitN x.2)).flatMap fun y => 10 :: y).length ≤ 100000000000)
      · exact ih
    · have hz : n = 0 := by omega
      have hacc := h0 hz
      subst hacc
      rw [if_neg hn0, List.nil_append, List.nil_append] at ih ha ⊢
      cases hsp : splitN x.2 with
      | nil => exact absurd hsp (splitN_ne _)
      | cons l r =>
        rw [hsp] at ih ha hdl
        have e : linesF s (spacesF s) hn ah 0 (l :: r) = (ah ++ (markF s (spacesF s) hn 0 ++ l)) ++ (linesD s (spacesF s) hn ah (0 + 1) r).flatMap fun y => 10 :: y := by
          rw [linesF, ← linesF_D s (spacesF s) hn ah r (0 + 1) (by omega), if_neg (by omega)]
          simp
        rw [e] at ih ha ⊢
        rw [linesD] at hdl ⊢
        generalize hD : linesD s (spacesF s) hn ah (0 + 1) r = D at *
        generalize ah ++ (markF s (spacesF s) hn 0 ++ l) = f0 at *
        have hsz : f0.length ≤ 100000000000 := by
          simp only [List.length_append] at ha
          omega
        have hi2 := drawn_in s its fm n (S (f0 ++ (D.flatMap fun y => 10 :: y) ++ outF s (spacesF s) (prevAt its (n + 1)) (its.drop (n + 1)))) (f0 :: D) (by simp only [List.length_cons] at hdl ⊢; rw [hsp] at hsn; simp only [List.length_cons] at hsn; omega) (by omega) D.length 1 f0 (by simp only [List.length_cons]; omega) (by rw [List.length_append] at ha; simpa using (by omega : (f0 ++ D.flatMap fun y => 10 :: y).length ≤ 100000000000)) (.inr (by omega)) ih
        refine Ev.step (fun q => spec_LtDrawn.l1.eq_2 _ _ _ _ _ _ _ _ _ _ _ _ _ _ _ _ _ q) (ev_pos (by rw [List.length_map, List.length_cons]; omega) (ev_pos (by omega) (ev_pos (by rw [List.length_map, List.length_cons]; omega) (ev_neg (by omega) (ev_neg (by omega) (ev_pos ?_ ?_))))))
        · rw [show rdOf ByteArray.empty ((f0 :: D).map S) 0 = S f0 from rfl, S_sz, S_sz]
          simp only [List.length_nil]
          omega
        · rw [show rdOf ByteArray.empty ((f0 :: D).map S) 0 = S f0 from rfl, S_app, List.nil_append, show wrap64 (0 + 1) = ((1 : Nat) : Int) from w1 0 (by omega)]
          exact hi2
theorem drawn_f (hlen : (renderF s its).length ≤ 100000000000) : Ev (fun q => spec_LtDrawn.f q (its.map toI) fm (S s.single) (S s.top) (S s.first) (S s.middle) (S s.vert) (S s.bottom) (S s.newline) (S s.pre)) (S (renderF s its)) := by
  have h0 : renderF s its = [] ++ outF s (spacesF s) (prevAt its 0) (its.drop 0) := rfl
  rw [h0] at hlen ⊢
  exact drawn_loop s hs its hl hi fm its.length 0 [] (by omega) hlen (fun _ => rfl)
end
theorem dfl_draw : DrawSt dfl := ⟨dfl_short, rfl, 2, by decide, by unfold spec_TxWidth.f; rfl, by rfl⟩
theorem listPlain_f {xs : List Stp'} (hl : xs.length ≤ 80) (h : ∀ x ∈ xs, RightX x) : impl_ListPlain.f xs = some (S (renderF dfl (itemsOf xs))) := by
  unfold impl_ListPlain.f
  rw [if_pos ⟨hl, fun x hx => shOk_of (h x hx)⟩]
theorem plain_law (l0 : List Stp') : ∃ k, laws_FnListsPlain.f k l0 = some true := by
  apply Ev.rounds
  unfold laws_FnListsPlain.f
  obtain ⟨b, hb, hb2⟩ := fits11 l0
  refine ev_bind hb ?_
  cases b with
  | false => exact ev_neg (by simp) (Ev.now _)
  | true =>
    obtain ⟨hl, _⟩ := hb2 rfl
    refine ev_pos rfl ?_
    obtain ⟨c, hc, hc2⟩ := right_f l0 hl
    refine ev_bind hc ?_
    cases c with
    | false => exact ev_neg (by simp) (Ev.now _)
    | true =>
      obtain ⟨hl80, hR⟩ := hc2 rfl
      obtain ⟨i1, i2, i3⟩ := items_facts hl80 hR
      refine ev_pos rfl (ev_some (listPlain_f hl80 hR) (ev_bind (played_f l0 hl (weight_right hl80 hR)) (ev_some rfl ?_)))
      have hlen : (renderF dfl (itemsOf l0)).length ≤ 100000000000 := by
        have := out_len dfl_short (itemsOf l0) none (fun it hit => ⟨(i2 it hit).1, (i2 it hit).2.1⟩)
        unfold renderF
        omega
      refine ev_bind (drawn_f dfl dfl_draw (itemsOf l0) (by omega) i2 0 hlen) (ev_pos rfl ?_)
      have h1 : ∀ x ∈ ([(⟨0, (⟨#[97]⟩ : ByteArray), ([] : List ByteArray)⟩ : Stp')] : List Stp'), RightX x := by
        intro x hx
        simp only [List.mem_singleton] at hx
        subst hx
        exact ⟨by decide, by decide, by decide, fun t ht => by cases ht⟩
      refine ev_some (listPlain_f (by decide) h1) ?_
      have h3 : ((S (renderF dfl (itemsOf ([(⟨0, (⟨#[97]⟩ : ByteArray), ([] : List ByteArray)⟩ : Stp')] : List Stp')))).toList == ([42, 32, 97] : List UInt8)) = true := by
        rw [toList_L, L_S]
        decide
      rw [h3]
      exact Ev.now _
end Go.Proofs.YteenhipldfdkaaaDoor.P
