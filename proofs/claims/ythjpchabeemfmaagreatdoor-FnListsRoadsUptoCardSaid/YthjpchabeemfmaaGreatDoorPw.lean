import Derived.Test.YthjpchabeemfmaaGreatDoorPm
import Derived.Test.YthjpchabeemfmaaGreatDoorLo
import Derived.Test.YthjpchabeemfmaaGreatDoorPx5
namespace Go.Proofs.YthjpchabeemfmaaGreatDoor.P
open Go.RowKit Go.Proofs.YthjpchabeemfmaaGreatDoorW.PrintWords Go.Proofs.YthjpchabeemfmaaGreatDoorW.PrintLast Go.Proofs.YthjpchabeemfmaaGreatDoorW.PrintMore
set_option linter.unusedVariables false
set_option linter.unusedSimpArgs false
set_option maxRecDepth 100000
set_option maxHeartbeats 2000000

theorem S_ext (l : List UInt8) (a b : Nat) : (S l).extract a b = S ((l.drop a).take (b - a)) := S_extract l a b
/-- a line whose class is struck -/
def mark (x : HLn) : List UInt8 := x.text [42]
def rest (C : List UInt8) (x : HLn) : List UInt8 := (if x.ul then ulHead ++ C else []) ++ x.tail
theorem text_rest (C : List UInt8) (x : HLn) : x.text C = pad2 x.pad ++ rest C x := rfl
def HOk (x : HLn) : Prop := x.ul = true ∨ ∃ c t, x.tail = 60 :: c :: t ∧ c ≠ 117
theorem rest_head (C : List UInt8) {x : HLn} (h : HOk x) : ∃ t, rest C x = 60 :: t := by
  unfold rest
  cases hu : x.ul with
  | true => exact ⟨[117, 108, 32, 99, 108, 97, 115, 115, 61, 34] ++ C ++ x.tail, by simp [ulHead]⟩
  | false =>
    rcases h with h | ⟨c, t, h, _⟩
    · rw [hu] at h; cases h
    · exact ⟨c :: t, by simp [h]⟩
theorem begins_ul (C : List UInt8) (x : HLn) (hx : HOk x) (h1 : C.length ≤ 1000) (h2 : x.tail.length ≤ 100000) : spec_LsBegins.f (S (rest C x)) (S (ulHead ++ C)) = some (if x.ul then (S x.tail, true) else (S (rest C x), false)) := by
  have hr : (rest C x).length ≤ 200000 := by
    unfold rest
    split
    · simp only [List.length_append, ulHead, List.length_cons, List.length_nil]; omega
    · simp only [List.nil_append]; omega
  unfold spec_LsBegins.f
  rw [if_pos ⟨by rw [S_sz]; omega, by rw [S_sz, List.length_append]; have : ulHead.length = 11 := rfl; omega⟩, L_S, L_S]
  cases hu : x.ul with
  | true =>
    have e : rest C x = (ulHead ++ C) ++ x.tail := by unfold rest; rw [hu]; simp
    rw [e, List.take_left, List.drop_left, if_pos rfl]
    rfl
  | false =>
    rcases hx with h | ⟨c, t, h, hc⟩
    · rw [hu] at h; cases h
    · have e : rest C x = 60 :: c :: t := by unfold rest; rw [hu, h]; rfl
      rw [e, if_neg]
      · rfl
      · intro e2
        have e3 : (ulHead ++ C).length = (9 + C.length) + 2 := by simp [ulHead]; omega
        rw [e3] at e2
        simp only [List.take_succ_cons, ulHead, List.cons_append, List.cons.injEq] at e2
        exact hc e2.2.1
theorem mark_eq (x : HLn) : mark x = if x.ul then pad2 x.pad ++ ([60, 117, 108, 32, 99, 108, 97, 115, 115, 61, 34, 42] ++ x.tail) else pad2 x.pad ++ x.tail := by
  unfold mark HLn.text
  cases x.ul <;> simp [ulHead]
theorem pad_get (n m : Nat) (r : List UInt8) (h : m < 2 * n) : (pad2 n ++ r)[m]? = some 32 := by
  rw [List.getElem?_append_left (by rw [pad2_len]; exact h)]
  obtain ⟨b, hb⟩ : ∃ b, (pad2 n)[m]? = some b := ⟨_, List.getElem?_eq_getElem (by rw [pad2_len]; exact h)⟩
  rw [hb, pad2_mem b (List.mem_of_getElem? hb)]
theorem rd_itm {its : List It} {n : Nat} {x : It} (h : its[n]? = some x) : rd_T42 (its.map toI) (n : Int) = toI x := rd_it (by rw [List.getElem?_map, h]; rfl)
theorem names_loop (its : List It) (hl : its.length ≤ 2147483647) (hs : ∀ it ∈ its, it.2.length ≤ 2147483647) : ∀ (d n : Nat), n + d = its.length → ∃ b, Ev (fun k => spec_LsNames.l0 k (its.map toI) ((its.map toI).length : Int) (n : Int)) b ∧ (b = true → ∀ it ∈ its.drop n, NameT (S it.2))
  | 0, n, h => ⟨true, Ev.step (fun k => spec_LsNames.l0.eq_2 _ _ _ k) (ev_neg (by rw [List.length_map]; omega) (Ev.now _)), fun _ it hit => by rw [List.drop_eq_nil_of_le (by omega)] at hit; cases hit⟩
  | d + 1, n, h => by
    obtain ⟨b, hb, hb2⟩ := names_loop its hl hs d (n + 1) (by omega)
    obtain ⟨x, hx⟩ : ∃ x, its[n]? = some x := ⟨_, List.getElem?_eq_getElem (by omega)⟩
    have hd : its.drop n = x :: its.drop (n + 1) := by rw [List.drop_eq_getElem_cons (by omega), (List.getElem?_eq_some_iff.1 hx).2]
    obtain ⟨c, hc, hc2⟩ := name_f (S x.2) (by rw [S_sz]; exact hs x (List.mem_of_getElem? hx))
    cases c with
    | true =>
      refine ⟨b, Ev.step (fun k => spec_LsNames.l0.eq_2 _ _ _ k) (ev_pos (by rw [List.length_map]; omega) (ev_pos (by omega) (ev_pos (by rw [List.length_map]; omega) ?_))), fun h it hit => ?_⟩
      · rw [rd_itm hx, w1 n (by omega)]
        exact ev_bind hc (ev_pos rfl hb)
      · rw [hd] at hit
        rcases List.mem_cons.1 hit with rfl | hit
        · exact hc2 rfl
        · exact hb2 h it hit
    | false =>
      refine ⟨false, Ev.step (fun k => spec_LsNames.l0.eq_2 _ _ _ k) (ev_pos (by rw [List.length_map]; omega) (ev_pos (by omega) (ev_pos (by rw [List.length_map]; omega) ?_))), fun h => by cases h⟩
      rw [rd_itm hx]
      exact ev_bind hc (ev_neg (by simp) (Ev.now _))
theorem names_f (its : List It) (hl : its.length ≤ 2147483647) (hs : ∀ it ∈ its, it.2.length ≤ 2147483647) : ∃ b, Ev (fun k => spec_LsNames.f k (its.map toI)) b ∧ (b = true → ∀ it ∈ its, ∀ c ∈ it.2, nameB c) := by
  obtain ⟨b, hb, h2⟩ := names_loop its hl hs its.length 0 (by omega)
  refine ⟨b, hb, fun h it hit c hc => ?_⟩
  have := (h2 h it (by simpa using hit)).1 c (by rw [L_S]; exact hc)
  exact this

/-! the lines of a list of HTML of names -/
theorem opensL_get : ∀ (n a : Nat), ∀ x ∈ opensL a n, ∃ l, l < a + n ∧ x = oLn l
  | 0, a, x, h => by cases h
  | n + 1, a, x, h => by
    rw [opensL, List.mem_cons] at h
    rcases h with rfl | h
    · exact ⟨a, by omega, rfl⟩
    · obtain ⟨l, h1, h2⟩ := opensL_get n (a + 1) x h
      exact ⟨l, by omega, h2⟩
theorem closesL_get : ∀ (n a : Nat), ∀ x ∈ closesL a n, ∃ l, l ≤ a ∧ x = cLn l
  | 0, a, x, h => by cases h
  | n + 1, a, x, h => by
    rw [closesL, List.mem_cons] at h
    rcases h with rfl | h
    · exact ⟨a, by omega, rfl⟩
    · obtain ⟨l, h1, h2⟩ := closesL_get n (a - 1) x h
      exact ⟨l, by omega, h2⟩
/-- each line opens a list, closes one, or holds an item -/
theorem linL_get : ∀ (l : List It) (lev : Nat), lev ≤ 100 → (∀ it ∈ l, it.1 ≤ 100) → ∀ x ∈ linL lev l, (∃ n, n ≤ 100 ∧ x = oLn n) ∨ (∃ n, n ≤ 100 ∧ x = cLn n) ∨ ∃ it ∈ l, x = iLn it.1 it.2
  | [], lev, hlev, _, x, h => by
    rw [linL, List.mem_append, List.mem_singleton] at h
    rcases h with h | h
    · obtain ⟨n, h1, h2⟩ := closesL_get _ _ x h
      exact .inr (.inl ⟨n, by omega, h2⟩)
    · exact .inr (.inl ⟨0, by omega, h⟩)
  | y :: t, lev, hlev, hit, x, h => by
    have hy := hit y (by simp)
    rw [linL, List.mem_append, List.mem_append, List.mem_cons] at h
    rcases h with h | h | h | h
    · obtain ⟨n, h1, h2⟩ := opensL_get _ _ x h
      exact .inl ⟨n, by omega, h2⟩
    · obtain ⟨n, h1, h2⟩ := closesL_get _ _ x h
      exact .inr (.inl ⟨n, by omega, h2⟩)
    · exact .inr (.inr ⟨y, by simp, h⟩)
    · rcases linL_get t y.1 hy (fun it h => hit it (by simp [h])) x h with h | h | ⟨it, h1, h2⟩
      · exact .inl h
      · exact .inr (.inl h)
      · exact .inr (.inr ⟨it, by simp [h1], h2⟩)
theorem linL_len : ∀ (l : List It) (lev : Nat), lev ≤ 100 → (∀ it ∈ l, it.1 ≤ 100) → l.length + 1 ≤ (linL lev l).length ∧ (linL lev l).length ≤ 202 * (l.length + 1)
  | [], lev, hlev, _ => by
    have : ∀ n a, (closesL a n).length = n := by
      intro n
      induction n with
      | zero => intro a; rfl
      | succ n ih => intro a; simp [closesL, ih]
    simp only [linL, List.length_append, this, List.length_cons, List.length_nil]
    omega
  | y :: t, lev, hlev, hit => by
    have hc : ∀ n a, (closesL a n).length = n := by
      intro n
      induction n with
      | zero => intro a; rfl
      | succ n ih => intro a; simp [closesL, ih]
    have ho : ∀ n a, (opensL a n).length = n := by
      intro n
      induction n with
      | zero => intro a; rfl
      | succ n ih => intro a; simp [opensL, ih]
    have hy := hit y (by simp)
    obtain ⟨h1, h2⟩ := linL_len t y.1 hy (fun it h => hit it (by simp [h]))
    simp only [linL, List.length_append, hc, ho, List.length_cons]
    omega
theorem linL_ok (l : List It) (hit : ∀ it ∈ l, it.1 ≤ 100 ∧ it.2.length ≤ 1000) : ∀ x ∈ topL :: linL 0 l, HOk x ∧ x.tail.length ≤ 100000 ∧ x.pad ≤ 1000 := by
  intro x hx
  rcases List.mem_cons.1 hx with rfl | hx
  · exact ⟨.inl rfl, by decide, by decide⟩
  · rcases linL_get l 0 (by omega) (fun it h => (hit it h).1) x hx with ⟨n, h1, rfl⟩ | ⟨n, h1, rfl⟩ | ⟨it, h1, rfl⟩
    · refine ⟨.inl rfl, ?_, by simp [oLn]; omega⟩
      have := decDigits_len (n + 1) (by omega)
      simp only [oLn, List.length_cons, List.length_append, List.length_nil]
      omega
    · exact ⟨.inr ⟨47, _, rfl, by decide⟩, by simp [cLn], by simp [cLn]; omega⟩
    · obtain ⟨a1, a2⟩ := hit it h1
      refine ⟨.inr ⟨108, _, rfl, by decide⟩, ?_, by simp [iLn]; omega⟩
      simp only [iLn, List.length_cons, List.length_append, List.length_nil]
      omega

theorem stShort_of {x : Stp'} (h : RightX x) : StSh (st0 x) := by
  obtain ⟨h1, h2, h3, h4⟩ := h
  refine ⟨by show (L x.f1).length ≤ 200; rw [L_len]; exact h1, (kn_of h2).clean, by show (x.f2.map L).length ≤ 10; rw [List.length_map]; exact h3, fun t ht => ?_⟩
  obtain ⟨u, hu, rfl⟩ := List.mem_map.1 (show t ∈ x.f2.map L from ht)
  exact ⟨by rw [L_len]; exact (h4 u hu).1, (kn_of (h4 u hu).2).clean⟩
theorem html_size {xs : List Stp'} (hl : xs.length ≤ 80) (h : ∀ x ∈ xs, RightX x) (c : List UInt8) (hc : c.length ≤ 1000) : (htmlOf c (itemsOf xs)).length ≤ 100000000 := by
  have := (html_short (xs.map st0) c (by rw [List.length_map]; omega) (fun p hp => by obtain ⟨x, hx, rfl⟩ := List.mem_map.1 hp; exact stShort_of (h x hx)) hc).2.2
  rw [List.length_map] at this
  exact this
def lns (C : List UInt8) (l : List HLn) : List ByteArray := l.map fun x => S (x.text C)
theorem lines_html {xs : List Stp'} (hl : xs.length ≤ 80) (h : ∀ x ∈ xs, RightX x) (hn : ∀ it ∈ itemsOf xs, ∀ b ∈ it.2, nameB b) (h0 : itemsOf xs ≠ []) (C : List UInt8) (hC : ∀ b ∈ C, lineB b) (hesc : escH C = C) (hc : C.length ≤ 60) :
    spec_TxLines.f (S (htmlOf C (itemsOf xs))) = some (lns C (topL :: linL 0 (itemsOf xs))) := by
  have hsz := html_size hl h C (by omega)
  obtain ⟨i1, i2, i3⟩ := items_facts hl h
  unfold spec_TxLines.f
  rw [if_pos (by rw [S_sz]; omega), runes_eq, L_S]
  have e : htmlOf C (itemsOf xs) = topL.text C ++ nl C (linL 0 (itemsOf xs)) := by
    generalize itemsOf xs = its at *
    cases its with
    | nil => exact absurd rfl h0
    | cons x t =>
      rw [html_linL C hesc x t i3, nameB_htI hn]
  rw [e, html_lines_of C hC _ (tails_lin _ 0 hn)]
  unfold lns
  rw [List.map_map]
  rfl

theorem lns_get {C : List UInt8} {l : List HLn} {n : Nat} {x : HLn} (h : l[n]? = some x) : rdOf ByteArray.empty (lns C l) (n : Int) = S (x.text C) := rdOf_at (by unfold lns; rw [List.getElem?_map, h]; rfl)
theorem lns_len (C : List UInt8) (l : List HLn) : (lns C l).length = l.length := by unfold lns; rw [List.length_map]
theorem item_size {xs : List Stp'} (m : Nat) (h : ∀ x ∈ xs, x.f1.size ≤ m ∧ ∀ t ∈ x.f2, t.size ≤ m) : ∀ k, k ≤ xs.length → ∀ it ∈ (playK (xs.map st0) k).1, it.2.length ≤ m
  | 0, _, it, hit => by simp [playK] at hit
  | k + 1, hk, it, hit => by
    have ih := item_size m h k (by omega)
    obtain ⟨x, hx⟩ : ∃ x, xs[k]? = some x := ⟨_, List.getElem?_eq_getElem (by omega)⟩
    obtain ⟨p1, p2⟩ := h x (List.mem_of_getElem? hx)
    rw [playK_succ _ k (st0 x) (by rw [List.getElem?_map, hx]; rfl)] at hit
    unfold stepP at hit
    repeat' split at hit
    · simp only [List.mem_append, List.mem_singleton] at hit
      rcases hit with hit | rfl
      · exact ih it hit
      · show (L x.f1).length ≤ m; rw [L_len]; exact p1
    · simp only [List.mem_append, List.mem_map] at hit
      rcases hit with hit | ⟨t, ht, rfl⟩
      · exact ih it hit
      · obtain ⟨u, hu, rfl⟩ := List.mem_map.1 (show t ∈ x.f2.map L from ht)
        show (L u).length ≤ m; rw [L_len]; exact p2 u hu
    · exact ih it hit
    · exact ih it hit
    · exact ih it hit
    · cases hit
    · exact ih it hit
end Go.Proofs.YthjpchabeemfmaaGreatDoor.P
