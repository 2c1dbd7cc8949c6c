import Derived.Test.YthjpchabeemfmaaGreatDoorPy
import Derived.Test.YthjpchabeemfmaaGreatDoorSa
import Derived.Test.YthjpchabeemfmaaGreatDoorPx6
namespace Go.Proofs.YthjpchabeemfmaaGreatDoor.P
open Go.RowKit Go.Proofs.YthjpchabeemfmaaGreatDoorW.PrintWords Go.Proofs.YthjpchabeemfmaaGreatDoorW.PrintLast Go.Proofs.YthjpchabeemfmaaGreatDoorW.PrintMore
set_option linter.unusedVariables false
set_option linter.unusedSimpArgs false
set_option maxRecDepth 100000
set_option maxHeartbeats 2000000

/-- a begins with b -/
def bg (a b : List UInt8) : Prop := a.take b.length = b
instance (a b : List UInt8) : Decidable (bg a b) := inferInstanceAs (Decidable (a.take b.length = b))
theorem bg_iff (a b : List UInt8) : bg a b ↔ b <+: a := by unfold bg; rw [List.prefix_iff_eq_take]; exact eq_comm
theorem begins_g (a b : List UInt8) (ha : a.length ≤ 1000000) (hb : b.length ≤ 1000) : spec_LsBegins.f (S a) (S b) = some (if bg a b then (S (a.drop b.length), true) else (S a, false)) := begins_f a b ha hb
/-- the bullets -/
def bul (s : Sty) : List (List UInt8) := [s.single, s.top, s.first, s.middle, s.bottom]
/-- what is asked of a bullet -/
def ClearB (s : Sty) (x : List UInt8) : Prop := x ≠ [] ∧ x[0]? ≠ some 32 ∧ ¬ bg (x ++ [32]) s.vert ∧ ¬ bg s.vert (x ++ [32]) ∧ ∀ y ∈ bul s, bg (x ++ [32]) (y ++ [32]) → x = y
structure ClearS (s : Sty) : Prop where
  vert : s.vert ≠ [] ∧ s.vert[0]? ≠ some 32
  pre : s.pre = []
  bullets : ∀ x ∈ bul s, ClearB s x
theorem rd_bul {l : List (List UInt8)} {n : Nat} {x : List UInt8} (h : l[n]? = some x) : rdOf ByteArray.empty (l.map S) (n : Int) = S x := rdOf_at (by rw [List.getElem?_map, h]; rfl)
theorem lit32 (x : List UInt8) : S x ++ (⟨#[32]⟩ : ByteArray) = S (x ++ [32]) := S_app x [32]
theorem bt_head (x : List UInt8) (hne : x ≠ []) : (bt (S x) 0 = 32) ↔ x[0]? = some 32 := by
  cases x with
  | nil => exact absurd rfl hne
  | cons b t =>
    have hb := bt_get (S (b :: t)) (n := 0) (b := b) (by rw [L_S]; rfl)
    rw [show (0 : Int) = ((0 : Nat) : Int) from rfl, hb]
    simp only [List.getElem?_cons_zero, Option.some.injEq]
    exact ⟨fun h => UInt8.toNat_inj.1 (by have : (b.toNat : Int) = 32 := h; show b.toNat = 32; omega), fun h => by subst h; rfl⟩
section
variable (s : Sty) (f0 : Int) (hsz : ∀ x ∈ bul s, x.length ≤ 20) (hv : s.vert.length ≤ 20)
include hsz in
theorem clear_in (x : List UInt8) (hx : x.length ≤ 20) (i : Int) (P : Prop) (h0 : ∃ r, Ev (fun k => spec_LsClear.l0 k ((bul s).map S) ((bul s).map S) (((bul s).map S).length : Int) (wrap64 (i + 1)) f0 (S s.single) (S s.top) (S s.first) (S s.middle) (S s.vert) (S s.bottom) (S s.newline) (S s.pre)) r ∧ (r = true → P)) :
    ∀ d n : Nat, n + d = 5 → ∃ r, Ev (fun k => spec_LsClear.l1 k ((bul s).map S) (S x) ((bul s).map S) (((bul s).map S).length : Int) i ((bul s).map S) (((bul s).map S).length : Int) (n : Int) f0 (S s.single) (S s.top) (S s.first) (S s.middle) (S s.vert) (S s.bottom) (S s.newline) (S s.pre)) r ∧ (r = true → P ∧ ∀ y ∈ (bul s).drop n, bg (x ++ [32]) (y ++ [32]) → x = y)
  | 0, n, hn => by
    obtain ⟨r, hr, hp⟩ := h0
    refine ⟨r, Ev.step (fun k => spec_LsClear.l1.eq_2 _ _ _ _ _ _ _ _ _ _ _ _ _ _ _ _ _ k) (ev_neg (by rw [List.length_map]; show ¬ ((n : Int) < (5 : Nat)); omega) hr), fun e => ⟨hp e, fun y hy => ?_⟩⟩
    rw [List.drop_of_length_le (show (bul s).length ≤ n by show 5 ≤ n; omega)] at hy
    cases hy
  | d + 1, n, hn => by
    have hlt : n < (bul s).length := by show n < 5; omega
    obtain ⟨y, hy⟩ : ∃ y, (bul s)[n]? = some y := ⟨_, List.getElem?_eq_getElem hlt⟩
    have hy20 := hsz y (List.mem_of_getElem? hy)
    obtain ⟨r, hr, hp⟩ := clear_in x hx i P h0 d (n + 1) (by omega)
    have hd : (bul s).drop n = y :: (bul s).drop (n + 1) := by rw [List.drop_eq_getElem_cons hlt, (List.getElem?_eq_some_iff.1 hy).2]
    have hw : wrap64 ((n : Int) + 1) = ((n + 1 : Nat) : Int) := w1 n (by omega)
    by_cases hb : bg (x ++ [32]) (y ++ [32])
    · by_cases he : x = y
      · refine ⟨r, Ev.step (fun k => spec_LsClear.l1.eq_2 _ _ _ _ _ _ _ _ _ _ _ _ _ _ _ _ _ k) (ev_pos (by rw [List.length_map]; show ((n : Int) < (5 : Nat)); omega) (ev_pos (by omega) (ev_pos (by rw [List.length_map]; show ((n : Int) < (5 : Nat)); omega) ?_))), fun e => ⟨(hp e).1, fun z hz hzb => ?_⟩⟩
        · rw [rd_bul hy, lit32, lit32]
          refine ev_pos (by rw [S_sz]; omega) (ev_pos (by rw [S_sz]; omega) (ev_some (begins_g _ _ (by rw [List.length_append, List.length_singleton]; omega) (by rw [List.length_append, List.length_singleton]; omega)) ?_))
          rw [if_pos hb]
          refine ev_pos rfl (ev_pos (by rw [toList_L, toList_L, L_S, L_S]; exact he) ?_)
          rw [hw]
          exact hr
        · rw [hd] at hz
          rcases List.mem_cons.1 hz with rfl | hz
          · exact he
          · exact (hp e).2 z hz hzb
      · refine ⟨false, Ev.step (fun k => spec_LsClear.l1.eq_2 _ _ _ _ _ _ _ _ _ _ _ _ _ _ _ _ _ k) (ev_pos (by rw [List.length_map]; show ((n : Int) < (5 : Nat)); omega) (ev_pos (by omega) (ev_pos (by rw [List.length_map]; show ((n : Int) < (5 : Nat)); omega) ?_))), fun e => by cases e⟩
        rw [rd_bul hy, lit32, lit32]
        refine ev_pos (by rw [S_sz]; omega) (ev_pos (by rw [S_sz]; omega) (ev_some (begins_g _ _ (by rw [List.length_append, List.length_singleton]; omega) (by rw [List.length_append, List.length_singleton]; omega)) ?_))
        rw [if_pos hb]
        exact ev_pos rfl (ev_neg (by rw [toList_L, toList_L, L_S, L_S]; exact he) (Ev.now _))
    · refine ⟨r, Ev.step (fun k => spec_LsClear.l1.eq_2 _ _ _ _ _ _ _ _ _ _ _ _ _ _ _ _ _ k) (ev_pos (by rw [List.length_map]; show ((n : Int) < (5 : Nat)); omega) (ev_pos (by omega) (ev_pos (by rw [List.length_map]; show ((n : Int) < (5 : Nat)); omega) ?_))), fun e => ⟨(hp e).1, fun z hz hzb => ?_⟩⟩
      · rw [rd_bul hy, lit32, lit32]
        refine ev_pos (by rw [S_sz]; omega) (ev_pos (by rw [S_sz]; omega) (ev_some (begins_g _ _ (by rw [List.length_append, List.length_singleton]; omega) (by rw [List.length_append, List.length_singleton]; omega)) ?_))
        rw [if_neg hb]
        refine ev_neg (by simp) ?_
        rw [hw]
        exact hr
      · rw [hd] at hz
        rcases List.mem_cons.1 hz with rfl | hz
        · exact absurd hzb hb
        · exact (hp e).2 z hz hzb
include hsz hv in
theorem clear_loop : ∀ d n : Nat, n + d = 5 → ∃ r, Ev (fun k => spec_LsClear.l0 k ((bul s).map S) ((bul s).map S) (((bul s).map S).length : Int) (n : Int) f0 (S s.single) (S s.top) (S s.first) (S s.middle) (S s.vert) (S s.bottom) (S s.newline) (S s.pre)) r ∧ (r = true → ∀ x ∈ (bul s).drop n, ClearB s x)
  | 0, n, hn => by
    refine ⟨true, Ev.step (fun k => spec_LsClear.l0.eq_2 _ _ _ _ _ _ _ _ _ _ _ _ _ k) (ev_neg (by rw [List.length_map]; show ¬ ((n : Int) < (5 : Nat)); omega) (Ev.now _)), fun _ x hx => ?_⟩
    rw [List.drop_of_length_le (show (bul s).length ≤ n by show 5 ≤ n; omega)] at hx
    cases hx
  | d + 1, n, hn => by
    have hlt : n < (bul s).length := by show n < 5; omega
    obtain ⟨x, hx⟩ : ∃ x, (bul s)[n]? = some x := ⟨_, List.getElem?_eq_getElem hlt⟩
    have hx20 := hsz x (List.mem_of_getElem? hx)
    have hd : (bul s).drop n = x :: (bul s).drop (n + 1) := by rw [List.drop_eq_getElem_cons hlt, (List.getElem?_eq_some_iff.1 hx).2]
    have hw : wrap64 ((n : Int) + 1) = ((n + 1 : Nat) : Int) := w1 n (by omega)
    have ih := clear_loop d (n + 1) (by omega)
    rw [← hw] at ih
    obtain ⟨r, hr, hp⟩ := clear_in s f0 hsz x hx20 (n : Int) (∀ x ∈ (bul s).drop (n + 1), ClearB s x) ih 5 0 rfl
    -- the test of the bullet itself
    have test : ∀ c : Bool, (c = true ∨ (c = false ∧ x ≠ [] ∧ x[0]? ≠ some 32)) → ∃ r, Ev (fun k => spec_LsClear.j2 k ((bul s).map S) (S x) ((bul s).map S) (((bul s).map S).length : Int) (n : Int) c f0 (S s.single) (S s.top) (S s.first) (S s.middle) (S s.vert) (S s.bottom) (S s.newline) (S s.pre)) r ∧ (r = true → ∀ z ∈ (bul s).drop n, ClearB s z) := by
      intro c hc
      rcases hc with rfl | ⟨rfl, hc1, hc2⟩
      · exact ⟨false, Ev.step (fun k => spec_LsClear.j2.eq_2 _ _ _ _ _ _ _ _ _ _ _ _ _ _ _ k) (ev_pos rfl (Ev.now _)), fun e => by cases e⟩
      · by_cases h1 : bg (x ++ [32]) s.vert
        · refine ⟨false, Ev.step (fun k => spec_LsClear.j2.eq_2 _ _ _ _ _ _ _ _ _ _ _ _ _ _ _ k) (ev_neg (by simp) (ev_pos (by rw [S_sz]; omega) ?_)), fun e => by cases e⟩
          rw [lit32]
          refine ev_some (begins_g _ _ (by rw [List.length_append, List.length_singleton]; omega) (by omega)) ?_
          rw [if_pos h1]
          exact ev_pos rfl (Ev.now _)
        · by_cases h2 : bg s.vert (x ++ [32])
          · refine ⟨false, Ev.step (fun k => spec_LsClear.j2.eq_2 _ _ _ _ _ _ _ _ _ _ _ _ _ _ _ k) (ev_neg (by simp) (ev_pos (by rw [S_sz]; omega) ?_)), fun e => by cases e⟩
            rw [lit32]
            refine ev_some (begins_g _ _ (by rw [List.length_append, List.length_singleton]; omega) (by omega)) ?_
            rw [if_neg h1]
            refine ev_neg (by simp) (ev_some (begins_g _ _ (by omega) (by rw [List.length_append, List.length_singleton]; omega)) ?_)
            rw [if_pos h2]
            exact ev_pos rfl (Ev.now _)
          · refine ⟨r, Ev.step (fun k => spec_LsClear.j2.eq_2 _ _ _ _ _ _ _ _ _ _ _ _ _ _ _ k) (ev_neg (by simp) (ev_pos (by rw [S_sz]; omega) ?_)), fun e z hz => ?_⟩
            · rw [lit32]
              refine ev_some (begins_g _ _ (by rw [List.length_append, List.length_singleton]; omega) (by omega)) ?_
              rw [if_neg h1]
              refine ev_neg (by simp) (ev_some (begins_g _ _ (by omega) (by rw [List.length_append, List.length_singleton]; omega)) ?_)
              rw [if_neg h2]
              exact ev_neg (by simp) hr
            · rw [hd] at hz
              rcases List.mem_cons.1 hz with rfl | hz
              · exact ⟨hc1, hc2, h1, h2, fun y hy => (hp e).2 y (by rw [List.drop_zero]; exact hy)⟩
              · exact (hp e).1 z hz
    have go : ∀ c, (∃ r, Ev (fun k => spec_LsClear.j2 k ((bul s).map S) (S x) ((bul s).map S) (((bul s).map S).length : Int) (n : Int) c f0 (S s.single) (S s.top) (S s.first) (S s.middle) (S s.vert) (S s.bottom) (S s.newline) (S s.pre)) r ∧ (r = true → ∀ z ∈ (bul s).drop n, ClearB s z)) → (x = [] → c = true) → (x ≠ [] → c = (bt (S x) 0 == 32)) → ∃ r, Ev (fun k => spec_LsClear.l0 k ((bul s).map S) ((bul s).map S) (((bul s).map S).length : Int) (n : Int) f0 (S s.single) (S s.top) (S s.first) (S s.middle) (S s.vert) (S s.bottom) (S s.newline) (S s.pre)) r ∧ (r = true → ∀ z ∈ (bul s).drop n, ClearB s z) := by
      intro c ⟨r, hr, hp⟩ c1 c2
      refine ⟨r, Ev.step (fun k => spec_LsClear.l0.eq_2 _ _ _ _ _ _ _ _ _ _ _ _ _ k) (ev_pos (by rw [List.length_map]; show ((n : Int) < (5 : Nat)); omega) (ev_pos (by omega) (ev_pos (by rw [List.length_map]; show ((n : Int) < (5 : Nat)); omega) ?_))), hp⟩
      rw [rd_bul hx]
      by_cases hxe : x = []
      · rw [c1 hxe] at hr
        exact ev_pos (by rw [toList_L, L_S]; exact hxe) hr
      · rw [c2 hxe] at hr
        refine ev_neg (by rw [toList_L, L_S]; exact hxe) (ev_pos ?_ hr)
        rw [S_sz]
        have := List.length_pos_iff.2 hxe
        omega
    by_cases hxe : x = []
    · exact go true (test true (Or.inl rfl)) (fun _ => rfl) (fun h => absurd hxe h)
    · by_cases h32 : x[0]? = some 32
      · exact go true (test true (Or.inl rfl)) (fun h => absurd h hxe) (fun _ => by rw [(bt_head x hxe).2 h32]; rfl)
      · refine go false (test false (Or.inr ⟨rfl, hxe, h32⟩)) (fun h => absurd h hxe) (fun _ => ?_)
        have : ¬ bt (S x) 0 = 32 := fun e => h32 ((bt_head x hxe).1 e)
        simpa using this
include hsz hv in
theorem clear_f : ∃ r, Ev (fun k => spec_LsClear.f k f0 (S s.single) (S s.top) (S s.first) (S s.middle) (S s.vert) (S s.bottom) (S s.newline) (S s.pre)) r ∧ (r = true → ClearS s) := by
  obtain ⟨r, hr, hp⟩ := clear_loop s f0 hsz hv 5 0 rfl
  have start : ∀ c : Bool, (c = false → s.vert ≠ [] ∧ s.vert[0]? ≠ some 32 ∧ s.pre = []) → ∃ r, Ev (fun k => spec_LsClear.j0 k ((bul s).map S) c f0 (S s.single) (S s.top) (S s.first) (S s.middle) (S s.vert) (S s.bottom) (S s.newline) (S s.pre)) r ∧ (r = true → ClearS s) := by
    intro c hc
    cases c with
    | true => exact ⟨false, Ev.step (fun k => spec_LsClear.j0.eq_2 _ _ _ _ _ _ _ _ _ _ _ k) (ev_pos rfl (Ev.now _)), fun e => by cases e⟩
    | false =>
      obtain ⟨a1, a2, a3⟩ := hc rfl
      exact ⟨r, Ev.step (fun k => spec_LsClear.j0.eq_2 _ _ _ _ _ _ _ _ _ _ _ k) (ev_neg (by simp) hr), fun e => ⟨⟨a1, a2⟩, a3, fun x hx => hp e x (by rw [List.drop_zero]; exact hx)⟩⟩
  by_cases h1 : s.vert = []
  · obtain ⟨r, hr, hp⟩ := start true (fun h => by cases h)
    exact ⟨r, ev_some rfl (ev_pos (by rw [toList_L, L_S]; exact h1) hr), hp⟩
  · have hpos : 0 < ((S s.vert).size : Int) := by rw [S_sz]; have := List.length_pos_iff.2 h1; omega
    by_cases h2 : s.vert[0]? = some 32
    · obtain ⟨r, hr, hp⟩ := start true (fun h => by cases h)
      exact ⟨r, ev_some rfl (ev_neg (by rw [toList_L, L_S]; exact h1) (ev_pos hpos (ev_pos ((bt_head _ h1).2 h2) hr))), hp⟩
    · by_cases h3 : s.pre = []
      · obtain ⟨r, hr, hp⟩ := start false (fun _ => ⟨h1, h2, h3⟩)
        refine ⟨r, ev_some rfl (ev_neg (by rw [toList_L, L_S]; exact h1) (ev_pos hpos (ev_neg (fun e => h2 ((bt_head _ h1).1 e)) ?_))), hp⟩
        rw [toList_L, L_S, show (s.pre != []) = false by simp [h3]]
        exact hr
      · obtain ⟨r, hr, hp⟩ := start true (fun h => by cases h)
        refine ⟨r, ev_some rfl (ev_neg (by rw [toList_L, L_S]; exact h1) (ev_pos hpos (ev_neg (fun e => h2 ((bt_head _ h1).1 e)) ?_))), hp⟩
        rw [toList_L, L_S, show (s.pre != []) = true by simpa using h3]
        exact hr
end
end Go.Proofs.YthjpchabeemfmaaGreatDoor.P
