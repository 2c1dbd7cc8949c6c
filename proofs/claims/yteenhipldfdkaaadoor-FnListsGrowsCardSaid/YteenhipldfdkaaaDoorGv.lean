import Derived.Test.YteenhipldfdkaaaDoorUn
import Derived.Deep.RegionHeld3
import Derived.Test.YteenhipldfdkaaaDoorUo
namespace Go.Proofs.YteenhipldfdkaaaDoor
open Go.RowKit
set_option linter.unusedVariables false
set_option linter.unusedSimpArgs false
set_option maxHeartbeats 4000000
set_option maxRecDepth 100000

/-- the style whose bullets are alike -/
def sB (B : List UInt8) : Sty := ⟨0, B, B, B, B, [32, 32], B, [10], [], []⟩
theorem sB_short {B : List UInt8} (h : B.length ≤ 20) : ShortSt (sB B) := ⟨h, h, h, h, (by show 2 ≤ 20; omega), h, (by show 1 ≤ 20; omega), (by show 0 ≤ 20; omega)⟩
theorem sB_spaces (B : List UInt8) : spacesF (sB B) = [32, 32] := by
  unfold spacesF
  show List.replicate (Lib.runeCount ⟨#[32, 32]⟩) 32 = _
  decide
theorem bulletF_B (B : List UInt8) (h : Hint) : bulletF (sB B) h = B := by
  unfold bulletF
  repeat' split
  all_goals rfl
theorem linksF_same (v : List UInt8) (t t' : List It) : ∀ (n l : Nat), linksF v v t l n = linksF v v t' l n
  | 0, _ => rfl
  | n + 1, l => by
    rw [linksF, linksF, linksF_same v t t' n (l + 1)]
    simp
theorem markF_B (B : List UInt8) (h h' : Hint) (k : Nat) : markF (sB B) [32, 32] h k = markF (sB B) [32, 32] h' k := by
  unfold markF
  rw [bulletF_B, bulletF_B]
  split
  · rfl
  · have e : (sB B).vert = [32, 32] := rfl
    rw [e]
    simp
theorem linesF_B (B : List UInt8) (h h' : Hint) (a : List UInt8) : ∀ (ls : List (List UInt8)) (k : Nat), linesF (sB B) [32, 32] h a k ls = linesF (sB B) [32, 32] h' a k ls
  | [], _ => rfl
  | l :: r, k => by rw [linesF, linesF, linesF_B B h h' a r (k + 1), markF_B B h h' k]
theorem itemF_B (B : List UInt8) (prev : Option Nat) (x : It) (t t' : List It) : itemF (sB B) [32, 32] prev x t = itemF (sB B) [32, 32] prev x t' := by
  unfold itemF
  have e : aheadF (sB B) [32, 32] x t = aheadF (sB B) [32, 32] x t' := by
    unfold aheadF
    show (sB B).pre ++ linksF [32, 32] [32, 32] t 0 x.1 = _
    rw [linksF_same _ t t']
    rfl
  rw [e, linesF_B B (hintF prev x t) (hintF prev x t')]
theorem outF_app (B : List UInt8) (b : List It) : ∀ (a : List It) (prev : Option Nat), ∃ p : Option Nat, outF (sB B) [32, 32] prev (a ++ b) = outF (sB B) [32, 32] prev a ++ outF (sB B) [32, 32] p b ∧ (a ≠ [] → p.isSome = true)
  | [], prev => ⟨prev, rfl, fun h => absurd rfl h⟩
  | x :: t, prev => by
    obtain ⟨p, h1, h2⟩ := outF_app B b t (some x.1)
    cases t with
    | nil =>
      refine ⟨some x.1, ?_, fun _ => rfl⟩
      show itemF (sB B) [32, 32] prev x b ++ outF (sB B) [32, 32] (some x.1) b = (itemF (sB B) [32, 32] prev x [] ++ []) ++ _
      rw [itemF_B B prev x b [], List.append_nil]
    | cons y u =>
      refine ⟨p, ?_, fun _ => h2 (by simp)⟩
      show itemF (sB B) [32, 32] prev x ((y :: u) ++ b) ++ outF (sB B) [32, 32] (some x.1) ((y :: u) ++ b) = (itemF (sB B) [32, 32] prev x (y :: u) ++ outF (sB B) [32, 32] (some x.1) (y :: u)) ++ _
      rw [h1, itemF_B B prev x ((y :: u) ++ b) (y :: u), List.append_assoc]
theorem grows_law (B : List UInt8) (la lb : List It) : ∃ r, renderF (sB B) (la ++ lb) = renderF (sB B) la ++ r ∧ (renderF (sB B) la = [] ∨ r = [] ∨ ∃ r', r = 10 :: r') := by
  unfold renderF
  rw [sB_spaces]
  obtain ⟨p, h1, h2⟩ := outF_app B lb la none
  refine ⟨_, h1, ?_⟩
  cases la with
  | nil => exact .inl rfl
  | cons x t =>
    cases lb with
    | nil => exact .inr (.inl rfl)
    | cons y u =>
      have hp := h2 (by simp)
      cases p with
      | none => cases hp
      | some v =>
        refine .inr (.inr ⟨linesF (sB B) [32, 32] (hintF (some v) y u) (aheadF (sB B) [32, 32] y u) 0 (splitN (textF (sB B) y.2)) ++ outF (sB B) [32, 32] (some y.1) u, ?_⟩)
        simp [outF, itemF]
theorem step_ext (q : List It × Nat) (p : Stp) (h : p.kind ≠ 5) : ∃ e, (stepP q p).1 = q.1 ++ e := by
  unfold stepP
  repeat' split
  · exact ⟨_, rfl⟩
  · exact ⟨_, rfl⟩
  all_goals first | contradiction | exact ⟨[], by simp⟩
theorem fold_ext : ∀ (more : List Stp) (q : List It × Nat), (∀ p ∈ more, p.kind ≠ 5) → ∃ e, (more.foldl stepP q).1 = q.1 ++ e
  | [], q, _ => ⟨[], by simp⟩
  | p :: t, q, h => by
    obtain ⟨e1, h1⟩ := step_ext q p (h p (by simp))
    obtain ⟨e2, h2⟩ := fold_ext t (stepP q p) (fun x hx => h x (by simp [hx]))
    exact ⟨e1 ++ e2, by rw [List.foldl_cons, h2, h1, List.append_assoc]⟩
theorem play_more (l more : List Stp) (h : ∀ p ∈ more, p.kind ≠ 5) : ∃ e, (playK (l ++ more) (l ++ more).length).1 = (playK l l.length).1 ++ e := by
  rw [playK_all, playK_all, List.foldl_append]
  exact fold_ext more _ h

section
variable {P : Program} (w : World)
/-- append(v, y...) at a step of a region that draws its order: v is a row of the call's own, y a slice that is read (nil let in) -/
theorem step_append_read {ops : Array Oper} {o : Oper} {a : Act} {K : Act → World → Prop} {Q : Exit → Act → World → Prop} {E : Prop} (hgd : o.guard = none) (sl x : Operand) (t e : TypeId) (z : Value) (size bytes : Nat)
    (ho : o.op = .call { callee := .builtin .append, args := #[sl, x], argTypes := #[t, t] })
    (ht : P.underlying t = some (.slice e)) (hi : (P.info? e).map (fun i => (i.zero, i.size, i.bytes)) = some (some z, size, bytes)) (hzs : z.cells.size = size) (hsz : 0 < size)
    (base : Nat) (v : Value) (n : Nat) (xs : List Value) (hs : a.eval sl = v) (hown : w.ownsRow base e size v n xs)
    (A : Option Addr) (m c : Nat) (news : List Value) (hx : a.eval x = .slice A m c) (hc : A = none → c = 0) (hl : news.length = m * size)
    (hsrc : m ≠ 0 → ∃ g o', A = some ⟨g, o', none⟩ ∧ ∀ j u, news[j]? = some u → w.cell? ⟨g, o' + j, none⟩ = some u) (h1 : ∀ u ∈ news, u.oneCell' = true)
    (hb : (n + m) * bytes ≤ 140737488355328) (hb0 : 0 < bytes) (hbase : base ≤ w.heap.size)
    (h : ∀ v' w', w'.ownsRow base e size v' (n + m) (xs ++ news) → w.grownBy w' v.ownBlock → K (a.put o.dst v') w') : if Region.wanted o (yielded ops a.tmps) = true then Oper.wp P o a w K Q else E := by
  have hw : Region.wanted o (yielded ops a.tmps) = true := by simp [Region.wanted, hgd]
  rw [if_pos hw]
  obtain ⟨i, hi0, hz0, hz1, hz2⟩ := info_parts hi
  have h63 : n + m ≤ maxLen := by
    have : n + m ≤ (n + m) * bytes := Nat.le_mul_of_pos_right _ hb0
    simp only [maxLen]; omega
  have hrun : ∃ v' w', (Builtin.append_ #[t, t] o.type #[v, .slice A m c]).run P w = .ok v' w' ∧ w'.ownsRow base e size v' (n + m) (xs ++ news) ∧ w.grownBy w' v.ownBlock := by
    by_cases hm : m = 0
    · subst hm
      have hnews : news = [] := List.eq_nil_of_length_eq_zero (by simpa using hl)
      subst hnews
      cases A with
      | none =>
        have hc0 := hc rfl
        subst hc0
        exact ⟨v, w, run_append_owned_none w base t o.type e i size ht hi0 v n xs hown, by simpa using hown, ⟨rfl, rfl, rfl, Nat.le_refl _, fun _ _ _ => rfl⟩⟩
      | some ad =>
        obtain ⟨v', w', a1, a2, a3, _⟩ := run_append_own_at (P := P) w base t o.type e i z size bytes ht hi0 hz0 hz1 hz2 hzs hsz v n xs hown ad 0 c [] (by simp) (by simp) (by simp) h63 hb hbase
        exact ⟨v', w', a1, a2, a3⟩
    · obtain ⟨g, o', rfl, hcl⟩ := hsrc hm
      obtain ⟨v', w', a1, a2, a3, _⟩ := run_append_own_at (P := P) w base t o.type e i z size bytes ht hi0 hz0 hz1 hz2 hzs hsz v n xs hown ⟨g, o', none⟩ m c news hl (fun j u hj => by rw [add_plain]; exact hcl j u hj) h1 h63 hb hbase
      exact ⟨v', w', a1, a2, a3⟩
  obtain ⟨v', w', hr, h2, h3⟩ := hrun
  unfold Oper.wp execOp
  simp only [ho, resolve, invoke, builtin, Sem.run_bind, Sem.run_pure, Result.andThen_ok, List.map_toArray, List.map_cons, List.map_nil, hs, hx, hr]
  exact h v' w' h2 h3
end
end Go.Proofs.YteenhipldfdkaaaDoor

namespace Go.Proofs.YteenhipldfdkaaaDoor
open Go.RowKit
set_option linter.unusedVariables false
set_option linter.unusedSimpArgs false
set_option maxHeartbeats 4000000
set_option maxRecDepth 100000
attribute [local go_sem] S_extract S_append run_cut_S run_head_S run_tail_S Nat.add_sub_cancel_left

section
variable (v0 v2 : Value) (a : List UInt8) (w : World)
abbrev GrowsSaid : Prop := Calls Tryd.prog 4 #[v0, v2, .string ⟨a.toArray⟩] w fun e w' => e = .returned (.bool true) ∧ Below w.heap.size w w'
theorem grows_e1 (K1 : Tells w 8 v0 false) : GrowsSaid v0 v2 a w := by
  have D0 := hid (Below.refl w.heap.size w)
  have K1 := hid K1
  go_enter Tryd.func4, Tryd.ntmps4
  go_wp2_with (first
    | (go_at_call 8; (with_reducible refine (K1.out _ D0.out).mono ?_); rintro e w1 ⟨rfl, hb1⟩; clear K1))
  go_ret
  exact ⟨rfl, hb1⟩
theorem grows_e2 (K1 : Tells w 8 v0 true) (K2 : Tells w 8 v2 false) : GrowsSaid v0 v2 a w := by
  have D0 := hid (Below.refl w.heap.size w)
  have K1 := hid K1
  have K2 := hid K2
  go_enter Tryd.func4, Tryd.ntmps4
  go_wp2_with (first
    | (go_at_call 8; (with_reducible refine (K1.out _ D0.out).mono ?_); rintro e w1 ⟨rfl, hb1⟩; clear K1)
    | (go_at_call 8; (with_reducible refine (K2.out _ hb1).mono ?_); rintro e w2 ⟨rfl, hb2⟩; clear K2))
  go_ret
  exact ⟨rfl, (below_next hb1 hb2)⟩
theorem grows_e3 (K1 : Tells w 8 v0 true) (K2 : Tells w 8 v2 true) (hs : 2147483647 < (a.length : Int)) : GrowsSaid v0 v2 a w := by
  have D0 := hid (Below.refl w.heap.size w)
  have K1 := hid K1
  have K2 := hid K2
  have hd : decide (2147483647 < (a.length : Int)) = true := decide_eq_true hs
  go_enter Tryd.func4, Tryd.ntmps4
  go_wp2_with (first
    | (go_at_call 8; (with_reducible refine (K1.out _ D0.out).mono ?_); rintro e w1 ⟨rfl, hb1⟩; clear K1)
    | (go_at_call 8; (with_reducible refine (K2.out _ hb1).mono ?_); rintro e w2 ⟨rfl, hb2⟩; clear K2))
  go_ret
  exact ⟨rfl, (below_next hb1 hb2)⟩
theorem grows_e4 (K1 : Tells w 8 v0 true) (K2 : Tells w 8 v2 true) (hs : ¬ 2147483647 < (a.length : Int)) (K3 : Tells w 9 v0 false) : GrowsSaid v0 v2 a w := by
  have D0 := hid (Below.refl w.heap.size w)
  have K1 := hid K1
  have K2 := hid K2
  have K3 := hid K3
  have hd : decide (2147483647 < (a.length : Int)) = false := decide_eq_false hs
  go_enter Tryd.func4, Tryd.ntmps4
  go_wp2_with (first
    | (go_at_call 8; (with_reducible refine (K1.out _ D0.out).mono ?_); rintro e w1 ⟨rfl, hb1⟩; clear K1)
    | (go_at_call 8; (with_reducible refine (K2.out _ hb1).mono ?_); rintro e w2 ⟨rfl, hb2⟩; clear K2)
    | (go_at_call 9; (with_reducible refine (K3.out _ (below_next hb1 hb2)).mono ?_); rintro e w3 ⟨rfl, hb3⟩; clear K3))
  go_ret
  exact ⟨rfl, (below_next (below_next hb1 hb2) hb3)⟩
theorem grows_e5 (K1 : Tells w 8 v0 true) (K2 : Tells w 8 v2 true) (hs : ¬ 2147483647 < (a.length : Int)) (K3 : Tells w 9 v0 true) (K4 : Tells w 9 v2 false) : GrowsSaid v0 v2 a w := by
  have D0 := hid (Below.refl w.heap.size w)
  have K1 := hid K1
  have K2 := hid K2
  have K3 := hid K3
  have K4 := hid K4
  have hd : decide (2147483647 < (a.length : Int)) = false := decide_eq_false hs
  go_enter Tryd.func4, Tryd.ntmps4
  go_wp2_with (first
    | (go_at_call 8; (with_reducible refine (K1.out _ D0.out).mono ?_); rintro e w1 ⟨rfl, hb1⟩; clear K1)
    | (go_at_call 8; (with_reducible refine (K2.out _ hb1).mono ?_); rintro e w2 ⟨rfl, hb2⟩; clear K2)
    | (go_at_call 9; (with_reducible refine (K3.out _ (below_next hb1 hb2)).mono ?_); rintro e w3 ⟨rfl, hb3⟩; clear K3)
    | (go_at_call 9; (with_reducible refine (K4.out _ (below_next (below_next hb1 hb2) hb3)).mono ?_); rintro e w4 ⟨rfl, hb4⟩; clear K4))
  go_ret
  exact ⟨rfl, (below_next (below_next (below_next hb1 hb2) hb3) hb4)⟩
theorem grows_e6 (K1 : Tells w 8 v0 true) (K2 : Tells w 8 v2 true) (hs : ¬ 2147483647 < (a.length : Int)) (K3 : Tells w 9 v0 true) (K4 : Tells w 9 v2 true) (hs2 : 20 < (a.length : Int)) : GrowsSaid v0 v2 a w := by
  have D0 := hid (Below.refl w.heap.size w)
  have K1 := hid K1
  have K2 := hid K2
  have K3 := hid K3
  have K4 := hid K4
  have hd : decide (2147483647 < (a.length : Int)) = false := decide_eq_false hs
  have hd2 : decide (20 < (a.length : Int)) = true := decide_eq_true hs2
  go_enter Tryd.func4, Tryd.ntmps4
  go_wp2_with (first
    | (go_at_call 8; (with_reducible refine (K1.out _ D0.out).mono ?_); rintro e w1 ⟨rfl, hb1⟩; clear K1)
    | (go_at_call 8; (with_reducible refine (K2.out _ hb1).mono ?_); rintro e w2 ⟨rfl, hb2⟩; clear K2)
    | (go_at_call 9; (with_reducible refine (K3.out _ (below_next hb1 hb2)).mono ?_); rintro e w3 ⟨rfl, hb3⟩; clear K3)
    | (go_at_call 9; (with_reducible refine (K4.out _ (below_next (below_next hb1 hb2) hb3)).mono ?_); rintro e w4 ⟨rfl, hb4⟩; clear K4))
  go_ret
  exact ⟨rfl, (below_next (below_next (below_next hb1 hb2) hb3) hb4)⟩
theorem grows_e7 (K1 : Tells w 8 v0 true) (K2 : Tells w 8 v2 true) (hs : ¬ 2147483647 < (a.length : Int)) (K3 : Tells w 9 v0 true) (K4 : Tells w 9 v2 true) (hs2 : ¬ 20 < (a.length : Int)) (hsim : txSimple ⟨a.toArray⟩ false = false) : GrowsSaid v0 v2 a w := by
  have D0 := hid (Below.refl w.heap.size w)
  have K1 := hid K1
  have K2 := hid K2
  have K3 := hid K3
  have K4 := hid K4
  have hd : decide (2147483647 < (a.length : Int)) = false := decide_eq_false hs
  have hd2 : decide (20 < (a.length : Int)) = false := decide_eq_false hs2
  have K5 := hid (fun (w' : World) => TxSimple_calls ⟨a.toArray⟩ false w' (by rw [S_size]; omega))
  rw [hsim] at K5
  go_enter Tryd.func4, Tryd.ntmps4
  go_wp2_with (first
    | (go_at_call 8; (with_reducible refine (K1.out _ D0.out).mono ?_); rintro e w1 ⟨rfl, hb1⟩; clear K1)
    | (go_at_call 8; (with_reducible refine (K2.out _ hb1).mono ?_); rintro e w2 ⟨rfl, hb2⟩; clear K2)
    | (go_at_call 9; (with_reducible refine (K3.out _ (below_next hb1 hb2)).mono ?_); rintro e w3 ⟨rfl, hb3⟩; clear K3)
    | (go_at_call 9; (with_reducible refine (K4.out _ (below_next (below_next hb1 hb2) hb3)).mono ?_); rintro e w4 ⟨rfl, hb4⟩; clear K4)
    | (go_at_call 14; (with_reducible refine (K5.out _).mono ?_); rintro e w5 ⟨rfl, hb5⟩; clear K5))
  go_ret
  exact ⟨rfl, (below_next (below_next (below_next (below_next hb1 hb2) hb3) hb4) hb5)⟩
end
end Go.Proofs.YteenhipldfdkaaaDoor

namespace Go.Proofs.YteenhipldfdkaaaDoor
open Go.RowKit
set_option linter.unusedVariables false
set_option linter.unusedSimpArgs false
set_option maxHeartbeats 8000000
set_option maxRecDepth 100000
attribute [local go_sem] S_extract S_append run_cut_S run_head_S run_tail_S Nat.add_sub_cancel_left

theorem own_empty2 {W0 W : World} (h : W0.heap.size ≤ W.heap.size) : (W.alloc (.cells #[] 33)).ownsRow W0.heap.size 33 3 (.slice (some ⟨W.heap.size, 0, none⟩) 0 0) 0 [] :=
  ⟨by simp, .inr ⟨W.heap.size, 0, #[], rfl, h, alloc_heap_new _ _, Nat.le_refl _, Nat.zero_le _, by simp, by simp⟩⟩
theorem idx10 (x r' : List UInt8) (h : x.length < (⟨(x ++ 10 :: r').toArray⟩ : ByteArray).size) : ((((⟨(x ++ 10 :: r').toArray⟩ : ByteArray)[x.length]'h).toNat : Nat) : Int) = 10 := by
  show ((((x ++ 10 :: r').toArray[x.length]'h).toNat : Nat) : Int) = 10
  simp
theorem below_drew (w : World) : Below w.heap.size w w.drew := ⟨rfl, rfl, rfl, Nat.le_refl _, fun _ _ => rfl⟩
theorem below_drew2 {B : Nat} {a w : World} (h : Below B a w) : Below B a w.drew := h.trans ⟨rfl, rfl, rfl, Nat.le_refl _, fun _ _ => rfl⟩
theorem grows_main (a : List UInt8) (w : World) (A0 A2 : Option Addr) (c0 c2 : Nat) (l0 l2 : List Stp) (K1 : Tells w 8 (.slice A0 l0.length c0) true) (hs2 : ¬ 20 < (a.length : Int)) (K2 : Tells w 8 (.slice A2 l2.length c2) true) (K3 : Tells w 9 (.slice A0 l0.length c0) true) (K4 : Tells w 9 (.slice A2 l2.length c2) true) (hsim : txSimple ⟨a.toArray⟩ false = true)
    (F : UndoneFacts w (.slice A0 l0.length c0) (.slice A2 l2.length c2) a l0 l2) : GrowsSaid (.slice A0 l0.length c0) (.slice A2 l2.length c2) a w := by
  have D0 := hid (Below.refl w.heap.size w)
  have K1 := hid K1
  have K2 := hid K2
  have K3 := hid K3
  have K4 := hid K4
  have hd : decide (2147483647 < (a.length : Int)) = false := decide_eq_false (by omega)
  have hd2 : decide (20 < (a.length : Int)) = false := decide_eq_false hs2
  have K5 := hid (fun (w' : World) => TxSimple_calls ⟨a.toArray⟩ false w' (by rw [S_size]; omega))
  rw [hsim] at K5
  have n0 := F.n0
  have n2 := F.n2
  have ha : a.length ≤ 20 := by omega
  have FF := hid F
  have HR2 := hid F.r2
  clear F hsim
  go_enter Tryd.func4, Tryd.ntmps4
  go_wp2_with (first
    | (go_at_call 8; (with_reducible refine (K1.out _ D0.out).mono ?_); rintro e w1 ⟨rfl, hb1⟩; clear K1)
    | (go_at_call 8; (with_reducible refine (K2.out _ hb1).mono ?_); rintro e w2 ⟨rfl, hb2⟩; clear K2)
    | (go_at_call 9; (with_reducible refine (K3.out _ (below_next hb1 hb2)).mono ?_); rintro e w3 ⟨rfl, hb3⟩; clear K3)
    | (go_at_call 9; (with_reducible refine (K4.out _ (below_next (below_next hb1 hb2) hb3)).mono ?_); rintro e w4 ⟨rfl, hb4⟩; clear K4)
    | (go_at_call 14; (with_reducible refine (K5.out _).mono ?_); rintro e w5 ⟨rfl, hb5⟩; clear K5; have B5 := hid (below_next (below_next (below_next (below_next hb1 hb2) hb3) hb4) hb5); clear hb1 hb2 hb3 hb4 hb5))
  go_loopw [45] (fun u wr => ∃ k : Nat, k ≤ l2.length ∧ u = .int .i64 k ∧ Below w.heap.size w wr ∧ Hid (∀ p ∈ l2.take k, p.kind ≠ 5)) (fun u _ => l2.length - (intOf u).toNat)
  case atStart => exact ⟨0, by omega, rfl, B5.out, hid (by simp)⟩
  case round =>
    obtain ⟨k, hk, rfl, hbw, hno⟩ := hrel
    by_cases hlt : k < l2.length
    · obtain ⟨p, hp⟩ : ∃ p, l2[k]? = some p := ⟨_, List.getElem?_eq_getElem hlt⟩
      obtain ⟨g, o, rfl, hcell⟩ := HR2.out.1.at (by omega)
      have hcs := stp_get hp
      have hc0 : wr.cell? ⟨g, o + k * 3, none⟩ = some (.int .i64 p.kind) := cell_keep hbw (hcell _ _ hcs.1)
      have hc1 : wr.cell? ⟨g, o + k * 3 + 1, none⟩ = some (.string ⟨p.text.toArray⟩) := cell_keep hbw (hcell _ _ hcs.2.1)
      have hc2 : wr.cell? ⟨g, o + k * 3 + 2, none⟩ = some p.val := cell_keep hbw (hcell _ _ hcs.2.2)
      obtain ⟨At, ct, hval, _, _⟩ := (HR2.out.2 p (List.mem_of_getElem? hp)).form
      rw [hval] at hc2
      have hlt' : (k : Int) < (l2.length : Int) := by omega
      have HNX := hid (fun (h5 : p.kind ≠ 5) => (show ∀ q ∈ l2.take (k + 1), q.kind ≠ 5 by
        intro q hq
        rw [List.take_add_one, hp] at hq
        rcases List.mem_append.1 hq with hq | hq
        · exact hno.out q hq
        · simp at hq; rw [hq]; exact h5))
      have hbA := hid (hbw.alloc hbw.size (.cells #[.int .i64 p.kind, .string ⟨p.text.toArray⟩, .slice At p.texts.length ct] 33))
      clear hcell hcs hp hval
      by_cases k5 : p.kind = 5
      · have E5 : (p.kind == 5) = true := by simpa using k5
        clear k5
        go_wp2_with fail
        go_ret
        exact ⟨rfl, hbA.out⟩
      · have E5 : (p.kind == 5) = false := by simpa using k5
        have HN2 := hid (HNX.out k5)
        clear k5 HNX
        go_wp2_with fail
        go_roundw
        case rel => exact ⟨k + 1, by omega, by go_num, hbA.out, HN2⟩
        case measure => simp [intOf]; omega
    · have hno2 : ∀ p ∈ l2, p.kind ≠ 5 := by have := hno.out; rwa [List.take_of_length_le (by omega)] at this
      have hlt' : ¬ (k : Int) < (l2.length : Int) := by omega
      clear hno
      obtain ⟨ext, hext⟩ := play_more l0 l2 hno2
      obtain ⟨r, hr1, hr2⟩ := grows_law a (playK l0 l0.length).1 ext
      rw [← hext] at hr1
      obtain ⟨W0, hW0⟩ : ∃ W0, W0 = wr.alloc (.cells #[.int .i64 0, .string ⟨a.toArray⟩, .string ⟨a.toArray⟩, .string ⟨a.toArray⟩, .string ⟨a.toArray⟩, .string ⟨#[32, 32]⟩, .string ⟨a.toArray⟩, .string ⟨#[10]⟩, .string ⟨#[]⟩] 29) := ⟨_, rfl⟩
      have B0 : Below w.heap.size w W0 := by rw [hW0]; exact hbw.alloc hbw.size _
      have hblk : W0.heap[wr.heap.size]? = some (.cells #[.int .i64 0, .string ⟨a.toArray⟩, .string ⟨a.toArray⟩, .string ⟨a.toArray⟩, .string ⟨a.toArray⟩, .string ⟨#[32, 32]⟩, .string ⟨a.toArray⟩, .string ⟨#[10]⟩, .string ⟨#[]⟩] 29 (0, 0)) := by rw [hW0]; exact alloc_heap_new wr _
      have HW0 := hid hW0
      have KRA := hid (fun (w' : World) (hb : Below W0.heap.size W0 w') => (show Calls Tryd.prog 15 #[.slice A0 l0.length c0, .agg #[.int .i64 0, .string ⟨a.toArray⟩, .string ⟨a.toArray⟩, .string ⟨a.toArray⟩, .string ⟨a.toArray⟩, .string ⟨#[32, 32]⟩, .string ⟨a.toArray⟩, .string ⟨#[10]⟩, .string ⟨#[]⟩]] w' _ from ListRender_calls l0 (.slice A0 l0.length c0) (sB a) (sB_short ha) rfl rfl w' (by omega) FF.out.s0 (FF.out.r0.below (B0.trans (hb.mono B0.size)))))
      have KRB := hid (fun (v : Value) (w' : World) (hr : RdSt w' v (l0 ++ l2)) => (show Calls Tryd.prog 15 #[v, .agg #[.int .i64 0, .string ⟨a.toArray⟩, .string ⟨a.toArray⟩, .string ⟨a.toArray⟩, .string ⟨a.toArray⟩, .string ⟨#[32, 32]⟩, .string ⟨a.toArray⟩, .string ⟨#[10]⟩, .string ⟨#[]⟩]] w' _ from ListRender_calls (l0 ++ l2) v (sB a) (sB_short ha) rfl rfl w' (by rw [List.length_append]; omega) (fun p hp => (List.mem_append.1 hp).elim (FF.out.s0 p) (FF.out.s2 p)) hr))
      rw [hr1] at KRB
      have GRS := hid (fun (w' : World) (hb : Below W0.heap.size W0 w') => (show (w'.cell? ⟨wr.heap.size, 0, none⟩ = some (.int .i64 0) ∧ w'.cell? ⟨wr.heap.size, 1, none⟩ = some (.string ⟨a.toArray⟩) ∧ w'.cell? ⟨wr.heap.size, 2, none⟩ = some (.string ⟨a.toArray⟩) ∧ w'.cell? ⟨wr.heap.size, 3, none⟩ = some (.string ⟨a.toArray⟩) ∧ w'.cell? ⟨wr.heap.size, 4, none⟩ = some (.string ⟨a.toArray⟩) ∧ w'.cell? ⟨wr.heap.size, 5, none⟩ = some (.string ⟨#[32, 32]⟩) ∧ w'.cell? ⟨wr.heap.size, 6, none⟩ = some (.string ⟨a.toArray⟩) ∧ w'.cell? ⟨wr.heap.size, 7, none⟩ = some (.string ⟨#[10]⟩) ∧ w'.cell? ⟨wr.heap.size, 8, none⟩ = some (.string ⟨#[]⟩)) ∧ Below W0.heap.size W0 w' from ⟨⟨cell_keep hb (blk_cell hblk 0), cell_keep hb (blk_cell hblk 1), cell_keep hb (blk_cell hblk 2), cell_keep hb (blk_cell hblk 3), cell_keep hb (blk_cell hblk 4), cell_keep hb (blk_cell hblk 5), cell_keep hb (blk_cell hblk 6), cell_keep hb (blk_cell hblk 7), cell_keep hb (blk_cell hblk 8)⟩, hb⟩))
      have SRCA := hid (fun (w' : World) (hb : Below W0.heap.size W0 w') => (FF.out.r0.1.below (B0.trans (hb.mono B0.size))).at)
      have SRCB := hid (fun (w' : World) (hb : Below W0.heap.size W0 w') => (FF.out.r2.1.below (B0.trans (hb.mono B0.size))).at)
      have NIL0 := hid (fun (e : A0 = none) => FF.out.nil0 l0.length c0 (by rw [e]))
      have NIL2 := hid (fun (e : A2 = none) => FF.out.nil2 l2.length c2 (by rw [e]))
      have ONE0 := hid (stp_one FF.out.r0)
      have ONE2 := hid (stp_one FF.out.r2)
      have RDB := hid (fun (v : Value) (w' : World) (hb : Below W0.heap.size W0 w') (ho : w'.ownsRow W0.heap.size 33 3 v (l0.length + l2.length) (stpCells l0 ++ stpCells l2)) => (show RdSt w' v (l0 ++ l2) from RdSt.own (by rw [stpCells_app]; exact ho) (by omega) (fun p hp => (List.mem_append.1 hp).elim (fun h => (FF.out.r0.2 p h).below (B0.trans (hb.mono B0.size))) (fun h => (FF.out.r2.2 p h).below (B0.trans (hb.mono B0.size))))))
      have BB0 := hid B0
      generalize renderF (sB a) (playK l0 l0.length).1 = x at *
      have HC : x = [] ∨ (x ≠ [] ∧ r = []) ∨ (x ≠ [] ∧ ∃ r', r = 10 :: r') := by
        by_cases hx0 : x = []
        · exact .inl hx0
        · rcases hr2 with h | h | h
          · exact .inl h
          · exact .inr (.inl ⟨hx0, h⟩)
          · exact .inr (.inr ⟨hx0, h⟩)
      clear hr2
      clear hext hr1 hblk FF HR2 hW0 B0 hno2 hbw D0 B5
      go_wp2_with fail
      rw [← HW0.out]
      go_region_held3 (fun w' => (w'.cell? ⟨wr.heap.size, 0, none⟩ = some (.int .i64 0) ∧ w'.cell? ⟨wr.heap.size, 1, none⟩ = some (.string ⟨a.toArray⟩) ∧ w'.cell? ⟨wr.heap.size, 2, none⟩ = some (.string ⟨a.toArray⟩) ∧ w'.cell? ⟨wr.heap.size, 3, none⟩ = some (.string ⟨a.toArray⟩) ∧ w'.cell? ⟨wr.heap.size, 4, none⟩ = some (.string ⟨a.toArray⟩) ∧ w'.cell? ⟨wr.heap.size, 5, none⟩ = some (.string ⟨#[32, 32]⟩) ∧ w'.cell? ⟨wr.heap.size, 6, none⟩ = some (.string ⟨a.toArray⟩) ∧ w'.cell? ⟨wr.heap.size, 7, none⟩ = some (.string ⟨#[10]⟩) ∧ w'.cell? ⟨wr.heap.size, 8, none⟩ = some (.string ⟨#[]⟩)) ∧ Below W0.heap.size W0 w') (first
        | exact GRS.out _ (below_drew _)
        | exact GRS.out _ (by assumption)
        | exact GRS.out _ (below_drew2 ((Below.refl _ W0).alloc (Nat.le_refl _) _))
        | exact GRS.out _ (Below.alloc (And.right ‹_ ∧ Below W0.heap.size W0 _›) (Below.size (And.right ‹_ ∧ Below W0.heap.size W0 _›)) _))
        (first
        | (refine step_append_read _ (by rfl) _ _ 22 33 (.agg #[.int .i64 0, .string ⟨#[]⟩, .slice none 0 0]) 3 48 (by rfl) Tryd.underlying22 infoStep (by rfl) (by decide) W0.heap.size v64 l0.length (stpCells l0) (by rfl) hown64 A2 l2.length c2 (stpCells l2) (by rfl) NIL2.out (stp_len l2) (SRCB.out _ (And.right ‹_ ∧ Below W0.heap.size W0 _›)) ONE2.out (by omega) (by decide) (Below.size (And.right ‹_ ∧ Below W0.heap.size W0 _›)) ?_; intro v66 w66 hown66 hg66; have hb66 := below_grown (And.right ‹_ ∧ Below W0.heap.size W0 _›) (Below.size (And.right ‹_ ∧ Below W0.heap.size W0 _›)) (Nat.le_refl _) hown64 hg66; have RB66 := hid (RDB.out _ _ hb66 hown66))
        | (refine step_append_read _ (by rfl) _ _ 22 33 (.agg #[.int .i64 0, .string ⟨#[]⟩, .slice none 0 0]) 3 48 (by rfl) Tryd.underlying22 infoStep (by rfl) (by decide) W0.heap.size (.slice (some ⟨W0.heap.size, 0, none⟩) 0 0) 0 [] (by rfl) OWNX.out A0 l0.length c0 (stpCells l0) (by rfl) NIL0.out (stp_len l0) (SRCA.out _ (And.right ‹_ ∧ Below W0.heap.size W0 _›)) ONE0.out (by omega) (by decide) (Below.size (And.right ‹_ ∧ Below W0.heap.size W0 _›)) ?_; intro v64 w64 hown64 hg64; rw [Nat.zero_add, List.nil_append] at hown64; have hb64 := below_grown (And.right ‹_ ∧ Below W0.heap.size W0 _›) (Below.size (And.right ‹_ ∧ Below W0.heap.size W0 _›)) (Nat.le_refl _) OWNX.out hg64)
        | (refine step_append_read _ (by rfl) _ _ 22 33 (.agg #[.int .i64 0, .string ⟨#[]⟩, .slice none 0 0]) 3 48 (by rfl) Tryd.underlying22 infoStep (by rfl) (by decide) W0.heap.size _ 0 [] (by rfl) (own_empty2 (Below.size hb61)) A0 l0.length c0 (stpCells l0) (by rfl) NIL0.out (stp_len l0) (SRCA.out _ (And.right ‹_ ∧ Below W0.heap.size W0 _›)) ONE0.out (by omega) (by decide) (Below.size (And.right ‹_ ∧ Below W0.heap.size W0 _›)) ?_; intro v64 w64 hown64 hg64; rw [Nat.zero_add, List.nil_append] at hown64; have hb64 := below_grown (And.right ‹_ ∧ Below W0.heap.size W0 _›) (Below.size (And.right ‹_ ∧ Below W0.heap.size W0 _›)) (Nat.le_refl _) (own_empty2 (Below.size hb61)) hg64)
        | (go_at_call 15; (refine (KRB.out _ _ RB66.out).mono ?_); rintro e w68 ⟨rfl, hb68'⟩; have hb68 := below_next hb66 hb68')
        | (go_at_call 15; (refine (KRA.out _ (And.right ‹_ ∧ Below W0.heap.size W0 _›)).mono ?_); rintro e w61 ⟨rfl, hb61'⟩; have hb61 := below_next (And.right ‹_ ∧ Below W0.heap.size W0 _›) hb61'; try have OWNX := hid (own_below (show (W0.alloc (.cells #[] 33)).drew.ownsRow W0.heap.size 33 3 (.slice (some ⟨W0.heap.size, 0, none⟩) 0 0) 0 [] from own_empty W0 33 3) hb61')))
      all_goals have BF := hid (below_next BB0.out (hb68.mono (Nat.le_refl _)))
      all_goals clear hb68 KRA KRB GRS SRCA SRCB NIL0 NIL2 ONE0 ONE2 RDB HW0 BB0 K1 K2 K3 K4 hd hd2
      all_goals rcases HC with h1 | ⟨h1, h2⟩ | ⟨h1, r', h2⟩
      all_goals first
        | (subst h1; go_wp2_with (go_at_call 16; (with_reducible refine (ltAlive_calls _).mono ?_); rintro e w69 ⟨rfl, hb69⟩); go_ret; exact ⟨rfl, below_next BF.out hb69⟩)
        | (subst h2; rw [List.append_nil]; have e1 : (x == []) = false := (by simpa using h1); have e2 : x.isEmpty = false := (by simpa using h1); go_wp2_with (go_at_call 16; (with_reducible refine (ltAlive_calls _).mono ?_); rintro e w69 ⟨rfl, hb69⟩); go_ret; exact ⟨rfl, below_next BF.out hb69⟩)
        | skip
      all_goals
        subst h2
        have e1 : (x == []) = false := by simpa using h1
        have e2 : x.isEmpty = false := by simpa using h1
        have e3 : (x ++ 10 :: r' == x) = false := by simp
        have e4 : decide ((x.length : Int) ≤ ((x ++ 10 :: r').length : Int)) = true := decide_eq_true (by simp; omega)
        have e5 : (x.length : Int) < ((x ++ 10 :: r').length : Int) := by simp; omega
        go_wp2_with (go_at_call 16; (with_reducible refine (ltAlive_calls _).mono ?_); rintro e w69 ⟨rfl, hb69⟩)
      all_goals first
        | (go_ret; exact ⟨rfl, below_next BF.out hb69⟩)
        | (rename_i hN; exact absurd (idx10 x r' _) hN)
end Go.Proofs.YteenhipldfdkaaaDoor
