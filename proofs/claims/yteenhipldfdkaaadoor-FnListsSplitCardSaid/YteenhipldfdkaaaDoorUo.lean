import Derived.Test.YteenhipldfdkaaaDoorUn
namespace Go.Proofs.YteenhipldfdkaaaDoor
open Go.RowKit
set_option linter.unusedVariables false
set_option linter.unusedSimpArgs false
set_option maxHeartbeats 4000000
set_option maxRecDepth 100000
attribute [local go_sem] S_extract S_append run_cut_S run_head_S run_tail_S Nat.add_sub_cancel_left

theorem below_next {w w1 w2 : World} (h : Below w.heap.size w w1) (k : Below w1.heap.size w1 w2) : Below w.heap.size w w2 := h.trans (k.mono h.size)
section
variable (v0 v2 : Value) (a : List UInt8) (w : World)
/-- what the walk's answer says -/
abbrev UndoneSaid : Prop := Calls Tryd.prog 7 #[v0, .string ⟨a.toArray⟩, v2] w fun e w' => e = .returned (.bool true) ∧ Below w.heap.size w w'
abbrev Tells (w : World) (f : Nat) (v : Value) (b : Bool) : Prop := ∀ w1 : World, Below w.heap.size w w1 → Calls Tryd.prog f #[v] w1 fun e w' => e = .returned (.bool b) ∧ Below w1.heap.size w1 w'

theorem undone_e1 (K1 : Tells w 8 v0 false) : UndoneSaid v0 v2 a w := by
  have K1 := hid K1
  have D0 := hid (Below.refl w.heap.size w)
  go_enter Tryd.func7, Tryd.ntmps7
  go_wp2_with (go_at_call 8; (with_reducible refine (K1.out _ D0.out).mono ?_); rintro e w1 ⟨rfl, hb1⟩)
  go_ret
  exact ⟨rfl, hb1⟩
theorem undone_e2 (K1 : Tells w 8 v0 true) (hs : 2147483647 < (a.length : Int)) : UndoneSaid v0 v2 a w := by
  have K1 := hid K1
  have D0 := hid (Below.refl w.heap.size w)
  have hd : decide (2147483647 < (a.length : Int)) = true := decide_eq_true hs
  go_enter Tryd.func7, Tryd.ntmps7
  go_wp2_with (go_at_call 8; (with_reducible refine (K1.out _ D0.out).mono ?_); rintro e w1 ⟨rfl, hb1⟩)
  go_ret
  exact ⟨rfl, hb1⟩
theorem undone_e3 (K1 : Tells w 8 v0 true) (hs : ¬ 2147483647 < (a.length : Int)) (K2 : Tells w 8 v2 false) : UndoneSaid v0 v2 a w := by
  have K1 := hid K1
  have D0 := hid (Below.refl w.heap.size w)
  have K2 := hid K2
  have hd : decide (2147483647 < (a.length : Int)) = false := decide_eq_false hs
  go_enter Tryd.func7, Tryd.ntmps7
  go_wp2_with (first
    | (go_at_call 8; (with_reducible refine (K1.out _ D0.out).mono ?_); rintro e w1 ⟨rfl, hb1⟩; clear K1)
    | (go_at_call 8; (with_reducible refine (K2.out _ hb1).mono ?_); rintro e w2 ⟨rfl, hb2⟩))
  go_ret
  exact ⟨rfl, hb1.trans (hb2.mono hb1.size)⟩
theorem undone_e4 (K1 : Tells w 8 v0 true) (hs : ¬ 2147483647 < (a.length : Int)) (K2 : Tells w 8 v2 true) (K3 : Tells w 9 v0 false) : UndoneSaid v0 v2 a w := by
  have K1 := hid K1
  have D0 := hid (Below.refl w.heap.size w)
  have K2 := hid K2
  have K3 := hid K3
  have hd : decide (2147483647 < (a.length : Int)) = false := decide_eq_false hs
  go_enter Tryd.func7, Tryd.ntmps7
  go_wp2_with (first
    | (go_at_call 8; (with_reducible refine (K1.out _ D0.out).mono ?_); rintro e w1 ⟨rfl, hb1⟩; clear K1)
    | (go_at_call 8; (with_reducible refine (K2.out _ hb1).mono ?_); rintro e w2 ⟨rfl, hb2⟩; clear K2)
    | (go_at_call 9; (with_reducible refine (K3.out _ (below_next hb1 hb2)).mono ?_); rintro e w3 ⟨rfl, hb3⟩; clear K3))
  go_ret
  exact ⟨rfl, (below_next (below_next hb1 hb2) hb3)⟩
theorem undone_e5 (K1 : Tells w 8 v0 true) (hs : ¬ 2147483647 < (a.length : Int)) (K2 : Tells w 8 v2 true) (K3 : Tells w 9 v0 true) (K4 : Tells w 9 v2 false) : UndoneSaid v0 v2 a w := by
  have K1 := hid K1
  have D0 := hid (Below.refl w.heap.size w)
  have K2 := hid K2
  have K3 := hid K3
  have K4 := hid K4
  have hd : decide (2147483647 < (a.length : Int)) = false := decide_eq_false hs
  go_enter Tryd.func7, Tryd.ntmps7
  go_wp2_with (first
    | (go_at_call 8; (with_reducible refine (K1.out _ D0.out).mono ?_); rintro e w1 ⟨rfl, hb1⟩; clear K1)
    | (go_at_call 8; (with_reducible refine (K2.out _ hb1).mono ?_); rintro e w2 ⟨rfl, hb2⟩; clear K2)
    | (go_at_call 9; (with_reducible refine (K3.out _ (below_next hb1 hb2)).mono ?_); rintro e w3 ⟨rfl, hb3⟩; clear K3)
    | (go_at_call 9; (with_reducible refine (K4.out _ (below_next (below_next hb1 hb2) hb3)).mono ?_); rintro e w4 ⟨rfl, hb4⟩; clear K4))
  go_ret
  exact ⟨rfl, (below_next (below_next (below_next hb1 hb2) hb3) hb4)⟩
theorem undone_e6 (K1 : Tells w 8 v0 true) (hs : ¬ 2147483647 < (a.length : Int)) (K2 : Tells w 8 v2 true) (K3 : Tells w 9 v0 true) (K4 : Tells w 9 v2 true) (hs2 : 200 < (a.length : Int)) : UndoneSaid v0 v2 a w := by
  have K1 := hid K1
  have D0 := hid (Below.refl w.heap.size w)
  have K2 := hid K2
  have K3 := hid K3
  have K4 := hid K4
  have hd : decide (2147483647 < (a.length : Int)) = false := decide_eq_false hs
  have hd2 : decide (200 < (a.length : Int)) = true := decide_eq_true hs2
  go_enter Tryd.func7, Tryd.ntmps7
  go_wp2_with (first
    | (go_at_call 8; (with_reducible refine (K1.out _ D0.out).mono ?_); rintro e w1 ⟨rfl, hb1⟩; clear K1)
    | (go_at_call 8; (with_reducible refine (K2.out _ hb1).mono ?_); rintro e w2 ⟨rfl, hb2⟩; clear K2)
    | (go_at_call 9; (with_reducible refine (K3.out _ (below_next hb1 hb2)).mono ?_); rintro e w3 ⟨rfl, hb3⟩; clear K3)
    | (go_at_call 9; (with_reducible refine (K4.out _ (below_next (below_next hb1 hb2) hb3)).mono ?_); rintro e w4 ⟨rfl, hb4⟩; clear K4))
  go_ret
  exact ⟨rfl, (below_next (below_next (below_next hb1 hb2) hb3) hb4)⟩
theorem undone_e7 (K1 : Tells w 8 v0 true) (hs : ¬ 2147483647 < (a.length : Int)) (K2 : Tells w 8 v2 true) (K3 : Tells w 9 v0 true) (K4 : Tells w 9 v2 true) (hs2 : ¬ 200 < (a.length : Int)) (hsim : txSimple ⟨a.toArray⟩ false = false) : UndoneSaid v0 v2 a w := by
  have K1 := hid K1
  have D0 := hid (Below.refl w.heap.size w)
  have K2 := hid K2
  have K3 := hid K3
  have K4 := hid K4
  have hd : decide (2147483647 < (a.length : Int)) = false := decide_eq_false hs
  have hd2 : decide (200 < (a.length : Int)) = false := decide_eq_false hs2
  have K5 := hid (fun (w' : World) => TxSimple_calls ⟨a.toArray⟩ false w' (by rw [S_size]; omega))
  rw [hsim] at K5
  go_enter Tryd.func7, Tryd.ntmps7
  go_wp2_with (first
    | (go_at_call 8; (with_reducible refine (K1.out _ D0.out).mono ?_); rintro e w1 ⟨rfl, hb1⟩; clear K1)
    | (go_at_call 8; (with_reducible refine (K2.out _ hb1).mono ?_); rintro e w2 ⟨rfl, hb2⟩; clear K2)
    | (go_at_call 9; (with_reducible refine (K3.out _ (below_next hb1 hb2)).mono ?_); rintro e w3 ⟨rfl, hb3⟩; clear K3)
    | (go_at_call 9; (with_reducible refine (K4.out _ (below_next (below_next hb1 hb2) hb3)).mono ?_); rintro e w4 ⟨rfl, hb4⟩; clear K4)
    | (go_at_call 14; (with_reducible refine (K5.out _).mono ?_); rintro e w5 ⟨rfl, hb5⟩; clear K5))
  go_ret
  exact ⟨rfl, (below_next (below_next (below_next (below_next hb1 hb2) hb3) hb4) hb5)⟩
end
end Go.Proofs.YteenhipldfdkaaaDoor
