import Derived.Test.YteenhipldfdkaaaDoorGv
import Derived.Test.YteenhipldfdkaaaDoorPq
import Derived.Test.YteenhipldfdkaaaDoorOp
import Derived.Test.YteenhipldfdkaaaDoorPx1
namespace Go.Proofs.YteenhipldfdkaaaDoor.P
open Go.RowKit Go.ChangeShapes Go.Deep Go.Proofs.YteenhipldfdkaaaDoorW.PrintWords Go.Proofs.YteenhipldfdkaaaDoorW.PrintLast Go.Proofs.YteenhipldfdkaaaDoorW.PrintMore
set_option linter.unusedVariables false
set_option linter.unusedSimpArgs false
set_option maxRecDepth 100000
set_option maxHeartbeats 2000000

/-- a nil slice of steps has no room -/
theorem steps_nil (H : Type) (enc : TypeId × Value → H) (W : World) (spare : Nat → Bool) (held : Bool) (fuel : Nat) (cs : List Value) (x : DataW H × List MemPlace) (h : DataW.trod enc Tryd.prog W 0 spare held fuel 22 cs = some x) (A : Option Addr) (n c : Nat) (hc : cs = [.slice A n c]) (hA : A = none) : c = 0 := by
  subst hA
  rcases open_slice Tryd.underlying22 h with ⟨h1, _⟩ | ⟨a, len, cap, mm, n', D, Pl, h1, _⟩
  · rw [hc] at h1
    simp at h1
    exact h1.2
  · rw [hc] at h1
    simp at h1
theorem grows_calls (A0 : Option Addr) (c0 : Nat) (l0 : List Stp') (A2 : Option Addr) (c2 : Nat) (l2 : List Stp') (a1 : ByteArray) (w : World)
    (hr0 : Kd.C k33 w A0 l0.length l0) (hc0 : l0.length ≤ c0) (hn0 : A0 = none → c0 = 0) (hr2 : Kd.C k33 w A2 l2.length l2) (hc2 : l2.length ≤ c2) (hn2 : A2 = none → c2 = 0) :
    Calls Tryd.prog 4 #[.slice A0 l0.length c0, .slice A2 l2.length c2, .string a1] w fun e w' => e = .returned (.bool true) ∧ Below w.heap.size w w' := by
  rw [← S_L a1]
  generalize L a1 = a
  obtain ⟨b1, hb1, f1⟩ := fits11 l0
  obtain ⟨k1, hk1⟩ := Ev.rounds hb1
  have K1 : Tells w 8 (.slice A0 l0.length c0) b1 := fun w1 hb => laws_zzFits11.calls k1 A0 c0 l0 b1 w1 (Kd.C_below hr0 hb) hc0 hk1
  cases b1 with
  | false => exact grows_e1 _ _ _ _ K1
  | true =>
  obtain ⟨g1, _⟩ := f1 rfl
  obtain ⟨b2, hb2, f2⟩ := fits11 l2
  obtain ⟨k2, hk2⟩ := Ev.rounds hb2
  have K2 : Tells w 8 (.slice A2 l2.length c2) b2 := fun w1 hb => laws_zzFits11.calls k2 A2 c2 l2 b2 w1 (Kd.C_below hr2 hb) hc2 hk2
  cases b2 with
  | false => exact grows_e2 _ _ _ _ K1 K2
  | true =>
  obtain ⟨g2, _⟩ := f2 rfl
  by_cases hs : 2147483647 < (a.length : Int)
  · exact grows_e3 _ _ _ _ K1 K2 hs
  obtain ⟨b3, hb3, f3⟩ := right_f l0 g1
  obtain ⟨k3, hk3⟩ := Ev.rounds hb3
  have K3 : Tells w 9 (.slice A0 l0.length c0) b3 := fun w1 hb => spec_LtRight.calls k3 A0 c0 l0 b3 w1 (Kd.C_below hr0 hb) hc0 hk3
  cases b3 with
  | false => exact grows_e4 _ _ _ _ K1 K2 hs K3
  | true =>
  obtain ⟨g3, r3⟩ := f3 rfl
  obtain ⟨b4, hb4, f4⟩ := right_f l2 g2
  obtain ⟨k4, hk4⟩ := Ev.rounds hb4
  have K4 : Tells w 9 (.slice A2 l2.length c2) b4 := fun w1 hb => spec_LtRight.calls k4 A2 c2 l2 b4 w1 (Kd.C_below hr2 hb) hc2 hk4
  cases b4 with
  | false => exact grows_e5 _ _ _ _ K1 K2 hs K3 K4
  | true =>
  obtain ⟨g4, r4⟩ := f4 rfl
  by_cases hs2 : 20 < (a.length : Int)
  · exact grows_e6 _ _ _ _ K1 K2 hs K3 K4 hs2
  cases hsim : txSimple ⟨a.toArray⟩ false with
  | false => exact grows_e7 _ _ _ _ K1 K2 hs K3 K4 hs2 hsim
  | true =>
  obtain ⟨m0, e0, R0⟩ := rdSt_of hr0 hc0 (by omega) (fun x hx => by have := (r3 x hx).2.2.1; omega)
  obtain ⟨m2, e2, R2⟩ := rdSt_of hr2 hc2 (by omega) (fun x hx => by have := (r4 x hx).2.2.1; omega)
  have h0 : m0.length = l0.length := by have := congrArg List.length e0; simpa using this
  have h2 : m2.length = l2.length := by have := congrArg List.length e2; simpa using this
  have s0 := stSh_of e0 (fun x hx => shOk_of (r3 x hx))
  have s2 := stSh_of e2 (fun x hx => shOk_of (r4 x hx))
  have hcl : Cl a := by
    have := (Kn.of_simple hsim).clean
    simpa using this
  have F : UndoneFacts w (.slice A0 l0.length c0) (.slice A2 l2.length c2) a m0 m2 := ⟨R0, R2, by omega, by omega, s0, s2, hcl, fun n c e => by injection e with e1 e2 e3; subst e3; exact hn0 e1, fun n c e => by injection e with e1 e2 e3; subst e3; exact hn2 e1⟩
  rw [← h0] at K1 K3 F ⊢
  rw [← h2] at K2 K4 F ⊢
  exact grows_main a w A0 A2 c0 c2 m0 m2 K1 hs2 K2 K3 K4 hsim F
end Go.Proofs.YteenhipldfdkaaaDoor.P
