import Derived.Test.YteenhipldfdkaaaDoorSc
import Derived.Test.YteenhipldfdkaaaDoorPq
import Derived.Test.YteenhipldfdkaaaDoorOp
import Derived.Test.YteenhipldfdkaaaDoorPx1
namespace Go.Proofs.YteenhipldfdkaaaDoor.P
open Go.RowKit Go.ChangeShapes Go.Deep Go.Proofs.YteenhipldfdkaaaDoorW.PrintWords Go.Proofs.YteenhipldfdkaaaDoorW.PrintLast Go.Proofs.YteenhipldfdkaaaDoorW.PrintMore
set_option linter.unusedVariables false
set_option linter.unusedSimpArgs false
set_option maxRecDepth 100000
set_option maxHeartbeats 2000000

/-- a style that came in -/
theorem opens_style (H : Type) (enc : TypeId × Value → H) (W : World) (spare : Nat → Bool) (held : Bool) (fuel : Nat) (cs : List Value) (x : DataW H × List MemPlace) (h : DataW.trod enc Tryd.prog W 0 spare held fuel 29 cs = some x) : ∃ s : Sty, s.name = [] ∧ cs = [.int .i64 s.fmt, .string ⟨s.single.toArray⟩, .string ⟨s.top.toArray⟩, .string ⟨s.first.toArray⟩, .string ⟨s.middle.toArray⟩, .string ⟨s.vert.toArray⟩, .string ⟨s.bottom.toArray⟩, .string ⟨s.newline.toArray⟩, .string ⟨s.pre.toArray⟩] := by
  obtain ⟨xs, n, _, rfl, hl, hlen, hf⟩ := DataW.trod_struct Tryd.underlying29 h
  have hl9 : cs.length = 9 := hl
  obtain ⟨c0, c1, c2, c3, c4, c5, c6, c7, c8, rfl⟩ : ∃ c0 c1 c2 c3 c4 c5 c6 c7 c8, cs = [c0, c1, c2, c3, c4, c5, c6, c7, c8] := by
    match cs, hl9 with
    | [a0, a1, a2, a3, a4, a5, a6, a7, a8], _ => exact ⟨a0, a1, a2, a3, a4, a5, a6, a7, a8, rfl⟩
  match xs, hlen with
  | [y0, y1, y2, y3, y4, y5, y6, y7, y8], _ =>
    obtain ⟨v0, k0, _⟩ := opens_int (k := .i64) Tryd.underlying3 H enc W spare held n [c0] y0 (hf 0 _ rfl)
    obtain ⟨v1, k1, _⟩ := opens_string H enc W spare held n [c1] y1 (hf 1 _ rfl)
    obtain ⟨v2, k2, _⟩ := opens_string H enc W spare held n [c2] y2 (hf 2 _ rfl)
    obtain ⟨v3, k3, _⟩ := opens_string H enc W spare held n [c3] y3 (hf 3 _ rfl)
    obtain ⟨v4, k4, _⟩ := opens_string H enc W spare held n [c4] y4 (hf 4 _ rfl)
    obtain ⟨v5, k5, _⟩ := opens_string H enc W spare held n [c5] y5 (hf 5 _ rfl)
    obtain ⟨v6, k6, _⟩ := opens_string H enc W spare held n [c6] y6 (hf 6 _ rfl)
    obtain ⟨v7, k7, _⟩ := opens_string H enc W spare held n [c7] y7 (hf 7 _ rfl)
    obtain ⟨v8, k8, _⟩ := opens_string H enc W spare held n [c8] y8 (hf 8 _ rfl)
    have h0 : [c0] = [.int .i64 v0] := k0
    have h1 : [c1] = [.string v1] := k1
    have h2 : [c2] = [.string v2] := k2
    have h3 : [c3] = [.string v3] := k3
    have h4 : [c4] = [.string v4] := k4
    have h5 : [c5] = [.string v5] := k5
    have h6 : [c6] = [.string v6] := k6
    have h7 : [c7] = [.string v7] := k7
    have h8 : [c8] = [.string v8] := k8
    simp only [List.cons.injEq, and_true] at h0 h1 h2 h3 h4 h5 h6 h7 h8
    subst h0 h1 h2 h3 h4 h5 h6 h7 h8
    exact ⟨⟨v0, L v1, L v2, L v3, L v4, L v5, L v6, L v7, L v8, []⟩, rfl, by simp only [S_L]⟩
theorem split_calls (A0 : Option Addr) (c0 : Nat) (l0 : List Stp') (s : Sty) (hname : s.name = []) (w : World) (hr0 : Kd.C k33 w A0 l0.length l0) (hc0 : l0.length ≤ c0) :
    Calls Tryd.prog 6 #[.slice A0 l0.length c0, .agg #[.int .i64 s.fmt, .string ⟨s.single.toArray⟩, .string ⟨s.top.toArray⟩, .string ⟨s.first.toArray⟩, .string ⟨s.middle.toArray⟩, .string ⟨s.vert.toArray⟩, .string ⟨s.bottom.toArray⟩, .string ⟨s.newline.toArray⟩, .string ⟨s.pre.toArray⟩]] w fun e w' => e = .returned (.bool true) ∧ Below w.heap.size w w' := by
  obtain ⟨b1, hb1, f1⟩ := fits11 l0
  obtain ⟨k1, hk1⟩ := Ev.rounds hb1
  have K1 : Tells w 8 (.slice A0 l0.length c0) b1 := fun w1 hb => laws_zzFits11.calls k1 A0 c0 l0 b1 w1 (Kd.C_below hr0 hb) hc0 hk1
  cases b1 with
  | false => exact split_e1 _ _ _ K1
  | true =>
  obtain ⟨g1, _⟩ := f1 rfl
  cases hf : fits14B s with
  | false => exact split_e2 _ _ _ K1 hf
  | true =>
  obtain ⟨b3, hb3, f3⟩ := right_f l0 g1
  obtain ⟨k3, hk3⟩ := Ev.rounds hb3
  have K3 : Tells w 9 (.slice A0 l0.length c0) b3 := fun w1 hb => spec_LtRight.calls k3 A0 c0 l0 b3 w1 (Kd.C_below hr0 hb) hc0 hk3
  cases b3 with
  | false => exact split_e3 _ _ _ K1 hf K3
  | true =>
  obtain ⟨g3, r3⟩ := f3 rfl
  cases hst : ltStyledB s with
  | false => exact split_e4 _ _ _ K1 hf K3 hst
  | true =>
  obtain ⟨m0, e0, R0⟩ := rdSt_of hr0 hc0 (by omega) (fun x hx => by have := (r3 x hx).2.2.1; omega)
  have h0 : m0.length = l0.length := by have := congrArg List.length e0; simpa using this
  obtain ⟨hs, hfmt⟩ := ltStyled_facts hst
  exact split_main _ s w m0 K1 hf K3 hst hs hname hfmt (by omega) (stSh_of e0 (fun x hx => shOk_of (r3 x hx))) R0
end Go.Proofs.YteenhipldfdkaaaDoor.P
