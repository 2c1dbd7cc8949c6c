import Derived.Test.YthjpchabeemfmaaGreatDoorFf
import Derived.Test.YthjpchabeemfmaaGreatDoorOp
import Derived.Test.YthjpchabeemfmaaGreatDoorLg
namespace Go.Proofs.YthjpchabeemfmaaGreatDoor.P
open Go.RowKit Go.ChangeShapes Go.Deep Go.Proofs.YthjpchabeemfmaaGreatDoorW.PrintWords Go.Proofs.YthjpchabeemfmaaGreatDoorW.PrintLast Go.Proofs.YthjpchabeemfmaaGreatDoorW.PrintMore
set_option linter.unusedVariables false
set_option linter.unusedSimpArgs false
set_option maxRecDepth 100000
set_option maxHeartbeats 2000000

/-- a style that came in -/
theorem opens_style (H : Type) (enc : TypeId × Value → H) (W : World) (spare : Nat → Bool) (held : Bool) (fuel : Nat) (cs : List Value) (x : DataW H × List MemPlace) (h : DataW.trod enc Tryz.prog W 0 spare held fuel 24 cs = some x) : ∃ s : Sty, s.name = [] ∧ cs = [.int .i64 s.fmt, .string ⟨s.single.toArray⟩, .string ⟨s.top.toArray⟩, .string ⟨s.first.toArray⟩, .string ⟨s.middle.toArray⟩, .string ⟨s.vert.toArray⟩, .string ⟨s.bottom.toArray⟩, .string ⟨s.newline.toArray⟩, .string ⟨s.pre.toArray⟩] := by
  obtain ⟨xs, n, _, rfl, hl, hlen, hf⟩ := DataW.trod_struct Tryz.underlying24 h
  have hl9 : cs.length = 9 := hl
  obtain ⟨c0, c1, c2, c3, c4, c5, c6, c7, c8, rfl⟩ : ∃ c0 c1 c2 c3 c4 c5 c6 c7 c8, cs = [c0, c1, c2, c3, c4, c5, c6, c7, c8] := by
    match cs, hl9 with
    | [a0, a1, a2, a3, a4, a5, a6, a7, a8], _ => exact ⟨a0, a1, a2, a3, a4, a5, a6, a7, a8, rfl⟩
  match xs, hlen with
  | [y0, y1, y2, y3, y4, y5, y6, y7, y8], _ =>
    obtain ⟨v0, k0, _⟩ := opens_int (k := .i64) Tryz.underlying3 H enc W spare held n [c0] y0 (hf 0 _ rfl)
    obtain ⟨v1, k1, _⟩ := opens_string H enc W spare held n [c1] y1 (hf 1 _ rfl)
    obtain ⟨v2, k2, _⟩ := opens_string H enc W spare held n [c2] y2 (hf 2 _ rfl)
    obtain ⟨v3, k3, _⟩ := opens_string H enc W spare held n [c3] y3 (hf 3 _ rfl)
    obtain ⟨v4, k4, _⟩ := opens_string H enc W spare held n [c4] y4 (hf 4 _ rfl)
    obtain ⟨v5, k5, _⟩ := opens_string H enc W spare held n [c5] y5 (hf 5 _ rfl)
    obtain ⟨v6, k6, _⟩ := opens_string H enc W spare held n [c6] y6 (hf 6 _ rfl)
    obtain ⟨v7, k7, _⟩ := opens_string H enc W spare held n [c7] y7 (hf 7 _ rfl)
    obtain ⟨v8, k8, _⟩ := opens_string H enc W spare held n [c8] y8 (hf 8 _ rfl)
    have h0 : [c0] = [.int .i64 v0] := k0
    have h1 : [c1] = [.string v1] := k1
    have h2 : [c2] = [.string v2] := k2
    have h3 : [c3] = [.string v3] := k3
    have h4 : [c4] = [.string v4] := k4
    have h5 : [c5] = [.string v5] := k5
    have h6 : [c6] = [.string v6] := k6
    have h7 : [c7] = [.string v7] := k7
    have h8 : [c8] = [.string v8] := k8
    simp only [List.cons.injEq, and_true] at h0 h1 h2 h3 h4 h5 h6 h7 h8
    subst h0 h1 h2 h3 h4 h5 h6 h7 h8
    exact ⟨⟨v0, L v1, L v2, L v3, L v4, L v5, L v6, L v7, L v8, []⟩, rfl, by simp only [S_L]⟩
end Go.Proofs.YthjpchabeemfmaaGreatDoor.P
