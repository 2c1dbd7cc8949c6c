import Derived.Test.YthjpchabeemfmaaGreatDoorOs
import Derived.Test.YthjpchabeemfmaaGreatDoorSa
import Derived.Test.YthjpchabeemfmaaGreatDoorMd
namespace Go.Proofs.YthjpchabeemfmaaGreatDoor.P
open Go.RowKit Go.Proofs.YthjpchabeemfmaaGreatDoorW.PrintWords Go.Proofs.YthjpchabeemfmaaGreatDoorW.PrintLast Go.Proofs.YthjpchabeemfmaaGreatDoorW.PrintMore
set_option linter.unusedVariables false
set_option linter.unusedSimpArgs false
set_option maxHeartbeats 4000000
set_option maxRecDepth 100000

def sty9 (f : Int) (a b c d e g h i : ByteArray) : Sty := ⟨f, L a, L b, L c, L d, L e, L g, L h, L i, []⟩
instance (s : Sty) : Decidable (ShortSt s) := decidable_of_iff (s.single.length ≤ 20 ∧ s.top.length ≤ 20 ∧ s.first.length ≤ 20 ∧ s.middle.length ≤ 20 ∧ s.vert.length ≤ 20 ∧ s.bottom.length ≤ 20 ∧ s.newline.length ≤ 20 ∧ s.pre.length ≤ 20) ⟨fun ⟨a, b, c, d, e, f, g, h⟩ => ⟨a, b, c, d, e, f, g, h⟩, fun h => ⟨h.single, h.top, h.first, h.middle, h.vert, h.bottom, h.newline, h.pre⟩⟩
theorem sty9_val (f : Int) (a b c d e g h i : ByteArray) : (.agg #[.int .i64 (sty9 f a b c d e g h i).fmt, .string ⟨(sty9 f a b c d e g h i).single.toArray⟩, .string ⟨(sty9 f a b c d e g h i).top.toArray⟩, .string ⟨(sty9 f a b c d e g h i).first.toArray⟩, .string ⟨(sty9 f a b c d e g h i).middle.toArray⟩, .string ⟨(sty9 f a b c d e g h i).vert.toArray⟩, .string ⟨(sty9 f a b c d e g h i).bottom.toArray⟩, .string ⟨(sty9 f a b c d e g h i).newline.toArray⟩, .string ⟨(sty9 f a b c d e g h i).pre.toArray⟩] : Value) = .agg #[.int .i64 f, .string a, .string b, .string c, .string d, .string e, .string g, .string h, .string i] := by
  simp only [sty9, S_L]

def impl_ListRender.f (l0 : List S39) (a1_0 : Int) (a1_1 : ByteArray) (a1_2 : ByteArray) (a1_3 : ByteArray) (a1_4 : ByteArray) (a1_5 : ByteArray) (a1_6 : ByteArray) (a1_7 : ByteArray) (a1_8 : ByteArray) : Option ByteArray := if l0.length ≤ 200 ∧ (∀ x ∈ l0, ShOk x) ∧ ShortSt (sty9 a1_0 a1_1 a1_2 a1_3 a1_4 a1_5 a1_6 a1_7 a1_8) ∧ a1_0 = 0 then some (S (renderF (sty9 a1_0 a1_1 a1_2 a1_3 a1_4 a1_5 a1_6 a1_7 a1_8) (itemsOf l0))) else none
theorem impl_ListRender.calls (A0 : Option Addr) (c0 : Nat) (l0 : List S39) (a1_0 : Int) (a1_1 : ByteArray) (a1_2 : ByteArray) (a1_3 : ByteArray) (a1_4 : ByteArray) (a1_5 : ByteArray) (a1_6 : ByteArray) (a1_7 : ByteArray) (a1_8 : ByteArray) (r : ByteArray) (w : World) (hr0 : Kd.C k39 w A0 l0.length l0) (hc0 : l0.length ≤ c0) (h : impl_ListRender.f l0 a1_0 a1_1 a1_2 a1_3 a1_4 a1_5 a1_6 a1_7 a1_8 = some r) :
    Calls Tryz.prog 12 #[.slice A0 l0.length c0, .agg #[.int .i64 a1_0, .string a1_1, .string a1_2, .string a1_3, .string a1_4, .string a1_5, .string a1_6, .string a1_7, .string a1_8]] w fun e w' => e = .returned (.string r) ∧ Below w.heap.size w w' := by
  unfold impl_ListRender.f at h
  split at h
  · rename_i hs
    obtain ⟨h1, h2, h3⟩ := hs
    injection h with h
    subst h
    obtain ⟨l, hl, hR⟩ := rdSt_of hr0 hc0 (by omega) (fun x hx => by have := (h2 x hx).2.2.1; omega)
    have hlen : l.length = l0.length := by have := congrArg List.length hl; simpa using this
    have := ListRender_calls l _ (sty9 a1_0 a1_1 a1_2 a1_3 a1_4 a1_5 a1_6 a1_7 a1_8) h3.1 rfl h3.2 w (by omega) (stSh_of hl h2) hR
    rw [sty9_val, itemsOf_eq hl] at this
    exact this
  · cases h
def impl_ListMarkdown.f (l0 : List S39) (a1_0 : Int) (a1_1 : ByteArray) (a1_2 : ByteArray) (a1_3 : ByteArray) (a1_4 : ByteArray) (a1_5 : ByteArray) (a1_6 : ByteArray) (a1_7 : ByteArray) (a1_8 : ByteArray) : Option ByteArray := if l0.length ≤ 200 ∧ (∀ x ∈ l0, ShOk x) ∧ True then some (S (renderF mdS (itemsOf l0))) else none
theorem impl_ListMarkdown.calls (A0 : Option Addr) (c0 : Nat) (l0 : List S39) (a1_0 : Int) (a1_1 : ByteArray) (a1_2 : ByteArray) (a1_3 : ByteArray) (a1_4 : ByteArray) (a1_5 : ByteArray) (a1_6 : ByteArray) (a1_7 : ByteArray) (a1_8 : ByteArray) (r : ByteArray) (w : World) (hr0 : Kd.C k39 w A0 l0.length l0) (hc0 : l0.length ≤ c0) (h : impl_ListMarkdown.f l0 a1_0 a1_1 a1_2 a1_3 a1_4 a1_5 a1_6 a1_7 a1_8 = some r) :
    Calls Tryz.prog 14 #[.slice A0 l0.length c0, .agg #[.int .i64 a1_0, .string a1_1, .string a1_2, .string a1_3, .string a1_4, .string a1_5, .string a1_6, .string a1_7, .string a1_8]] w fun e w' => e = .returned (.string r) ∧ Below w.heap.size w w' := by
  unfold impl_ListMarkdown.f at h
  split at h
  · rename_i hs
    obtain ⟨h1, h2, h3⟩ := hs
    injection h with h
    subst h
    obtain ⟨l, hl, hR⟩ := rdSt_of hr0 hc0 (by omega) (fun x hx => by have := (h2 x hx).2.2.1; omega)
    have hlen : l.length = l0.length := by have := congrArg List.length hl; simpa using this
    have := ListMarkdown_calls l _ (sty9 a1_0 a1_1 a1_2 a1_3 a1_4 a1_5 a1_6 a1_7 a1_8) rfl w (by omega) (stSh_of hl h2) hR
    rw [sty9_val, itemsOf_eq hl] at this
    exact this
  · cases h
def spec_LsStyled.f (a0_0 : Int) (a0_1 : ByteArray) (a0_2 : ByteArray) (a0_3 : ByteArray) (a0_4 : ByteArray) (a0_5 : ByteArray) (a0_6 : ByteArray) (a0_7 : ByteArray) (a0_8 : ByteArray) : Option Bool := some (lsStyledB (sty9 a0_0 a0_1 a0_2 a0_3 a0_4 a0_5 a0_6 a0_7 a0_8))
theorem spec_LsStyled.calls (a0_0 : Int) (a0_1 : ByteArray) (a0_2 : ByteArray) (a0_3 : ByteArray) (a0_4 : ByteArray) (a0_5 : ByteArray) (a0_6 : ByteArray) (a0_7 : ByteArray) (a0_8 : ByteArray) (r : Bool) (w : World) (h : spec_LsStyled.f a0_0 a0_1 a0_2 a0_3 a0_4 a0_5 a0_6 a0_7 a0_8 = some r) : Calls Tryz.prog 9 #[.agg #[.int .i64 a0_0, .string a0_1, .string a0_2, .string a0_3, .string a0_4, .string a0_5, .string a0_6, .string a0_7, .string a0_8]] w fun e w' => e = .returned (.bool r) ∧ Below w.heap.size w w' := by
  unfold spec_LsStyled.f at h
  injection h with h
  subst h
  have := LsStyled_calls (sty9 a0_0 a0_1 a0_2 a0_3 a0_4 a0_5 a0_6 a0_7 a0_8) w
  rw [sty9_val] at this
  exact this
def laws_zzFits14.f (a0_0 : Int) (a0_1 : ByteArray) (a0_2 : ByteArray) (a0_3 : ByteArray) (a0_4 : ByteArray) (a0_5 : ByteArray) (a0_6 : ByteArray) (a0_7 : ByteArray) (a0_8 : ByteArray) : Option Bool := some (fits14B (sty9 a0_0 a0_1 a0_2 a0_3 a0_4 a0_5 a0_6 a0_7 a0_8))
theorem laws_zzFits14.calls (a0_0 : Int) (a0_1 : ByteArray) (a0_2 : ByteArray) (a0_3 : ByteArray) (a0_4 : ByteArray) (a0_5 : ByteArray) (a0_6 : ByteArray) (a0_7 : ByteArray) (a0_8 : ByteArray) (r : Bool) (w : World) (h : laws_zzFits14.f a0_0 a0_1 a0_2 a0_3 a0_4 a0_5 a0_6 a0_7 a0_8 = some r) : Calls Tryz.prog 5 #[.agg #[.int .i64 a0_0, .string a0_1, .string a0_2, .string a0_3, .string a0_4, .string a0_5, .string a0_6, .string a0_7, .string a0_8]] w fun e w' => e = .returned (.bool r) ∧ Below w.heap.size w w' := by
  unfold laws_zzFits14.f at h
  injection h with h
  subst h
  have := zzFits14_calls (sty9 a0_0 a0_1 a0_2 a0_3 a0_4 a0_5 a0_6 a0_7 a0_8) w
  rw [sty9_val] at this
  exact this
end Go.Proofs.YthjpchabeemfmaaGreatDoor.P
