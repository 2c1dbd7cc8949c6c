import Derived.Test.YthjpchabeemfmaaDoorOg
import Derived.Test.YthjpchabeemfmaaDoorGc
import Derived.Test.YthjpchabeemfmaaDoorWa
import Derived.PinnedBridge
import Derived.Lib.LaidCase
import Derived.Lib.LaidRTab
namespace Go.Proofs.YthjpchabeemfmaaDoor
open Go.RowKit Go.ChangeShapes Go.WideShapes Go.Deep
set_option linter.unusedVariables false
set_option linter.unusedSimpArgs false
set_option maxRecDepth 100000
set_option maxHeartbeats 4000000


instance : Inhabited Stp := ⟨⟨0, [], [], .slice none 0 0⟩⟩
section
variable {H : Type} {enc : TypeId × Value → H} {W : World} {spare : Nat → Bool} {held : Bool}
theorem opens_strsQ {fuel : Nat} {cs : List Value} {x : DataW H × List MemPlace} (h : DataW.trod enc Tryd.prog W 0 spare held fuel 33 cs = some x) : ∃ (l : List (List UInt8)) (A : Option Addr) (c : Nat), cs = [.slice A l.length c] ∧ RdS W (.slice A l.length c) l := by
  obtain ⟨l, A, c, h1, h2, _, _⟩ := opensQ (α := List UInt8) (fun s => [.string ⟨s.toArray⟩]) (fun _ => True) 1 (by decide) (fun _ => rfl) Tryd.underlying33 (by kernel_rfl) (fun fuel cs x h => by
    obtain ⟨s, rfl, rfl, _⟩ := DataW.trod_string Tryd.underlying9 h
    exact ⟨s.data.toList, by simp, trivial⟩) h
  rw [flat_oneQ] at h2
  exact ⟨l, A, c, h1, h2⟩
theorem opens_steps {fuel : Nat} {cs : List Value} {x : DataW H × List MemPlace} (h : DataW.trod enc Tryd.prog W 0 spare held fuel 22 cs = some x) : ∃ (l : List Stp) (A : Option Addr) (c : Nat), cs = [.slice A l.length c] ∧ RdSt W (.slice A l.length c) l ∧ (A = none → c = 0) := by
  obtain ⟨l, A, c, h1, h2, h3, h4⟩ := opensQ (α := Stp) (fun p => [.int .i64 p.kind, .string ⟨p.text.toArray⟩, p.val]) (fun p => RdS W p.val p.texts) 3 (by decide) (fun _ => rfl) Tryd.underlying22 (by kernel_rfl) (fun fuel cs x h => by
    obtain ⟨xs, n, _, rfl, hl, hlen, hf⟩ := DataW.trod_struct Tryd.underlying35 h
    have hl3 : cs.length = 3 := hl
    match cs, hl3 with
    | [c0, c1, c2], _ =>
      match xs, hlen with
      | [y0, y1, y2], _ =>
        have f0 := hf 0 _ rfl
        have f1 := hf 1 _ rfl
        have f2 := hf 2 _ rfl
        obtain ⟨n0, e0, _⟩ := DataW.trod_int (cs := [c0]) Tryd.underlying3 f0
        obtain ⟨s1, e1, _⟩ := DataW.trod_string (cs := [c1]) Tryd.underlying9 f1
        obtain ⟨l2, A2, k2, e2, r2⟩ := opens_strsQ (cs := [c2]) f2
        simp only [List.cons.injEq, and_true] at e0 e1 e2
        exact ⟨⟨n0, s1.data.toList, l2, .slice A2 l2.length k2⟩, by rw [e0, e1, e2], r2⟩) h
  exact ⟨l, A, c, h1, ⟨h2, h4⟩, h3⟩
theorem opens_style {fuel : Nat} {cs : List Value} {x : DataW H × List MemPlace} (h : DataW.trod enc Tryd.prog W 0 spare held fuel 24 cs = some x) : ∃ s : Sty, s.name = [] ∧ cs = [.int .i64 s.fmt, .string ⟨s.single.toArray⟩, .string ⟨s.top.toArray⟩, .string ⟨s.first.toArray⟩, .string ⟨s.middle.toArray⟩, .string ⟨s.vert.toArray⟩, .string ⟨s.bottom.toArray⟩, .string ⟨s.newline.toArray⟩, .string ⟨s.pre.toArray⟩] := by
  obtain ⟨xs, n, _, rfl, hl, hlen, hf⟩ := DataW.trod_struct Tryd.underlying24 h
  have hl9 : cs.length = 9 := hl
  match cs, hl9 with
  | [c0, c1, c2, c3, c4, c5, c6, c7, c8], _ =>
    match xs, hlen with
    | [y0, y1, y2, y3, y4, y5, y6, y7, y8], _ =>
      obtain ⟨v0, e0, _⟩ := DataW.trod_int (cs := [c0]) Tryd.underlying3 (hf 0 _ rfl)
      obtain ⟨v1, e1, _⟩ := DataW.trod_string (cs := [c1]) Tryd.underlying9 (hf 1 _ rfl)
      obtain ⟨v2, e2, _⟩ := DataW.trod_string (cs := [c2]) Tryd.underlying9 (hf 2 _ rfl)
      obtain ⟨v3, e3, _⟩ := DataW.trod_string (cs := [c3]) Tryd.underlying9 (hf 3 _ rfl)
      obtain ⟨v4, e4, _⟩ := DataW.trod_string (cs := [c4]) Tryd.underlying9 (hf 4 _ rfl)
      obtain ⟨v5, e5, _⟩ := DataW.trod_string (cs := [c5]) Tryd.underlying9 (hf 5 _ rfl)
      obtain ⟨v6, e6, _⟩ := DataW.trod_string (cs := [c6]) Tryd.underlying9 (hf 6 _ rfl)
      obtain ⟨v7, e7, _⟩ := DataW.trod_string (cs := [c7]) Tryd.underlying9 (hf 7 _ rfl)
      obtain ⟨v8, e8, _⟩ := DataW.trod_string (cs := [c8]) Tryd.underlying9 (hf 8 _ rfl)
      simp only [List.cons.injEq, and_true] at e0 e1 e2 e3 e4 e5 e6 e7 e8
      exact ⟨⟨v0, v1.data.toList, v2.data.toList, v3.data.toList, v4.data.toList, v5.data.toList, v6.data.toList, v7.data.toList, v8.data.toList, []⟩, rfl, by rw [e0, e1, e2, e3, e4, e5, e6, e7, e8]⟩
end
open Go.Lib in
theorem dat_props : (Rows.laid_unicode_properties : DataW Unit) = Lib.tabData .u8 Lib.propertiesTab := by kernel_rfl
theorem dat_acceptQ : (Rows.laid_unicode_utf8_acceptRanges : DataW Unit) = Lib.acceptData := by kernel_rfl
theorem dat_whiteQ : (Rows.laid_unicode_White_Space : DataW Unit) = Lib.whiteData := by kernel_rfl
/-- the tables of the three cases, off what is laid -/
theorem ctab_laid {l : List (String × DataW Unit)} {w : World} (h : laidMet Tryd.prog l w) (h1 : ("unicode/utf8.acceptRanges", Rows.laid_unicode_utf8_acceptRanges) ∈ l) (h2 : ("unicode.White_Space", Rows.laid_unicode_White_Space) ∈ l) (h3 : ("unicode.properties", Rows.laid_unicode_properties) ∈ l) (h4 : ("unicode.CaseRanges", Rows.laid_unicode_CaseRanges) ∈ l) (h5 : ("unicode.Digit", Rows.laid_unicode_Digit) ∈ l) (h6 : ("unicode.Letter", Rows.laid_unicode_Letter) ∈ l) (h7 : ("unicode/utf8.first", Rows.laid_unicode_utf8_first) ∈ l) : CTab w := by
  rw [dat_acceptQ] at h1
  rw [dat_whiteQ] at h2
  rw [dat_props] at h3
  rw [show (Rows.laid_unicode_CaseRanges : DataW Unit) = Lib.caseData from Pinned.caseRanges_eq] at h4
  rw [show (Rows.laid_unicode_Digit : DataW Unit) = Lib.rtabData Lib.digitT from Pinned.digit_eq] at h5
  rw [show (Rows.laid_unicode_Letter : DataW Unit) = Lib.rtabData Lib.letterT from Pinned.letter_eq] at h6
  rw [show (Rows.laid_unicode_utf8_first : DataW Unit) = Lib.firstData from Pinned.utf8First_eq] at h7
  refine ⟨?_, ?_, ?_, ?_, ?_, ?_⟩
  · exact caseVar_of_reads (ρ := Tryd.lays203_ren) { Tryd.lays203 with } (by kernel_rfl) ⟨by kernel_rfl, by kernel_rfl, by kernel_rfl, by kernel_rfl, by kernel_rfl, by kernel_rfl⟩ (Lib.laidMet.reads h h4)
  · exact utf8Tabs_of_reads (ρ := Tryd.lays260_ren) Tryd.lays260 ⟨by kernel_rfl, by kernel_rfl, by kernel_rfl, by kernel_rfl, by kernel_rfl, by kernel_rfl, by kernel_rfl⟩ (Lib.laidMet.reads h h7) (Lib.laidMet.reads h h1)
  · exact tab_readsQ (g := 1) (by kernel_rfl) (by kernel_rfl) Tryd.underlying106 Tryd.underlying5 (by kernel_rfl) (by kernel_rfl) (Lib.laidMet.reads h h3)
  · exact rvar_of_reads (ρ := Tryd.lays200_ren) { Tryd.lays200 with } ⟨by kernel_rfl, by kernel_rfl, by kernel_rfl, by kernel_rfl, by kernel_rfl, by kernel_rfl, by kernel_rfl, by kernel_rfl⟩ (by kernel_rfl) (by kernel_rfl) (Lib.laidMet.reads h h6)
  · exact rvar_of_reads (ρ := Tryd.lays200_ren) { Tryd.lays200 with } ⟨by kernel_rfl, by kernel_rfl, by kernel_rfl, by kernel_rfl, by kernel_rfl, by kernel_rfl, by kernel_rfl, by kernel_rfl⟩ (by kernel_rfl) (by kernel_rfl) (Lib.laidMet.reads h h5)
  · exact whiteTab_of_reads (ρ := Tryd.lays199_ren) Tryd.lays199 ⟨by kernel_rfl, by kernel_rfl, by kernel_rfl, by kernel_rfl, by kernel_rfl, by kernel_rfl, by kernel_rfl, by kernel_rfl⟩ (Lib.laidMet.reads h h2)
end Go.Proofs.YthjpchabeemfmaaDoor
