/-
  DERIVED. GIVEN WITH THE SEED: THE CARDS: each row of YtfiokjdikhfcaaaDoorRows.lean that lists a variable, with what it lists TIED to the program's text (the seventh form; the later family's looks); each row that meets fmt, with fmt's text TOLD by the authors' own Lean function (tested against real Go, not proved from fmt's source: count such statements apart). THE CARD IS WHAT COUNTS. Prove the row's statement (the work); the ties are given (YtfiokjdikhfcaaaDoorTie.lean); close each card by the builder's one call (the guide's Derived/Test/ToyasCard.lean, 'card_holds'). Laid BY PROGRAM, IN A SANDBOX (cutbox-door.mjs). By AI agents, Wed Nov 11 2026. No macro, syntax, notation, axiom, sorry.
-/
import Derived.Test.YtfiokjdikhfcaaaDoorRows
import GoSem.ClaimSeven
namespace Go.Proofs.YtfiokjdikhfcaaaDoor
namespace Rows

/-- THE TIED CARD OF 'laws.FnPaintCases'. -/
def fnPaintCasesCard : Claim7 := { stood := { row := fnPaintCasesRow, standIns := [], harness := (true, "51c6d2b7487743560db961d9b9d80aa80a7c4d93f4ff169f3eb052cc3f82ea81"), looks := false }, kinds := [], alts := [], laidByText := true, laidKinds := [.data, .data, .data, .data, .listed, .data, .pinned, .pinned, .pinned, .pinned], laidTests := true, laidLooks := .later }
def FnPaintCasesCardSaid : Prop := Claim7.holds Tryd.pinned (.plain (OpenSpec.ofChange fnPaintCasesSpec)) fnPaintCasesCard

/-- THE TIED CARD OF 'laws.FnPaintTitle'. -/
def fnPaintTitleCard : Claim7 := { stood := { row := fnPaintTitleRow, standIns := [], harness := (true, "51c6d2b7487743560db961d9b9d80aa80a7c4d93f4ff169f3eb052cc3f82ea81"), looks := false }, kinds := [], alts := [], laidByText := true, laidKinds := [.data, .data, .data, .data, .listed, .data, .pinned, .pinned, .pinned, .pinned], laidTests := true, laidLooks := .later }
def FnPaintTitleCardSaid : Prop := Claim7.holds Tryd.pinned (.plain (OpenSpec.ofChange fnPaintTitleSpec)) fnPaintTitleCard

/-- THE SECOND FORM's CARD OF 'laws.FnPaintCases'. -/
def fnPaintCasesUptoCard : Claim7 := { stood := { row := fnPaintCasesUptoRow, standIns := [], harness := (true, "51c6d2b7487743560db961d9b9d80aa80a7c4d93f4ff169f3eb052cc3f82ea81"), looks := false }, kinds := [], alts := [], laidByText := true, laidKinds := [.data, .data, .data, .data, .listed, .data, .pinned, .pinned, .pinned, .pinned], laidTests := true, laidLooks := .later }
def FnPaintCasesUptoCardSaid : Prop := Claim7.holds Tryd.pinned (.plain (OpenSpec.upto fnPaintCasesSpec)) fnPaintCasesUptoCard

/-- THE SECOND FORM's CARD OF 'laws.FnPaintTitle'. -/
def fnPaintTitleUptoCard : Claim7 := { stood := { row := fnPaintTitleUptoRow, standIns := [], harness := (true, "51c6d2b7487743560db961d9b9d80aa80a7c4d93f4ff169f3eb052cc3f82ea81"), looks := false }, kinds := [], alts := [], laidByText := true, laidKinds := [.data, .data, .data, .data, .listed, .data, .pinned, .pinned, .pinned, .pinned], laidTests := true, laidLooks := .later }
def FnPaintTitleUptoCardSaid : Prop := Claim7.holds Tryd.pinned (.plain (OpenSpec.upto fnPaintTitleSpec)) fnPaintTitleUptoCard
end Rows
end Go.Proofs.YtfiokjdikhfcaaaDoor
