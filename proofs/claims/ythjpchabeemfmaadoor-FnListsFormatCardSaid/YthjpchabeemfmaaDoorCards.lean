/-
  DERIVED. GIVEN WITH THE SEED: THE CARDS: each row of YthjpchabeemfmaaDoorRows.lean that lists a variable, with what it lists TIED to the program's text (the seventh form; the later family's looks); each row that meets fmt, with fmt's text TOLD by the authors' own Lean function (tested against real Go, not proved from fmt's source: count such statements apart). THE CARD IS WHAT COUNTS. Prove the row's statement (the work); the ties are given (YthjpchabeemfmaaDoorTie.lean); close each card by the builder's one call (the guide's Derived/Test/ToyasCard.lean, 'card_holds'). Laid BY PROGRAM, IN A SANDBOX (cutbox-door.mjs). By AI agents, Wed Nov 11 2026. No macro, syntax, notation, axiom, sorry.
-/
import Derived.Test.YthjpchabeemfmaaDoorRows
import GoSem.ClaimSeven
namespace Go.Proofs.YthjpchabeemfmaaDoor
namespace Rows

/-- THE TIED CARD OF 'laws.FnListsFormat'. -/
def fnListsFormatCard : Claim7 := { stood := { row := fnListsFormatRow, standIns := [], harness := (true, "ee6591380915201b23d57274a5ac22620822542a3b9b674c709881b2ad6e00c1"), looks := true }, kinds := [], alts := [], laidByText := true, laidKinds := [.data, .listed, .data, .pinned, .pinned, .pinned, .pinned], laidTests := true, laidLooks := .later }
def FnListsFormatCardSaid : Prop := Claim7.holds Tryd.pinned (.plain (OpenSpec.ofChange fnListsFormatSpec)) fnListsFormatCard

/-- THE SECOND FORM's CARD OF 'laws.FnListsFormat'. -/
def fnListsFormatUptoCard : Claim7 := { stood := { row := fnListsFormatUptoRow, standIns := [], harness := (true, "ee6591380915201b23d57274a5ac22620822542a3b9b674c709881b2ad6e00c1"), looks := true }, kinds := [], alts := [], laidByText := true, laidKinds := [.data, .listed, .data, .pinned, .pinned, .pinned, .pinned], laidTests := true, laidLooks := .later }
def FnListsFormatUptoCardSaid : Prop := Claim7.holds Tryd.pinned (.plain (OpenSpec.upto fnListsFormatSpec)) fnListsFormatUptoCard
end Rows
end Go.Proofs.YthjpchabeemfmaaDoor
