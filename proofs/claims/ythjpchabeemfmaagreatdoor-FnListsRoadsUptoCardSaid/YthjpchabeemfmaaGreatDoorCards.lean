/-
  DERIVED. GIVEN WITH THE SEED: THE CARDS: each row of YthjpchabeemfmaaGreatDoorRows.lean that lists a variable, with what it lists TIED to the program's text (the seventh form; the later family's looks); each row that meets fmt, with fmt's text TOLD by the authors' own Lean function (tested against real Go, not proved from fmt's source: count such statements apart). THE CARD IS WHAT COUNTS. Prove the row's statement (the work); the ties are given (YthjpchabeemfmaaGreatDoorTie.lean); close each card by the builder's one call (the guide's Derived/Test/ToyasCard.lean, 'card_holds'). Laid BY PROGRAM, IN A SANDBOX (cutbox-door.mjs). By AI agents, Wed Nov 11 2026. No macro, syntax, notation, axiom, sorry.
-/
import Derived.Test.YthjpchabeemfmaaGreatDoorRows
import GoSem.ClaimSeven
namespace Go.Proofs.YthjpchabeemfmaaGreatDoor
namespace Rows

/-- THE TIED CARD OF 'laws.FnListsRoads'. -/
def fnListsRoadsCard : Claim7 := { stood := { row := fnListsRoadsRow, standIns := [], harness := (true, "a540d9c92b3cebbe50cee1df7172aa6d4d1ae308bb9181ef32ee569479f6f45b"), looks := true }, kinds := [], alts := [], laidByText := true, laidKinds := [.data, .listed, .data, .pinned, .pinned, .pinned, .pinned], laidTests := true, laidLooks := .later }
def FnListsRoadsCardSaid : Prop := Claim7.holds Tryz.pinned (.plain (OpenSpec.ofChange fnListsRoadsSpec)) fnListsRoadsCard

/-- THE SECOND FORM's CARD OF 'laws.FnListsRoads'. -/
def fnListsRoadsUptoCard : Claim7 := { stood := { row := fnListsRoadsUptoRow, standIns := [], harness := (true, "a540d9c92b3cebbe50cee1df7172aa6d4d1ae308bb9181ef32ee569479f6f45b"), looks := true }, kinds := [], alts := [], laidByText := true, laidKinds := [.data, .listed, .data, .pinned, .pinned, .pinned, .pinned], laidTests := true, laidLooks := .later }
def FnListsRoadsUptoCardSaid : Prop := Claim7.holds Tryz.pinned (.plain (OpenSpec.upto fnListsRoadsSpec)) fnListsRoadsUptoCard
end Rows
end Go.Proofs.YthjpchabeemfmaaGreatDoor
