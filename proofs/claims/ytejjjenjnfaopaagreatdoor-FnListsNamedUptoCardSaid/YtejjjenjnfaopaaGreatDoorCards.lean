/-
  DERIVED. GIVEN WITH THE SEED: THE CARDS: each row of YtejjjenjnfaopaaGreatDoorRows.lean that lists a variable, with what it lists TIED to the program's text (the seventh form; the later family's looks); each row that meets fmt, with fmt's text TOLD by the authors' own Lean function (tested against real Go, not proved from fmt's source: count such statements apart). THE CARD IS WHAT COUNTS. Prove the row's statement (the work); the ties are given (YtejjjenjnfaopaaGreatDoorTie.lean); close each card by the builder's one call (the guide's Derived/Test/ToyasCard.lean, 'card_holds'). Laid BY PROGRAM, IN A SANDBOX (cutbox-door.mjs). By AI agents, Wed Nov 11 2026. No macro, syntax, notation, axiom, sorry.
-/
import Derived.Test.YtejjjenjnfaopaaGreatDoorRows
import GoSem.ClaimSeven
namespace Go.Proofs.YtejjjenjnfaopaaGreatDoor
namespace Rows

/-- THE TIED CARD OF 'laws.FnListsRoads'. -/
def fnListsRoadsCard : Claim7 := { stood := { row := fnListsRoadsRow, standIns := [], harness := (true, "ca7ab3f10f30e882288f669d52fa3cf6223c6665c0030834de0ecd1a985fcc4f"), looks := true }, kinds := [], alts := [], laidByText := true, laidKinds := [.data, .listed, .data, .pinned, .pinned, .pinned, .pinned], laidTests := true, laidLooks := .later }
def FnListsRoadsCardSaid : Prop := Claim7.holds Tryz.pinned (.plain (OpenSpec.ofChange fnListsRoadsSpec)) fnListsRoadsCard

/-- THE TIED CARD OF 'laws.FnListsEmpty'. -/
def fnListsEmptyCard : Claim7 := { stood := { row := fnListsEmptyRow, standIns := [], harness := (true, "ca7ab3f10f30e882288f669d52fa3cf6223c6665c0030834de0ecd1a985fcc4f"), looks := true }, kinds := [], alts := [], laidByText := true, laidKinds := [.data, .listed, .data, .pinned, .pinned, .pinned, .pinned], laidTests := true, laidLooks := .later }
def FnListsEmptyCardSaid : Prop := Claim7.holds Tryz.pinned (.plain (OpenSpec.ofChange fnListsEmptySpec)) fnListsEmptyCard

/-- THE TIED CARD OF 'laws.FnListsNamed'. -/
def fnListsNamedCard : Claim7 := { stood := { row := fnListsNamedRow, standIns := [], harness := (true, "ca7ab3f10f30e882288f669d52fa3cf6223c6665c0030834de0ecd1a985fcc4f"), looks := true }, kinds := [], alts := [], laidByText := true, laidKinds := [.data, .listed, .data, .pinned, .pinned, .pinned, .pinned], laidTests := true, laidLooks := .later }
def FnListsNamedCardSaid : Prop := Claim7.holds Tryz.pinned (.plain (OpenSpec.ofChange fnListsNamedSpec)) fnListsNamedCard

/-- THE SECOND FORM's CARD OF 'laws.FnListsRoads'. -/
def fnListsRoadsUptoCard : Claim7 := { stood := { row := fnListsRoadsUptoRow, standIns := [], harness := (true, "ca7ab3f10f30e882288f669d52fa3cf6223c6665c0030834de0ecd1a985fcc4f"), looks := true }, kinds := [], alts := [], laidByText := true, laidKinds := [.data, .listed, .data, .pinned, .pinned, .pinned, .pinned], laidTests := true, laidLooks := .later }
def FnListsRoadsUptoCardSaid : Prop := Claim7.holds Tryz.pinned (.plain (OpenSpec.upto fnListsRoadsSpec)) fnListsRoadsUptoCard

/-- THE SECOND FORM's CARD OF 'laws.FnListsEmpty'. -/
def fnListsEmptyUptoCard : Claim7 := { stood := { row := fnListsEmptyUptoRow, standIns := [], harness := (true, "ca7ab3f10f30e882288f669d52fa3cf6223c6665c0030834de0ecd1a985fcc4f"), looks := true }, kinds := [], alts := [], laidByText := true, laidKinds := [.data, .listed, .data, .pinned, .pinned, .pinned, .pinned], laidTests := true, laidLooks := .later }
def FnListsEmptyUptoCardSaid : Prop := Claim7.holds Tryz.pinned (.plain (OpenSpec.upto fnListsEmptySpec)) fnListsEmptyUptoCard

/-- THE SECOND FORM's CARD OF 'laws.FnListsNamed'. -/
def fnListsNamedUptoCard : Claim7 := { stood := { row := fnListsNamedUptoRow, standIns := [], harness := (true, "ca7ab3f10f30e882288f669d52fa3cf6223c6665c0030834de0ecd1a985fcc4f"), looks := true }, kinds := [], alts := [], laidByText := true, laidKinds := [.data, .listed, .data, .pinned, .pinned, .pinned, .pinned], laidTests := true, laidLooks := .later }
def FnListsNamedUptoCardSaid : Prop := Claim7.holds Tryz.pinned (.plain (OpenSpec.upto fnListsNamedSpec)) fnListsNamedUptoCard
end Rows
end Go.Proofs.YtejjjenjnfaopaaGreatDoor
