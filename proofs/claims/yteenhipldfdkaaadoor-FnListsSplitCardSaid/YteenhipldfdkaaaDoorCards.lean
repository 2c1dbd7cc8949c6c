/-
  DERIVED. GIVEN WITH THE SEED: THE CARDS: each row of YteenhipldfdkaaaDoorRows.lean that lists a variable, with what it lists TIED to the program's text (the seventh form; the later family's looks); each row that meets fmt, with fmt's text TOLD by the authors' own Lean function (tested against real Go, not proved from fmt's source: count such statements apart). THE CARD IS WHAT COUNTS. Prove the row's statement (the work); the ties are given (YteenhipldfdkaaaDoorTie.lean); close each card by the builder's one call (the guide's Derived/Test/ToyasCard.lean, 'card_holds'). Laid BY PROGRAM, IN A SANDBOX (cutbox-door.mjs). By AI agents, Wed Nov 11 2026. No macro, syntax, notation, axiom, sorry.
-/
import Derived.Test.YteenhipldfdkaaaDoorRows
import GoSem.ClaimSeven
namespace Go.Proofs.YteenhipldfdkaaaDoor
namespace Rows

/-- THE TIED CARD OF 'laws.FnListsPlain'. -/
def fnListsPlainCard : Claim7 := { stood := { row := fnListsPlainRow, standIns := [], harness := (true, "fb73735a370adafb316d5146e76a8abbac523d7063a37a605be7e7581a3324e1"), looks := true }, kinds := [], alts := [], laidByText := true, laidKinds := [.data, .listed, .data, .pinned, .pinned, .pinned, .pinned], laidTests := true, laidLooks := .later }
def FnListsPlainCardSaid : Prop := Claim7.holds Tryd.pinned (.plain (OpenSpec.ofChange fnListsPlainSpec)) fnListsPlainCard

/-- THE TIED CARD OF 'laws.FnListsGrows'. -/
def fnListsGrowsCard : Claim7 := { stood := { row := fnListsGrowsRow, standIns := [], harness := (true, "fb73735a370adafb316d5146e76a8abbac523d7063a37a605be7e7581a3324e1"), looks := true }, kinds := [], alts := [], laidByText := true, laidKinds := [.data, .listed, .data, .pinned, .pinned, .pinned, .pinned], laidTests := true, laidLooks := .later }
def FnListsGrowsCardSaid : Prop := Claim7.holds Tryd.pinned (.plain (OpenSpec.ofChange fnListsGrowsSpec)) fnListsGrowsCard

/-- THE TIED CARD OF 'laws.FnListsFormat'. -/
def fnListsFormatCard : Claim7 := { stood := { row := fnListsFormatRow, standIns := [], harness := (true, "fb73735a370adafb316d5146e76a8abbac523d7063a37a605be7e7581a3324e1"), looks := true }, kinds := [], alts := [], laidByText := true, laidKinds := [.data, .listed, .data, .pinned, .pinned, .pinned, .pinned], laidTests := true, laidLooks := .later }
def FnListsFormatCardSaid : Prop := Claim7.holds Tryd.pinned (.plain (OpenSpec.ofChange fnListsFormatSpec)) fnListsFormatCard

/-- THE TIED CARD OF 'laws.FnListsSplit'. -/
def fnListsSplitCard : Claim7 := { stood := { row := fnListsSplitRow, standIns := [], harness := (true, "fb73735a370adafb316d5146e76a8abbac523d7063a37a605be7e7581a3324e1"), looks := true }, kinds := [], alts := [], laidByText := true, laidKinds := [.data, .listed, .data, .pinned, .pinned, .pinned, .pinned], laidTests := true, laidLooks := .later }
def FnListsSplitCardSaid : Prop := Claim7.holds Tryd.pinned (.plain (OpenSpec.ofChange fnListsSplitSpec)) fnListsSplitCard

/-- THE TIED CARD OF 'laws.FnListsUndone'. -/
def fnListsUndoneCard : Claim7 := { stood := { row := fnListsUndoneRow, standIns := [], harness := (true, "fb73735a370adafb316d5146e76a8abbac523d7063a37a605be7e7581a3324e1"), looks := true }, kinds := [], alts := [], laidByText := true, laidKinds := [.data, .listed, .data, .pinned, .pinned, .pinned, .pinned], laidTests := true, laidLooks := .later }
def FnListsUndoneCardSaid : Prop := Claim7.holds Tryd.pinned (.plain (OpenSpec.ofChange fnListsUndoneSpec)) fnListsUndoneCard

/-- THE SECOND FORM's CARD OF 'laws.FnListsPlain'. -/
def fnListsPlainUptoCard : Claim7 := { stood := { row := fnListsPlainUptoRow, standIns := [], harness := (true, "fb73735a370adafb316d5146e76a8abbac523d7063a37a605be7e7581a3324e1"), looks := true }, kinds := [], alts := [], laidByText := true, laidKinds := [.data, .listed, .data, .pinned, .pinned, .pinned, .pinned], laidTests := true, laidLooks := .later }
def FnListsPlainUptoCardSaid : Prop := Claim7.holds Tryd.pinned (.plain (OpenSpec.upto fnListsPlainSpec)) fnListsPlainUptoCard

/-- THE SECOND FORM's CARD OF 'laws.FnListsGrows'. -/
def fnListsGrowsUptoCard : Claim7 := { stood := { row := fnListsGrowsUptoRow, standIns := [], harness := (true, "fb73735a370adafb316d5146e76a8abbac523d7063a37a605be7e7581a3324e1"), looks := true }, kinds := [], alts := [], laidByText := true, laidKinds := [.data, .listed, .data, .pinned, .pinned, .pinned, .pinned], laidTests := true, laidLooks := .later }
def FnListsGrowsUptoCardSaid : Prop := Claim7.holds Tryd.pinned (.plain (OpenSpec.upto fnListsGrowsSpec)) fnListsGrowsUptoCard

/-- THE SECOND FORM's CARD OF 'laws.FnListsFormat'. -/
def fnListsFormatUptoCard : Claim7 := { stood := { row := fnListsFormatUptoRow, standIns := [], harness := (true, "fb73735a370adafb316d5146e76a8abbac523d7063a37a605be7e7581a3324e1"), looks := true }, kinds := [], alts := [], laidByText := true, laidKinds := [.data, .listed, .data, .pinned, .pinned, .pinned, .pinned], laidTests := true, laidLooks := .later }
def FnListsFormatUptoCardSaid : Prop := Claim7.holds Tryd.pinned (.plain (OpenSpec.upto fnListsFormatSpec)) fnListsFormatUptoCard

/-- THE SECOND FORM's CARD OF 'laws.FnListsSplit'. -/
def fnListsSplitUptoCard : Claim7 := { stood := { row := fnListsSplitUptoRow, standIns := [], harness := (true, "fb73735a370adafb316d5146e76a8abbac523d7063a37a605be7e7581a3324e1"), looks := true }, kinds := [], alts := [], laidByText := true, laidKinds := [.data, .listed, .data, .pinned, .pinned, .pinned, .pinned], laidTests := true, laidLooks := .later }
def FnListsSplitUptoCardSaid : Prop := Claim7.holds Tryd.pinned (.plain (OpenSpec.upto fnListsSplitSpec)) fnListsSplitUptoCard

/-- THE SECOND FORM's CARD OF 'laws.FnListsUndone'. -/
def fnListsUndoneUptoCard : Claim7 := { stood := { row := fnListsUndoneUptoRow, standIns := [], harness := (true, "fb73735a370adafb316d5146e76a8abbac523d7063a37a605be7e7581a3324e1"), looks := true }, kinds := [], alts := [], laidByText := true, laidKinds := [.data, .listed, .data, .pinned, .pinned, .pinned, .pinned], laidTests := true, laidLooks := .later }
def FnListsUndoneUptoCardSaid : Prop := Claim7.holds Tryd.pinned (.plain (OpenSpec.upto fnListsUndoneSpec)) fnListsUndoneUptoCard
end Rows
end Go.Proofs.YteenhipldfdkaaaDoor
