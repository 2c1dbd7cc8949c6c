/-
  DERIVED. GIVEN WITH THE SEED: THE CARDS: each row of YtmljkiohekogbaaDoorRows.lean that lists a variable, with what it lists TIED to the program's text (the seventh form; the later family's looks); each row that meets fmt, with fmt's text TOLD by the authors' own Lean function (tested against real Go, not proved from fmt's source: count such statements apart). THE CARD IS WHAT COUNTS. Prove the row's statement (the work); the ties are given (YtmljkiohekogbaaDoorTie.lean); close each card by the builder's one call (the guide's Derived/Test/ToyasCard.lean, 'card_holds'). Laid BY PROGRAM, IN A SANDBOX (cutbox-door.mjs). By AI agents, Wed Nov 11 2026. No macro, syntax, notation, axiom, sorry.
-/
import Derived.Test.YtmljkiohekogbaaDoorRows
import GoSem.ClaimSeven
namespace Go.Proofs.YtmljkiohekogbaaDoor
namespace Rows

/-- THE TIED CARD OF 'laws.FnPaintCases'. -/
def fnPaintCasesCard : Claim7 := { stood := { row := fnPaintCasesRow, standIns := [], harness := (true, "7608fbe2044f812f1445acf63a0764aac8c5e05c207ce64ca6b75dfb7413cf25"), looks := true }, kinds := [], alts := [], laidByText := true, laidKinds := [.data, .data, .data, .data, .listed, .data, .pinned, .pinned, .pinned, .pinned], laidTests := true, laidLooks := .later }
def FnPaintCasesCardSaid : Prop := Claim7.holds Tryd.pinned (.plain (OpenSpec.ofChange fnPaintCasesSpec)) fnPaintCasesCard

/-- THE TIED CARD OF 'laws.FnPaintTitle'. -/
def fnPaintTitleCard : Claim7 := { stood := { row := fnPaintTitleRow, standIns := [], harness := (true, "7608fbe2044f812f1445acf63a0764aac8c5e05c207ce64ca6b75dfb7413cf25"), looks := true }, kinds := [], alts := [], laidByText := true, laidKinds := [.data, .data, .data, .data, .listed, .data, .pinned, .pinned, .pinned, .pinned], laidTests := true, laidLooks := .later }
def FnPaintTitleCardSaid : Prop := Claim7.holds Tryd.pinned (.plain (OpenSpec.ofChange fnPaintTitleSpec)) fnPaintTitleCard

/-- THE TIED CARD OF 'laws.FnMachineIn'. -/
def fnMachineInCard : Claim7 := { stood := { row := fnMachineInRow, standIns := [], harness := (true, "7608fbe2044f812f1445acf63a0764aac8c5e05c207ce64ca6b75dfb7413cf25"), looks := true }, kinds := [], alts := [], laidByText := true, laidKinds := [.data, .listed, .data, .pinned], laidTests := true, laidLooks := .later }
def FnMachineInCardSaid : Prop := Claim7.holds Tryd.pinned (.plain (OpenSpec.ofChange fnMachineInSpec)) fnMachineInCard

/-- THE TIED CARD OF 'laws.FnMachineSplit'. -/
def fnMachineSplitCard : Claim7 := { stood := { row := fnMachineSplitRow, standIns := [], harness := (true, "7608fbe2044f812f1445acf63a0764aac8c5e05c207ce64ca6b75dfb7413cf25"), looks := true }, kinds := [], alts := [], laidByText := true, laidKinds := [.data, .listed, .data, .pinned], laidTests := true, laidLooks := .later }
def FnMachineSplitCardSaid : Prop := Claim7.holds Tryd.pinned (.plain (OpenSpec.ofChange fnMachineSplitSpec)) fnMachineSplitCard

/-- THE TIED CARD OF 'laws.FnMachineTold'. -/
def fnMachineToldCard : Claim7 := { stood := { row := fnMachineToldRow, standIns := [], harness := (true, "7608fbe2044f812f1445acf63a0764aac8c5e05c207ce64ca6b75dfb7413cf25"), looks := true }, kinds := [], alts := [], laidByText := true, laidKinds := [.data, .listed, .data, .pinned], laidTests := true, laidLooks := .later }
def FnMachineToldCardSaid : Prop := Claim7.holds Tryd.pinned (.plain (OpenSpec.ofChange fnMachineToldSpec)) fnMachineToldCard

/-- THE TIED CARD OF 'laws.FnMachineColors'. -/
def fnMachineColorsCard : Claim7 := { stood := { row := fnMachineColorsRow, standIns := [], harness := (true, "7608fbe2044f812f1445acf63a0764aac8c5e05c207ce64ca6b75dfb7413cf25"), looks := true }, kinds := [], alts := [], laidByText := true, laidKinds := [.data, .listed, .data, .pinned], laidTests := true, laidLooks := .later }
def FnMachineColorsCardSaid : Prop := Claim7.holds Tryd.pinned (.plain (OpenSpec.ofChange fnMachineColorsSpec)) fnMachineColorsCard

/-- THE SECOND FORM's CARD OF 'laws.FnPaintCases'. -/
def fnPaintCasesUptoCard : Claim7 := { stood := { row := fnPaintCasesUptoRow, standIns := [], harness := (true, "7608fbe2044f812f1445acf63a0764aac8c5e05c207ce64ca6b75dfb7413cf25"), looks := true }, kinds := [], alts := [], laidByText := true, laidKinds := [.data, .data, .data, .data, .listed, .data, .pinned, .pinned, .pinned, .pinned], laidTests := true, laidLooks := .later }
def FnPaintCasesUptoCardSaid : Prop := Claim7.holds Tryd.pinned (.plain (OpenSpec.upto fnPaintCasesSpec)) fnPaintCasesUptoCard

/-- THE SECOND FORM's CARD OF 'laws.FnPaintTitle'. -/
def fnPaintTitleUptoCard : Claim7 := { stood := { row := fnPaintTitleUptoRow, standIns := [], harness := (true, "7608fbe2044f812f1445acf63a0764aac8c5e05c207ce64ca6b75dfb7413cf25"), looks := true }, kinds := [], alts := [], laidByText := true, laidKinds := [.data, .data, .data, .data, .listed, .data, .pinned, .pinned, .pinned, .pinned], laidTests := true, laidLooks := .later }
def FnPaintTitleUptoCardSaid : Prop := Claim7.holds Tryd.pinned (.plain (OpenSpec.upto fnPaintTitleSpec)) fnPaintTitleUptoCard

/-- THE SECOND FORM's CARD OF 'laws.FnMachineIn'. -/
def fnMachineInUptoCard : Claim7 := { stood := { row := fnMachineInUptoRow, standIns := [], harness := (true, "7608fbe2044f812f1445acf63a0764aac8c5e05c207ce64ca6b75dfb7413cf25"), looks := true }, kinds := [], alts := [], laidByText := true, laidKinds := [.data, .listed, .data, .pinned], laidTests := true, laidLooks := .later }
def FnMachineInUptoCardSaid : Prop := Claim7.holds Tryd.pinned (.plain (OpenSpec.upto fnMachineInSpec)) fnMachineInUptoCard

/-- THE SECOND FORM's CARD OF 'laws.FnMachineSplit'. -/
def fnMachineSplitUptoCard : Claim7 := { stood := { row := fnMachineSplitUptoRow, standIns := [], harness := (true, "7608fbe2044f812f1445acf63a0764aac8c5e05c207ce64ca6b75dfb7413cf25"), looks := true }, kinds := [], alts := [], laidByText := true, laidKinds := [.data, .listed, .data, .pinned], laidTests := true, laidLooks := .later }
def FnMachineSplitUptoCardSaid : Prop := Claim7.holds Tryd.pinned (.plain (OpenSpec.upto fnMachineSplitSpec)) fnMachineSplitUptoCard

/-- THE SECOND FORM's CARD OF 'laws.FnMachineTold'. -/
def fnMachineToldUptoCard : Claim7 := { stood := { row := fnMachineToldUptoRow, standIns := [], harness := (true, "7608fbe2044f812f1445acf63a0764aac8c5e05c207ce64ca6b75dfb7413cf25"), looks := true }, kinds := [], alts := [], laidByText := true, laidKinds := [.data, .listed, .data, .pinned], laidTests := true, laidLooks := .later }
def FnMachineToldUptoCardSaid : Prop := Claim7.holds Tryd.pinned (.plain (OpenSpec.upto fnMachineToldSpec)) fnMachineToldUptoCard

/-- THE SECOND FORM's CARD OF 'laws.FnMachineColors'. -/
def fnMachineColorsUptoCard : Claim7 := { stood := { row := fnMachineColorsUptoRow, standIns := [], harness := (true, "7608fbe2044f812f1445acf63a0764aac8c5e05c207ce64ca6b75dfb7413cf25"), looks := true }, kinds := [], alts := [], laidByText := true, laidKinds := [.data, .listed, .data, .pinned], laidTests := true, laidLooks := .later }
def FnMachineColorsUptoCardSaid : Prop := Claim7.holds Tryd.pinned (.plain (OpenSpec.upto fnMachineColorsSpec)) fnMachineColorsUptoCard
end Rows
end Go.Proofs.YtmljkiohekogbaaDoor
