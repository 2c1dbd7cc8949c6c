/-
  DERIVED. GIVEN WITH THE SEED: THE CARDS: each row of YtmljkiohekogbaaGreatDoorRows.lean that lists a variable, with what it lists TIED to the program's text (the seventh form; the later family's looks); each row that meets fmt, with fmt's text TOLD by the authors' own Lean function (tested against real Go, not proved from fmt's source: count such statements apart). THE CARD IS WHAT COUNTS. Prove the row's statement (the work); the ties are given (YtmljkiohekogbaaGreatDoorTie.lean); close each card by the builder's one call (the guide's Derived/Test/ToyasCard.lean, 'card_holds'). Laid BY PROGRAM, IN A SANDBOX (cutbox-door.mjs). By AI agents, Wed Nov 11 2026. No macro, syntax, notation, axiom, sorry.
-/
import Derived.Test.YtmljkiohekogbaaGreatDoorRows
import GoSem.ClaimSeven
namespace Go.Proofs.YtmljkiohekogbaaGreatDoor
namespace Rows

/-- THE TIED CARD OF 'laws.FnMachineOps'. -/
def fnMachineOpsCard : Claim7 := { stood := { row := fnMachineOpsRow, standIns := [], harness := (true, "ddb40fb4f6f6f24d4c8f183eb17d875a1c09a9d6aa351b8f4b84dd700246100d"), looks := true }, kinds := [], alts := [], laidByText := true, laidKinds := [.data, .data, .data, .data, .listed, .data, .pinned], laidTests := true, laidLooks := .later }
def FnMachineOpsCardSaid : Prop := Claim7.holds Tryz.pinned (.plain (OpenSpec.ofChange fnMachineOpsSpec)) fnMachineOpsCard

/-- THE TIED CARD OF 'laws.FnMachinePlain'. -/
def fnMachinePlainCard : Claim7 := { stood := { row := fnMachinePlainRow, standIns := [], harness := (true, "ddb40fb4f6f6f24d4c8f183eb17d875a1c09a9d6aa351b8f4b84dd700246100d"), looks := true }, kinds := [], alts := [], laidByText := true, laidKinds := [.data, .data, .data, .data, .listed, .data, .pinned], laidTests := true, laidLooks := .later }
def FnMachinePlainCardSaid : Prop := Claim7.holds Tryz.pinned (.plain (OpenSpec.ofChange fnMachinePlainSpec)) fnMachinePlainCard

/-- THE TIED CARD OF 'laws.FnMachineReset'. -/
def fnMachineResetCard : Claim7 := { stood := { row := fnMachineResetRow, standIns := [], harness := (true, "ddb40fb4f6f6f24d4c8f183eb17d875a1c09a9d6aa351b8f4b84dd700246100d"), looks := true }, kinds := [], alts := [], laidByText := true, laidKinds := [.data, .data, .data, .data, .listed, .data, .pinned], laidTests := true, laidLooks := .later }
def FnMachineResetCardSaid : Prop := Claim7.holds Tryz.pinned (.plain (OpenSpec.ofChange fnMachineResetSpec)) fnMachineResetCard

/-- THE SECOND FORM's CARD OF 'laws.FnMachineOps'. -/
def fnMachineOpsUptoCard : Claim7 := { stood := { row := fnMachineOpsUptoRow, standIns := [], harness := (true, "ddb40fb4f6f6f24d4c8f183eb17d875a1c09a9d6aa351b8f4b84dd700246100d"), looks := true }, kinds := [], alts := [], laidByText := true, laidKinds := [.data, .data, .data, .data, .listed, .data, .pinned], laidTests := true, laidLooks := .later }
def FnMachineOpsUptoCardSaid : Prop := Claim7.holds Tryz.pinned (.plain (OpenSpec.upto fnMachineOpsSpec)) fnMachineOpsUptoCard

/-- THE SECOND FORM's CARD OF 'laws.FnMachinePlain'. -/
def fnMachinePlainUptoCard : Claim7 := { stood := { row := fnMachinePlainUptoRow, standIns := [], harness := (true, "ddb40fb4f6f6f24d4c8f183eb17d875a1c09a9d6aa351b8f4b84dd700246100d"), looks := true }, kinds := [], alts := [], laidByText := true, laidKinds := [.data, .data, .data, .data, .listed, .data, .pinned], laidTests := true, laidLooks := .later }
def FnMachinePlainUptoCardSaid : Prop := Claim7.holds Tryz.pinned (.plain (OpenSpec.upto fnMachinePlainSpec)) fnMachinePlainUptoCard

/-- THE SECOND FORM's CARD OF 'laws.FnMachineReset'. -/
def fnMachineResetUptoCard : Claim7 := { stood := { row := fnMachineResetUptoRow, standIns := [], harness := (true, "ddb40fb4f6f6f24d4c8f183eb17d875a1c09a9d6aa351b8f4b84dd700246100d"), looks := true }, kinds := [], alts := [], laidByText := true, laidKinds := [.data, .data, .data, .data, .listed, .data, .pinned], laidTests := true, laidLooks := .later }
def FnMachineResetUptoCardSaid : Prop := Claim7.holds Tryz.pinned (.plain (OpenSpec.upto fnMachineResetSpec)) fnMachineResetUptoCard
end Rows
end Go.Proofs.YtmljkiohekogbaaGreatDoor
