/-
  DERIVED. GIVEN WITH THE SEED: THE CARDS: each row of YtbbmboklpfjliaaDoorRows.lean that lists a variable, with what it lists TIED to the program's text (the seventh form; the later family's looks); each row that meets fmt, with fmt's text TOLD by the authors' own Lean function (tested against real Go, not proved from fmt's source: count such statements apart). THE CARD IS WHAT COUNTS. Prove the row's statement (the work); the ties are given (YtbbmboklpfjliaaDoorTie.lean); close each card by the builder's one call (the guide's Derived/Test/ToyasCard.lean, 'card_holds'). Laid BY PROGRAM, IN A SANDBOX (cutbox-door.mjs). By AI agents, Wed Nov 11 2026. No macro, syntax, notation, axiom, sorry.
-/
import Derived.Test.YtbbmboklpfjliaaDoorRows
import GoSem.ClaimSeven
namespace Go.Proofs.YtbbmboklpfjliaaDoor
namespace Rows

/-- THE TIED CARD OF 'laws.FnPaintEscapeTwice'. -/
def fnPaintEscapeTwiceCard : Claim7 := { stood := { row := fnPaintEscapeTwiceRow, standIns := [], harness := (true, "03baca3b3efcb817cf2896465f6d67209af155d895a61fe1a56bbf09eddd8e76"), looks := false }, kinds := [], alts := [], laidByText := true, laidKinds := [.data, .data, .data], laidTests := true, laidLooks := .later }
def FnPaintEscapeTwiceCardSaid : Prop := Claim7.holds Tryd.pinned (.plain (OpenSpec.ofChange fnPaintEscapeTwiceSpec)) fnPaintEscapeTwiceCard

/-- THE SECOND FORM's CARD OF 'laws.FnPaintEscapeTwice'. -/
def fnPaintEscapeTwiceUptoCard : Claim7 := { stood := { row := fnPaintEscapeTwiceUptoRow, standIns := [], harness := (true, "03baca3b3efcb817cf2896465f6d67209af155d895a61fe1a56bbf09eddd8e76"), looks := false }, kinds := [], alts := [], laidByText := true, laidKinds := [.data, .data, .data], laidTests := true, laidLooks := .later }
def FnPaintEscapeTwiceUptoCardSaid : Prop := Claim7.holds Tryd.pinned (.plain (OpenSpec.upto fnPaintEscapeTwiceSpec)) fnPaintEscapeTwiceUptoCard
end Rows
end Go.Proofs.YtbbmboklpfjliaaDoor
