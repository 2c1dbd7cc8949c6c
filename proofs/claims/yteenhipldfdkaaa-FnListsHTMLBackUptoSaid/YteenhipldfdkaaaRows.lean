/-
  No cell of these rows narrows 'for every input' (looked for: loops, veiled, ifaces, maps, wideKeys, modest, calm, conditions, laid).
  DERIVED. THE GIVEN ROWS OF THIS SEAT. 3 by the template 'for every input the law returns true; each argument reads behind the call as it read before'; 0 by the template 'total and deterministic' (their statements: YteenhipldfdkaaaTotals.lean).
  GIVEN WITH THE SEED: the statements are not yours to turn. If you find one false, say at which input.
  Laid BY PROGRAM, IN A SANDBOX (cutbox-rows.mjs): the forced cells as the released guide's own fill.sh prints them over the translation d8d8b71070fdc033… (all of the seat's roots in one cut). By AI agents, Wed Nov 11 2026. No macro, syntax, notation, axiom, sorry.
-/
import Derived.Test.YteenhipldfdkaaaChecked
import GoSem.Claim
import GoSem.ClaimJoined
import GoSem.ClaimMapViews
import Derived.JoinedTies
import Derived.KernelRfl
namespace Go.Proofs.Yteenhipldfdkaaa
/- THE CELL 'sum', in the pinned program and in every row, IS THE sha256 OF THE DUMP (.gsa) THAT YteenhipldfdkaaaProg.lean LOADS. Nothing in Lean hashes anything: it is a label: what it is worth is what the hold of that sum in a sandbox is worth. -/
noncomputable def Try.pinned : Pinned := { name := "yteenhipldfdkaaa", sum := "d8d8b71070fdc033b73effc086e4b4462e1fad2b22b8b8380de53cabebc42fe8", checked := Try.checked }
namespace Rows
def none {H : Type} : Left H := { results := [], args := [] }

/-- 'laws.FnListsClasses': WHATEVER THE INPUT: true; the input reads as it did. -/
def fnListsClassesSpec : ChangeSpec := { name := "fnListsClasses", fn := fun _ => fun
  | [d1, d2, d3] => { results := [.lit (.bool true)], args := [d1, d2, d3] }
  | _ => none }
def fnListsClassesRow : OpenClaim := { program := "yteenhipldfdkaaa", sum := "d8d8b71070fdc033b73effc086e4b4462e1fad2b22b8b8380de53cabebc42fe8", func := "pub-tattersall/laws.FnListsClasses", spec := "fnListsClasses", inPlace := ["internal/abi.NoEscape", "internal/bytealg.MakeNoZero"], recurses := true, apart := false }
def FnListsClassesSaid : Prop := fnListsClassesRow.holds Try.pinned (OpenSpec.ofChange fnListsClassesSpec)

/-- ITS FALSE NEIGHBOUR: 'it returns false'. Refute it at one input. -/
def fnListsClassesWrong : ChangeSpec := { name := "fnListsClasses", fn := fun _ => fun
  | [d1, d2, d3] => { results := [.lit (.bool false)], args := [d1, d2, d3] }
  | _ => none }
def FnListsClassesWrongFalsely : Prop := fnListsClassesRow.holds Try.pinned (OpenSpec.ofChange fnListsClassesWrong)

/-- 'laws.FnListsHTML': WHATEVER THE INPUT: true; the input reads as it did. -/
def fnListsHTMLSpec : ChangeSpec := { name := "fnListsHTML", fn := fun _ => fun
  | [d1, d2] => { results := [.lit (.bool true)], args := [d1, d2] }
  | _ => none }
def fnListsHTMLRow : OpenClaim := { program := "yteenhipldfdkaaa", sum := "d8d8b71070fdc033b73effc086e4b4462e1fad2b22b8b8380de53cabebc42fe8", func := "pub-tattersall/laws.FnListsHTML", spec := "fnListsHTML", inPlace := ["internal/abi.NoEscape", "internal/bytealg.MakeNoZero"], recurses := true, apart := false }
def FnListsHTMLSaid : Prop := fnListsHTMLRow.holds Try.pinned (OpenSpec.ofChange fnListsHTMLSpec)

/-- ITS FALSE NEIGHBOUR: 'it returns false'. Refute it at one input. -/
def fnListsHTMLWrong : ChangeSpec := { name := "fnListsHTML", fn := fun _ => fun
  | [d1, d2] => { results := [.lit (.bool false)], args := [d1, d2] }
  | _ => none }
def FnListsHTMLWrongFalsely : Prop := fnListsHTMLRow.holds Try.pinned (OpenSpec.ofChange fnListsHTMLWrong)

/-- 'laws.FnListsHTMLBack': WHATEVER THE INPUT: true; the input reads as it did. -/
def fnListsHTMLBackSpec : ChangeSpec := { name := "fnListsHTMLBack", fn := fun _ => fun
  | [d1, d2] => { results := [.lit (.bool true)], args := [d1, d2] }
  | _ => none }
def fnListsHTMLBackRow : OpenClaim := { program := "yteenhipldfdkaaa", sum := "d8d8b71070fdc033b73effc086e4b4462e1fad2b22b8b8380de53cabebc42fe8", func := "pub-tattersall/laws.FnListsHTMLBack", spec := "fnListsHTMLBack", inPlace := ["internal/abi.NoEscape", "internal/bytealg.MakeNoZero"], recurses := true, apart := false }
def FnListsHTMLBackSaid : Prop := fnListsHTMLBackRow.holds Try.pinned (OpenSpec.ofChange fnListsHTMLBackSpec)

/-- ITS FALSE NEIGHBOUR: 'it returns false'. Refute it at one input. -/
def fnListsHTMLBackWrong : ChangeSpec := { name := "fnListsHTMLBack", fn := fun _ => fun
  | [d1, d2] => { results := [.lit (.bool false)], args := [d1, d2] }
  | _ => none }
def FnListsHTMLBackWrongFalsely : Prop := fnListsHTMLBackRow.holds Try.pinned (OpenSpec.ofChange fnListsHTMLBackWrong)

/- THE SECOND FORM. 'bulk': how many values and letters a reading holds, each counted each time it is reached (what is shared counts as often as it is met; a slice's spare places count too). A statement '..UptoSaid' is the law's where the arguments, and the package variables that the reading takes, are together of bulk at most 1048576: NARROWER than '..Said'. Prove '..Said' where nothing that the law and all that it calls make is longer than what came in: it says more and counts as full. Else prove '..UptoSaid'. A law counts once. -/
mutual
def uptoBulk {H : Type} : DataW H → Nat
  | .lit (.string bytes) => bytes.length + 1
  | .lit _ => 1
  | .nil => 1
  | .ptr d => uptoBulk d + 1
  | .slice elems spare => uptoBulkAll elems + uptoBulkAll spare + 1
  | .agg parts => uptoBulkAll parts + 1
  | .iface _ d => uptoBulk d + 1
  | .map entries => uptoBulkEntries entries + 1
  | .held _ => 1
def uptoBulkAll {H : Type} : List (DataW H) → Nat
  | [] => 0
  | d :: r => uptoBulk d + uptoBulkAll r
def uptoBulkEntries {H : Type} : List (Lit × DataW H) → Nat
  | [] => 0
  | x :: r => uptoBulkEntry x + uptoBulkEntries r
def uptoBulkEntry {H : Type} : Lit × DataW H → Nat
  | (.string bytes, d) => bytes.length + uptoBulk d + 1
  | (_, d) => uptoBulk d + 1
 end
def uptoSmall : (H : Type) → List (DataW H) → Bool := fun _ ds => decide (uptoBulkAll ds ≤ 1048576)
def OpenSpec.upto (s : _root_.Go.ChangeSpec) : _root_.Go.OpenSpec := { _root_.Go.OpenSpec.ofChange s with cond := some uptoSmall }

/-- 'laws.FnListsClasses', WHERE WHAT IT READS IS OF BULK AT MOST 1048576: true; the input reads as it did. -/
def fnListsClassesUptoRow : OpenClaim := { program := "yteenhipldfdkaaa", sum := "d8d8b71070fdc033b73effc086e4b4462e1fad2b22b8b8380de53cabebc42fe8", func := "pub-tattersall/laws.FnListsClasses", spec := "fnListsClasses", inPlace := ["internal/abi.NoEscape", "internal/bytealg.MakeNoZero"], recurses := true, apart := false, narrowed := true }
def FnListsClassesUptoSaid : Prop := fnListsClassesUptoRow.holds Try.pinned (OpenSpec.upto fnListsClassesSpec)

/-- 'laws.FnListsHTML', WHERE WHAT IT READS IS OF BULK AT MOST 1048576: true; the input reads as it did. -/
def fnListsHTMLUptoRow : OpenClaim := { program := "yteenhipldfdkaaa", sum := "d8d8b71070fdc033b73effc086e4b4462e1fad2b22b8b8380de53cabebc42fe8", func := "pub-tattersall/laws.FnListsHTML", spec := "fnListsHTML", inPlace := ["internal/abi.NoEscape", "internal/bytealg.MakeNoZero"], recurses := true, apart := false, narrowed := true }
def FnListsHTMLUptoSaid : Prop := fnListsHTMLUptoRow.holds Try.pinned (OpenSpec.upto fnListsHTMLSpec)

/-- 'laws.FnListsHTMLBack', WHERE WHAT IT READS IS OF BULK AT MOST 1048576: true; the input reads as it did. -/
def fnListsHTMLBackUptoRow : OpenClaim := { program := "yteenhipldfdkaaa", sum := "d8d8b71070fdc033b73effc086e4b4462e1fad2b22b8b8380de53cabebc42fe8", func := "pub-tattersall/laws.FnListsHTMLBack", spec := "fnListsHTMLBack", inPlace := ["internal/abi.NoEscape", "internal/bytealg.MakeNoZero"], recurses := true, apart := false, narrowed := true }
def FnListsHTMLBackUptoSaid : Prop := fnListsHTMLBackUptoRow.holds Try.pinned (OpenSpec.upto fnListsHTMLBackSpec)

end Rows
end Go.Proofs.Yteenhipldfdkaaa
