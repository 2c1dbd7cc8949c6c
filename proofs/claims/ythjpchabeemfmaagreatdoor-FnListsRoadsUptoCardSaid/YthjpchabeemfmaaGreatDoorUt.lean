import Derived.Test.YthjpchabeemfmaaGreatDoorDf
namespace Go.Proofs.YthjpchabeemfmaaGreatDoor
open Go.RowKit
theorem below_next {w w1 w2 : World} (h : Below w.heap.size w w1) (k : Below w1.heap.size w1 w2) : Below w.heap.size w w2 := h.trans (k.mono h.size)
theorem below_drewQ (w : World) : Below w.heap.size w w.drew := ⟨rfl, rfl, rfl, Nat.le_refl _, fun _ _ => rfl⟩
abbrev Tells (w : World) (f : Nat) (v : Value) (b : Bool) : Prop := ∀ w1 : World, Below w.heap.size w w1 → Calls Tryz.prog f #[v] w1 fun e w' => e = .returned (.bool b) ∧ Below w1.heap.size w1 w'
/-- what the row v tells in the worlds behind W -/
abbrev TellsIn (W : World) (f : Nat) (args : Array Value) (r : Value) : Prop := ∀ w' : World, Below W.heap.size W w' → Calls Tryz.prog f args w' fun e w'' => e = .returned r ∧ Below w'.heap.size w' w''
end Go.Proofs.YthjpchabeemfmaaGreatDoor
