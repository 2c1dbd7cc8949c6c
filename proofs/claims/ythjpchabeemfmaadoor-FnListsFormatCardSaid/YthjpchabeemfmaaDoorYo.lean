import Derived.Test.YthjpchabeemfmaaDoorYn
import Derived.Test.YthjpchabeemfmaaDoorShelf
import Derived.Test.YthjpchabeemfmaaDoorG
namespace Go.Proofs.YthjpchabeemfmaaDoor
open Go.RowKit Go.Lib
set_option linter.unusedVariables false
set_option linter.unusedSimpArgs false
set_option maxHeartbeats 4000000
set_option maxRecDepth 100000

/-- What toUpper's function makes of a rune: c: within a sequence. -/
def upF (c : Bool) (r : Int) : Int × Bool :=
  if c || decide (r = 27) then (r, !decide (r = 109)) else (toUpperR r, false)
/-- A box of one cell. -/
def boxAt (W : World) (b : Nat) (v : Value) (t : TypeId) : Prop := W.heap[b]? = some (.cells #[v] t (0, 0))
theorem boxAt.cell {W : World} {b : Nat} {v : Value} {t : TypeId} (h : boxAt W b v t) : W.cell? ⟨b, 0, none⟩ = some v := by rw [cell_of_heap h]; rfl
theorem boxAt.frozen {W : World} {b : Nat} {v : Value} {t : TypeId} (h : boxAt W b v t) : W.frozen? ⟨b, 0, none⟩ = false := frozen_of_heap h 0
theorem boxAt.set {W : World} {b : Nat} {v : Value} {t : TypeId} (h : boxAt W b v t) (u : Value) : boxAt (W.setCell ⟨b, 0, none⟩ u) b u t := by
  have h' : W.heap[b]? = some (.cells #[v] t (0, 0)) := h
  simp [boxAt, World.setCell, Array.getElem?_modify, h']
/-- All but block b is as it was. -/
structure But (b : Nat) (W w' : World) : Prop where
  block : ∀ k, k ≠ b → w'.heap[k]? = W.heap[k]?
  size : w'.heap.size = W.heap.size
  os : w'.os = W.os
  tape : w'.tape = W.tape
  output : w'.output = W.output
theorem But.refl (b : Nat) (W : World) : But b W W := ⟨fun _ _ => rfl, rfl, rfl, rfl, rfl⟩
theorem But.set {b : Nat} {W W' : World} (h : But b W W') (u : Value) : But b W (W'.setCell ⟨b, 0, none⟩ u) :=
  ⟨fun k hk => (Below.heap_setCell W' ⟨b, 0, none⟩ u k hk).trans (h.block k hk), by simpa [World.setCell] using h.size, h.os, h.tape, h.output⟩
theorem up1_calls (b : Nat) (c : Bool) (r : Int) (hr0 : 0 ≤ r) (hr : r ≤ 127) (W : World) (hb : boxAt W b (.bool c) 4) :
    Calls Tryd.prog 50 #[.int .i32 r, .pointer (some ⟨b, 0, none⟩)] W fun e w' => e = .returned (.int .i32 (upF c r).1) ∧ boxAt w' b (.bool (upF c r).2) 4 ∧ But b W w' := by
  have hc := hb.cell
  have hf := hb.frozen
  have HB := hid hb
  have hU := hid (fun W => Tryd.unicode_ToUpper r W hr)
  clear hb
  by_cases h27 : r = 27
  · subst h27
    go_enter Tryd.func50, Tryd.ntmps50
    go_wp2
    go_ret
    exact ⟨by simp [upF], by simpa [upF] using HB.out.set _, (But.refl b W).set _⟩
  · cases c with
    | true =>
      by_cases h109 : r = 109
      · subst h109
        go_enter Tryd.func50, Tryd.ntmps50
        go_wp2
        go_ret
        exact ⟨by simp [upF], by simpa [upF] using HB.out.set _, (But.refl b W).set _⟩
      · go_enter Tryd.func50, Tryd.ntmps50
        go_wp2
        go_ret
        exact ⟨by simp [upF], by simpa [upF, h109] using HB.out, But.refl b W⟩
    | false =>
      go_enter Tryd.func50, Tryd.ntmps50
      go_wp2_with (go_at_call 49; (with_reducible refine (hU.out _).mono ?_); rintro e W' ⟨rfl, rfl⟩)
      go_ret
      exact ⟨by simp [upF, h27], by simpa [upF, h27] using HB.out, But.refl b _⟩

/-- isSeparator, of ASCII. -/
def sepF (r : Int) : Bool := !(decide (48 ≤ r) && decide (r ≤ 57) || decide (97 ≤ r) && decide (r ≤ 122) || decide (65 ≤ r) && decide (r ≤ 90) || decide (r = 95))
theorem sep_calls (r : Int) (hr : r ≤ 127) (W : World) :
    Calls Tryd.prog 48 #[.int .i32 r] W fun e w' => e = .returned (.bool (sepF r)) ∧ w' = W := by
  by_cases h1 : 48 ≤ r <;> by_cases h2 : r ≤ 57 <;> by_cases h3 : 97 ≤ r <;> by_cases h4 : r ≤ 122 <;> by_cases h5 : 65 ≤ r <;> by_cases h6 : r ≤ 90 <;> by_cases h7 : r = 95
  all_goals first
    | (exfalso; omega)
    | (go_enter Tryd.func48, Tryd.ntmps48
       go_wp2
       go_ret
       exact ⟨by simp [sepF, h1, h2, h3, h4, h5, h6, h7], rfl⟩)
/-- What toTitle's function makes of a rune: the last rune ahead, and whether within a sequence. -/
def tiF (c : Int × Bool) (r : Int) : Int × (Int × Bool) :=
  if c.2 || decide (r = 27) then (r, (c.1, !decide (r = 109)))
  else if sepF c.1 then (toUpperR r, (r, false)) else (r, (r, false))
theorem ti1_calls (b b2 : Nat) (hne : b ≠ b2) (p : Int) (hp : p ≤ 127) (c : Bool) (r : Int) (hr0 : 0 ≤ r) (hr : r ≤ 127) (W : World) (hb : boxAt W b (.bool c) 4) (hb2 : boxAt W b2 (.int .i32 p) 21) :
    Calls Tryd.prog 47 #[.int .i32 r, .pointer (some ⟨b, 0, none⟩), .pointer (some ⟨b2, 0, none⟩)] W fun e w' => e = .returned (.int .i32 (tiF (p, c) r).1) ∧ boxAt w' b (.bool (tiF (p, c) r).2.2) 4 ∧ boxAt w' b2 (.int .i32 (tiF (p, c) r).2.1) 21 ∧ 
      (∀ k, k ≠ b → k ≠ b2 → w'.heap[k]? = W.heap[k]?) ∧ w'.heap.size = W.heap.size ∧ w'.os = W.os ∧ w'.tape = W.tape ∧ w'.output = W.output := by
  have hc := hb.cell
  have hf := hb.frozen
  have hc2 := hb2.cell
  have hf2 := hb2.frozen
  have HB := hid hb
  have HB2 := hid hb2
  have hne2 : ¬ b2 = b := fun h => hne h.symm
  have hU := hid (fun W => Tryd.unicode_ToUpper r W hr)
  have hS := hid (fun W => sep_calls p hp W)
  have o1 : ∀ u, boxAt (W.setCell ⟨b, 0, none⟩ u) b2 (.int .i32 p) 21 := fun u => (Below.heap_setCell W ⟨b, 0, none⟩ u b2 hne2).trans hb2
  have o2 : ∀ u, boxAt (W.setCell ⟨b2, 0, none⟩ u) b (.bool c) 4 := fun u => (Below.heap_setCell W ⟨b2, 0, none⟩ u b hne).trans hb
  have k1 : ∀ u k, k ≠ b → k ≠ b2 → (W.setCell ⟨b, 0, none⟩ u).heap[k]? = W.heap[k]? := fun u k h _ => Below.heap_setCell W ⟨b, 0, none⟩ u k h
  have k2 : ∀ u k, k ≠ b → k ≠ b2 → (W.setCell ⟨b2, 0, none⟩ u).heap[k]? = W.heap[k]? := fun u k _ h => Below.heap_setCell W ⟨b2, 0, none⟩ u k h
  have z1 : ∀ a u, (W.setCell a u).heap.size = W.heap.size := fun a u => by simp [World.setCell]
  have O1 := hid o1
  have O2 := hid o2
  have K1 := hid k1
  have K2 := hid k2
  have Z1 := hid z1
  clear hb hb2 o1 o2 k1 k2 z1
  by_cases h27 : r = 27
  · subst h27
    go_enter Tryd.func47, Tryd.ntmps47
    go_wp2
    go_ret
    exact ⟨by simp [tiF], by simpa [tiF] using HB.out.set _, by simpa [tiF] using O1.out _, K1.out _, Z1.out _ _, rfl, rfl, rfl⟩
  · cases c with
    | true =>
      by_cases h109 : r = 109
      · subst h109
        go_enter Tryd.func47, Tryd.ntmps47
        go_wp2
        go_ret
        exact ⟨by simp [tiF], by simpa [tiF] using HB.out.set _, by simpa [tiF] using O1.out _, K1.out _, Z1.out _ _, rfl, rfl, rfl⟩
      · go_enter Tryd.func47, Tryd.ntmps47
        go_wp2
        go_ret
        exact ⟨by simp [tiF], by simpa [tiF, h109] using HB.out, by simpa [tiF] using HB2.out, fun _ _ _ => rfl, rfl, rfl, rfl, rfl⟩
    | false =>
      by_cases hs : sepF p = true
      · rw [hs] at hS
        go_enter Tryd.func47, Tryd.ntmps47
        go_wp2_with (first
          | (go_at_call 48; (with_reducible refine (hS.out _).mono ?_); rintro e W' ⟨rfl, rfl⟩)
          | (go_at_call 49; (with_reducible refine (hU.out _).mono ?_); rintro e W' ⟨rfl, rfl⟩))
        go_ret
        exact ⟨by simp [tiF, h27, hs], by simpa [tiF, h27, hs] using O2.out _, by simpa [tiF, h27, hs] using HB2.out.set _, K2.out _, Z1.out _ _, rfl, rfl, rfl⟩
      · have hs' : sepF p = false := by simpa using hs
        rw [hs'] at hS
        go_enter Tryd.func47, Tryd.ntmps47
        go_wp2_with (go_at_call 48; (with_reducible refine (hS.out _).mono ?_); rintro e W' ⟨rfl, rfl⟩)
        go_ret
        exact ⟨by simp [tiF, h27, hs], by simpa [tiF, h27, hs] using O2.out _, by simpa [tiF, h27, hs] using HB2.out.set _, K2.out _, Z1.out _ _, rfl, rfl, rfl⟩
end Go.Proofs.YthjpchabeemfmaaDoor
