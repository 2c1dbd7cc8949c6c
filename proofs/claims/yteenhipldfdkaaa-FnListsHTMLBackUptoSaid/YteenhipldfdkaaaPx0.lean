/- Printed by a program of this session (pf.sh): Go functions as Lean functions, with their contracts. -/
import Derived.Test.YteenhipldfdkaaaProg
import Derived.Below
import Derived.Deep.Draws
import Derived.Deep.AppendLies
import Derived.Maps.AppendAt
import Derived.OwnWalk
import Derived.Laws.BytesArg
import Derived.Laws.MakeOwn
import Derived.Laws.OwnMore
import Derived.Deep.OwnRows
import Derived.Tactics
import Derived.Lib.ConvBytes
import Derived.Laws.Slices
import Derived.WalkKit
import Derived.KernelRfl
import Derived.RowKit3
import Derived.Deep.LoopGhost
import Derived.Deep.QuietTactic
import Derived.BigQuiet
import Derived.WideLaws
import Derived.Deep.DeepCutAuto
import Derived.Deep.CutBlock
import Derived.Deep.RegionHeld3
import Derived.Laws.Rows
import Derived.Lib.AppendStr
import Derived.ArgAppend
import Derived.Laws.IdiomCopy
import Derived.OrdersHeld
import Derived.Laws.BitsLemmas
import Derived.RowKit
import Derived.Test.YteenhipldfdkaaaWWords
import Derived.Test.YteenhipldfdkaaaWLast
import Derived.Test.YteenhipldfdkaaaWTab
import Derived.Test.YteenhipldfdkaaaWFour
import Derived.Test.YteenhipldfdkaaaWQPut
import Derived.Test.YteenhipldfdkaaaWApart
import Derived.Test.YteenhipldfdkaaaWArr
import Derived.Test.YteenhipldfdkaaaWZeros
import Derived.Test.YteenhipldfdkaaaWFoot
import Derived.Test.YteenhipldfdkaaaWKept
import Derived.Test.YteenhipldfdkaaaWShare
import Derived.Test.YteenhipldfdkaaaWN
import Derived.Test.YteenhipldfdkaaaWFootNe
import Derived.Test.YteenhipldfdkaaaWAt
import Derived.Test.YteenhipldfdkaaaWEqStruct
import Derived.Test.YteenhipldfdkaaaWRepsOne
import Derived.Test.YteenhipldfdkaaaWInv
import Derived.Test.YteenhipldfdkaaaWInvWords
import Derived.Test.YteenhipldfdkaaaWGuard
import Derived.Test.YteenhipldfdkaaaWNEv
import Derived.Test.YteenhipldfdkaaaWMore
namespace Go.Proofs.Yteenhipldfdkaaa.P
open Go.RowKit Go.Proofs.YteenhipldfdkaaaW.PrintWords Go.Proofs.YteenhipldfdkaaaW.PrintLast Go.Proofs.YteenhipldfdkaaaW.PrintMore
attribute [local go_sem] max2_int min2_int max_two min_two max_three min_three max_four min_four   -- for this text's walks alone
set_option linter.unusedVariables false
set_option linter.unusedSimpArgs false



def errW : Option Int → Value
  | none => .nilIface
  | some c => .iface 0 (.int .i64 c)
theorem errW_none : errW none = .nilIface := rfl
theorem errW_some (c : Int) : errW (some c) = .iface 0 (.int .i64 c) := rfl

theorem info5 : (Try.prog.info? 5).map (fun i => (i.zero, i.size, i.bytes)) = some (some (.int .u8 0), 1, 1) := by kernel_rfl
theorem info36 : (Try.prog.info? 36).map (fun i => (i.zero, i.size, i.bytes)) = some (some (.agg #[(.int .i64 0), (.string ⟨#[]⟩), (.slice none 0 0)]), 3, 48) := by kernel_rfl
theorem info43 : (Try.prog.info? 43).map (fun i => (i.zero, i.size, i.bytes)) = some (some (.agg #[(.string ⟨#[]⟩), (.int .i64 0)]), 2, 24) := by kernel_rfl
-- the values' own types
def rd_L2 (xs : List (List ByteArray)) (i : Int) : (List ByteArray) := xs.getD i.toNat ([] : List ByteArray)
theorem at_L2 {w : World} {A : Option Addr} {n : Nat} {xs : List (List ByteArray)} (h : Kd.C (Kd.slice 9 Kd.string) w A n xs) (i : Int) (h0 : 0 ≤ i) (h1 : i < n) : ∃ ad A0 c0, A = some ad ∧ w.cell? (ad.add i.toNat) = some (.slice A0 (rd_L2 xs i).length c0) ∧ (rd_L2 xs i).length ≤ c0 ∧ Kd.string.C w A0 (rd_L2 xs i).length (rd_L2 xs i) := by
  obtain ⟨ad, c, e, _, hK, hc0⟩ := Kd.C_get h ([] : List ByteArray) i h0 h1
  have hc : ∀ j u, c[j]? = some u → w.cell? (ad.add (i.toNat * 1 + j)) = some u := hc0
  obtain ⟨A0, c0, rfl, l0, g0⟩ := hK
  exact ⟨ad, A0, c0, e, by have hq := hc 0 _ rfl; rwa [Nat.mul_one, Nat.add_zero] at hq, l0, g0⟩

/-! #### struct type 36 -/
structure S36 where
  f0 : Int
  f1 : ByteArray
  f2 : (List ByteArray)
def z36 : S36 := ⟨(0 : Int), (⟨#[]⟩ : ByteArray), ([] : List ByteArray)⟩
def k36 : Kd S36 := Kd.iso (Kd.pair (Kd.int .i64) (Kd.pair Kd.string (Kd.slice 9 Kd.string))) (fun x : S36 => (x.f0, x.f1, x.f2))
theorem k36_open {w : World} {x : S36} {cs : List Value} (h : k36.K w x cs) : ∃ A2 c2, cs = [.int .i64 x.f0, .string x.f1, .slice A2 x.f2.length c2] ∧ x.f2.length ≤ c2 ∧ Kd.string.C w A2 x.f2.length x.f2 := by
  obtain ⟨_, _, rfl, rfl, ⟨_, _, rfl, rfl, ⟨A2, c2, rfl, l2, g2⟩⟩⟩ := h
  exact ⟨A2, c2, rfl, l2, g2⟩
theorem k36_openM {w : World} {base : Nat} {ok : Nat → Prop} {x : S36} {cs : List Value} (h : k36.M w base ok x cs) : ∃ v2, cs = [.int .i64 x.f0, .string x.f1, v2] ∧ Kd.string.R 9 w base ok v2 x.f2 := by
  obtain ⟨_, _, rfl, rfl, ⟨_, _, rfl, rfl, ⟨v2, rfl, g2⟩⟩⟩ := h
  exact ⟨v2, rfl, g2⟩
theorem k36_mk (w : World) (x : S36) {A2 : Option Addr} {c2 : Nat} (l2 : x.f2.length ≤ c2) (g2 : Kd.string.C w A2 x.f2.length x.f2) : k36.K w x [.int .i64 x.f0, .string x.f1, .slice A2 x.f2.length c2] := ⟨[.int .i64 x.f0], [.string x.f1, .slice A2 x.f2.length c2], rfl, rfl, ⟨[.string x.f1], [.slice A2 x.f2.length c2], rfl, rfl, ⟨A2, c2, rfl, l2, g2⟩⟩⟩
theorem k36_mkM (w : World) (base : Nat) (ok : Nat → Prop) (x : S36) {v2 : Value} (g2 : Kd.string.R 9 w base ok v2 x.f2) : k36.M w base ok x [.int .i64 x.f0, .string x.f1, v2] := ⟨[.int .i64 x.f0], [.string x.f1, v2], rfl, rfl, ⟨[.string x.f1], [v2], rfl, rfl, ⟨v2, rfl, g2⟩⟩⟩
def rd_T36 (xs : List S36) (i : Int) : S36 := xs.getD i.toNat z36
theorem at_T36 {w : World} {A : Option Addr} {n : Nat} {xs : List S36} (h : Kd.C k36 w A n xs) (i : Int) (h0 : 0 ≤ i) (h1 : i < n) : ∃ ad A2 c2, A = some ad ∧ w.cell? (ad.add (i.toNat * 3)) = some (.int .i64 (rd_T36 xs i).f0) ∧ w.cell? ⟨(ad.add (i.toNat * 3)).block, (ad.add (i.toNat * 3)).off + 1, none⟩ = some (.string (rd_T36 xs i).f1) ∧ w.cell? ⟨(ad.add (i.toNat * 3)).block, (ad.add (i.toNat * 3)).off + 2, none⟩ = some (.slice A2 (rd_T36 xs i).f2.length c2) ∧ (rd_T36 xs i).f2.length ≤ c2 ∧ Kd.string.C w A2 (rd_T36 xs i).f2.length (rd_T36 xs i).f2 := by
  obtain ⟨ad, c, e, _, hK, hc0⟩ := Kd.C_get h z36 i h0 h1
  have hc : ∀ j u, c[j]? = some u → w.cell? (ad.add (i.toNat * 3 + j)) = some u := hc0
  obtain ⟨A2, c2, rfl, l2, g2⟩ := k36_open hK
  exact ⟨ad, A2, c2, e, hc 0 _ rfl, by rw [← add_field _ _ 1 (by omega)]; exact hc 1 _ rfl, by rw [← add_field _ _ 2 (by omega)]; exact hc 2 _ rfl, l2, g2⟩

/-! #### struct type 43 -/
structure S43 where
  f0 : ByteArray
  f1 : Int
def z43 : S43 := ⟨(⟨#[]⟩ : ByteArray), (0 : Int)⟩
def k43 : Kd S43 := Kd.iso (Kd.pair Kd.string (Kd.int .i64)) (fun x : S43 => (x.f0, x.f1))
theorem k43_open {w : World} {x : S43} {cs : List Value} (h : k43.K w x cs) : cs = [.string x.f0, .int .i64 x.f1] := by
  obtain ⟨_, _, rfl, rfl, rfl⟩ := h
  exact rfl
theorem k43_openM {w : World} {base : Nat} {ok : Nat → Prop} {x : S43} {cs : List Value} (h : k43.M w base ok x cs) : cs = [.string x.f0, .int .i64 x.f1] := by
  obtain ⟨_, _, rfl, rfl, rfl⟩ := h
  exact rfl
theorem k43_mk (w : World) (x : S43)  : k43.K w x [.string x.f0, .int .i64 x.f1] := ⟨[.string x.f0], [.int .i64 x.f1], rfl, rfl, rfl⟩
theorem k43_mkM (w : World) (base : Nat) (ok : Nat → Prop) (x : S43)  : k43.M w base ok x [.string x.f0, .int .i64 x.f1] := ⟨[.string x.f0], [.int .i64 x.f1], rfl, rfl, rfl⟩
def rd_T43 (xs : List S43) (i : Int) : S43 := xs.getD i.toNat z43
theorem at_T43 {w : World} {A : Option Addr} {n : Nat} {xs : List S43} (h : Kd.C k43 w A n xs) (i : Int) (h0 : 0 ≤ i) (h1 : i < n) : ∃ ad , A = some ad ∧ w.cell? (ad.add (i.toNat * 2)) = some (.string (rd_T43 xs i).f0) ∧ w.cell? ⟨(ad.add (i.toNat * 2)).block, (ad.add (i.toNat * 2)).off + 1, none⟩ = some (.int .i64 (rd_T43 xs i).f1) := by
  obtain ⟨ad, c, e, _, hK, hc0⟩ := Kd.C_get h z43 i h0 h1
  have hc : ∀ j u, c[j]? = some u → w.cell? (ad.add (i.toNat * 2 + j)) = some u := hc0
  obtain rfl := k43_open hK
  exact ⟨ad, e, hc 0 _ rfl, by rw [← add_field _ _ 1 (by omega)]; exact hc 1 _ rfl⟩

def rd_L6 (xs : List (List S36)) (i : Int) : (List S36) := xs.getD i.toNat ([] : List S36)
theorem at_L6 {w : World} {A : Option Addr} {n : Nat} {xs : List (List S36)} (h : Kd.C (Kd.slice 36 k36) w A n xs) (i : Int) (h0 : 0 ≤ i) (h1 : i < n) : ∃ ad A0 c0, A = some ad ∧ w.cell? (ad.add i.toNat) = some (.slice A0 (rd_L6 xs i).length c0) ∧ (rd_L6 xs i).length ≤ c0 ∧ k36.C w A0 (rd_L6 xs i).length (rd_L6 xs i) := by
  obtain ⟨ad, c, e, _, hK, hc0⟩ := Kd.C_get h ([] : List S36) i h0 h1
  have hc : ∀ j u, c[j]? = some u → w.cell? (ad.add (i.toNat * 1 + j)) = some u := hc0
  obtain ⟨A0, c0, rfl, l0, g0⟩ := hK
  exact ⟨ad, A0, c0, e, by have hq := hc 0 _ rfl; rwa [Nat.mul_one, Nat.add_zero] at hq, l0, g0⟩

end Go.Proofs.Yteenhipldfdkaaa.P
