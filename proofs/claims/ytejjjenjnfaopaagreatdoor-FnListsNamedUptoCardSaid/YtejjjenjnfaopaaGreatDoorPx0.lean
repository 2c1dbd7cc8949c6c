/- Printed by a program of this session (pf.sh): Go functions as Lean functions, with their contracts. -/
import Derived.Test.YtejjjenjnfaopaaGreatDoorProg
import Derived.Below
import Derived.Deep.Draws
import Derived.Deep.AppendLies
import Derived.Maps.AppendAt
import Derived.OwnWalk
import Derived.Laws.BytesArg
import Derived.Laws.MakeOwn
import Derived.Laws.OwnMore
import Derived.Deep.OwnRows
import Derived.Tactics
import Derived.Lib.ConvBytes
import Derived.Laws.Slices
import Derived.WalkKit
import Derived.KernelRfl
import Derived.RowKit3
import Derived.Deep.LoopGhost
import Derived.Deep.QuietTactic
import Derived.BigQuiet
import Derived.WideLaws
import Derived.Deep.DeepCutAuto
import Derived.Deep.CutBlock
import Derived.Deep.RegionHeld3
import Derived.Laws.Rows
import Derived.Lib.AppendStr
import Derived.ArgAppend
import Derived.Laws.IdiomCopy
import Derived.OrdersHeld
import Derived.Laws.BitsLemmas
import Derived.RowKit
import Derived.Test.YtejjjenjnfaopaaGreatDoorWWords
import Derived.Test.YtejjjenjnfaopaaGreatDoorWLast
import Derived.Test.YtejjjenjnfaopaaGreatDoorWTab
import Derived.Test.YtejjjenjnfaopaaGreatDoorWFour
import Derived.Test.YtejjjenjnfaopaaGreatDoorWQPut
import Derived.Test.YtejjjenjnfaopaaGreatDoorWApart
import Derived.Test.YtejjjenjnfaopaaGreatDoorWArr
import Derived.Test.YtejjjenjnfaopaaGreatDoorWZeros
import Derived.Test.YtejjjenjnfaopaaGreatDoorWFoot
import Derived.Test.YtejjjenjnfaopaaGreatDoorWKept
import Derived.Test.YtejjjenjnfaopaaGreatDoorWShare
import Derived.Test.YtejjjenjnfaopaaGreatDoorWN
import Derived.Test.YtejjjenjnfaopaaGreatDoorWFootNe
import Derived.Test.YtejjjenjnfaopaaGreatDoorWAt
import Derived.Test.YtejjjenjnfaopaaGreatDoorWEqStruct
import Derived.Test.YtejjjenjnfaopaaGreatDoorWRepsOne
import Derived.Test.YtejjjenjnfaopaaGreatDoorWInv
import Derived.Test.YtejjjenjnfaopaaGreatDoorWInvWords
import Derived.Test.YtejjjenjnfaopaaGreatDoorWGuard
import Derived.Test.YtejjjenjnfaopaaGreatDoorWNEv
import Derived.Test.YtejjjenjnfaopaaGreatDoorWMore
namespace Go.Proofs.YtejjjenjnfaopaaGreatDoor.P
open Go.RowKit Go.Proofs.YtejjjenjnfaopaaGreatDoorW.PrintWords Go.Proofs.YtejjjenjnfaopaaGreatDoorW.PrintLast Go.Proofs.YtejjjenjnfaopaaGreatDoorW.PrintMore
attribute [local go_sem] max2_int min2_int max_two min_two max_three min_three max_four min_four   -- for this text's walks alone
set_option linter.unusedVariables false
set_option linter.unusedSimpArgs false



def errW : Option Int → Value
  | none => .nilIface
  | some c => .iface 0 (.int .i64 c)
theorem errW_none : errW none = .nilIface := rfl
theorem errW_some (c : Int) : errW (some c) = .iface 0 (.int .i64 c) := rfl

theorem info9 : (Tryz.prog.info? 9).map (fun i => (i.zero, i.size, i.bytes)) = some (some (.string ⟨#[]⟩), 1, 16) := by kernel_rfl
theorem info43 : (Tryz.prog.info? 43).map (fun i => (i.zero, i.size, i.bytes)) = some (some (.agg #[(.string ⟨#[]⟩), (.int .i64 0)]), 2, 24) := by kernel_rfl
-- the values' own types
def rd_L2 (xs : List (List ByteArray)) (i : Int) : (List ByteArray) := xs.getD i.toNat ([] : List ByteArray)
theorem at_L2 {w : World} {A : Option Addr} {n : Nat} {xs : List (List ByteArray)} (h : Kd.C (Kd.slice 9 Kd.string) w A n xs) (i : Int) (h0 : 0 ≤ i) (h1 : i < n) : ∃ ad A0 c0, A = some ad ∧ w.cell? (ad.add i.toNat) = some (.slice A0 (rd_L2 xs i).length c0) ∧ (rd_L2 xs i).length ≤ c0 ∧ Kd.string.C w A0 (rd_L2 xs i).length (rd_L2 xs i) := by
  obtain ⟨ad, c, e, _, hK, hc0⟩ := Kd.C_get h ([] : List ByteArray) i h0 h1
  have hc : ∀ j u, c[j]? = some u → w.cell? (ad.add (i.toNat * 1 + j)) = some u := hc0
  obtain ⟨A0, c0, rfl, l0, g0⟩ := hK
  exact ⟨ad, A0, c0, e, by have hq := hc 0 _ rfl; rwa [Nat.mul_one, Nat.add_zero] at hq, l0, g0⟩

/-! #### struct type 50 -/
structure S50 where
  f0 : Int
  f1 : ByteArray
  f2 : (List ByteArray)
def z50 : S50 := ⟨(0 : Int), (⟨#[]⟩ : ByteArray), ([] : List ByteArray)⟩
def k50 : Kd S50 := Kd.iso (Kd.pair (Kd.int .i64) (Kd.pair Kd.string (Kd.slice 9 Kd.string))) (fun x : S50 => (x.f0, x.f1, x.f2))
theorem k50_heap : Kd.Heap k50 := Kd.heap_iso _ (Kd.heap_pair (Kd.heap_int .i64) (Kd.heap_pair Kd.heap_string (Kd.heap_slice 9 Kd.heap_string)))
theorem k50_open {w : World} {x : S50} {cs : List Value} (h : k50.K w x cs) : ∃ A2 c2, cs = [.int .i64 x.f0, .string x.f1, .slice A2 x.f2.length c2] ∧ x.f2.length ≤ c2 ∧ Kd.string.C w A2 x.f2.length x.f2 := by
  obtain ⟨_, _, rfl, rfl, ⟨_, _, rfl, rfl, ⟨A2, c2, rfl, l2, g2⟩⟩⟩ := h
  exact ⟨A2, c2, rfl, l2, g2⟩
theorem k50_openM {w : World} {base : Nat} {ok : Nat → Prop} {x : S50} {cs : List Value} (h : k50.M w base ok x cs) : ∃ v2, cs = [.int .i64 x.f0, .string x.f1, v2] ∧ Kd.string.R 9 w base ok v2 x.f2 := by
  obtain ⟨_, _, rfl, rfl, ⟨_, _, rfl, rfl, ⟨v2, rfl, g2⟩⟩⟩ := h
  exact ⟨v2, rfl, g2⟩
theorem k50_mk (w : World) (x : S50) {A2 : Option Addr} {c2 : Nat} (l2 : x.f2.length ≤ c2) (g2 : Kd.string.C w A2 x.f2.length x.f2) : k50.K w x [.int .i64 x.f0, .string x.f1, .slice A2 x.f2.length c2] := ⟨[.int .i64 x.f0], [.string x.f1, .slice A2 x.f2.length c2], rfl, rfl, ⟨[.string x.f1], [.slice A2 x.f2.length c2], rfl, rfl, ⟨A2, c2, rfl, l2, g2⟩⟩⟩
theorem k50_mkM (w : World) (base : Nat) (ok : Nat → Prop) (x : S50) {v2 : Value} (g2 : Kd.string.R 9 w base ok v2 x.f2) : k50.M w base ok x [.int .i64 x.f0, .string x.f1, v2] := ⟨[.int .i64 x.f0], [.string x.f1, v2], rfl, rfl, ⟨[.string x.f1], [v2], rfl, rfl, ⟨v2, rfl, g2⟩⟩⟩
theorem k50_openF {W : World} {ok : Nat → Prop} {x : S50} {cs : List Value} (h : Kd.FK k50 W ok x cs) : ∃ A2 c2, cs = [.int .i64 x.f0, .string x.f1, .slice A2 x.f2.length c2] ∧ x.f2.length ≤ c2 ∧ Kd.F Kd.string W ok A2 x.f2.length x.f2 := by
  obtain ⟨A2, c2, rfl, l2, _⟩ := k50_open (Kd.FK_now h)
  exact ⟨A2, c2, rfl, l2, (fun W' hW => by obtain ⟨A2_, c2_, he, l2_, g2_⟩ := k50_open (h W' hW); injection (Option.some.inj (show some (Value.slice A2 x.f2.length c2) = some (Value.slice A2_ x.f2.length c2_) from congrArg (fun l => l[2]?) he)) with ha_ _ _; rw [ha_]; exact g2_)⟩
theorem k50_mkF (W : World) (ok : Nat → Prop) (x : S50) {A2 : Option Addr} {c2 : Nat} (l2 : x.f2.length ≤ c2) (g2 : Kd.F Kd.string W ok A2 x.f2.length x.f2) : Kd.FK k50 W ok x [.int .i64 x.f0, .string x.f1, .slice A2 x.f2.length c2] := fun W2 hW => k50_mk W2 x l2 (g2 W2 hW)
def rd_T50 (xs : List S50) (i : Int) : S50 := xs.getD i.toNat z50
theorem at_T50 {w : World} {A : Option Addr} {n : Nat} {xs : List S50} (h : Kd.C k50 w A n xs) (i : Int) (h0 : 0 ≤ i) (h1 : i < n) : ∃ ad A2 c2, A = some ad ∧ w.cell? (ad.add (i.toNat * 3)) = some (.int .i64 (rd_T50 xs i).f0) ∧ w.cell? ⟨(ad.add (i.toNat * 3)).block, (ad.add (i.toNat * 3)).off + 1, none⟩ = some (.string (rd_T50 xs i).f1) ∧ w.cell? ⟨(ad.add (i.toNat * 3)).block, (ad.add (i.toNat * 3)).off + 2, none⟩ = some (.slice A2 (rd_T50 xs i).f2.length c2) ∧ (rd_T50 xs i).f2.length ≤ c2 ∧ Kd.string.C w A2 (rd_T50 xs i).f2.length (rd_T50 xs i).f2 := by
  obtain ⟨ad, c, e, _, hK, hc0⟩ := Kd.C_get h z50 i h0 h1
  have hc : ∀ j u, c[j]? = some u → w.cell? (ad.add (i.toNat * 3 + j)) = some u := hc0
  obtain ⟨A2, c2, rfl, l2, g2⟩ := k50_open hK
  exact ⟨ad, A2, c2, e, hc 0 _ rfl, by rw [← add_field _ _ 1 (by omega)]; exact hc 1 _ rfl, by rw [← add_field _ _ 2 (by omega)]; exact hc 2 _ rfl, l2, g2⟩

/-! #### struct type 43 -/
structure S43 where
  f0 : ByteArray
  f1 : Int
def z43 : S43 := ⟨(⟨#[]⟩ : ByteArray), (0 : Int)⟩
def k43 : Kd S43 := Kd.iso (Kd.pair Kd.string (Kd.int .i64)) (fun x : S43 => (x.f0, x.f1))
theorem k43_heap : Kd.Heap k43 := Kd.heap_iso _ (Kd.heap_pair Kd.heap_string (Kd.heap_int .i64))
theorem k43_open {w : World} {x : S43} {cs : List Value} (h : k43.K w x cs) : cs = [.string x.f0, .int .i64 x.f1] := by
  obtain ⟨_, _, rfl, rfl, rfl⟩ := h
  exact rfl
theorem k43_openM {w : World} {base : Nat} {ok : Nat → Prop} {x : S43} {cs : List Value} (h : k43.M w base ok x cs) : cs = [.string x.f0, .int .i64 x.f1] := by
  obtain ⟨_, _, rfl, rfl, rfl⟩ := h
  exact rfl
theorem k43_mk (w : World) (x : S43)  : k43.K w x [.string x.f0, .int .i64 x.f1] := ⟨[.string x.f0], [.int .i64 x.f1], rfl, rfl, rfl⟩
theorem k43_mkM (w : World) (base : Nat) (ok : Nat → Prop) (x : S43)  : k43.M w base ok x [.string x.f0, .int .i64 x.f1] := ⟨[.string x.f0], [.int .i64 x.f1], rfl, rfl, rfl⟩
theorem k43_mkF (W : World) (ok : Nat → Prop) (x : S43) : Kd.FK k43 W ok x [.string x.f0, .int .i64 x.f1] := fun W2 _ => k43_mk W2 x
def rd_T43 (xs : List S43) (i : Int) : S43 := xs.getD i.toNat z43
theorem at_T43 {w : World} {A : Option Addr} {n : Nat} {xs : List S43} (h : Kd.C k43 w A n xs) (i : Int) (h0 : 0 ≤ i) (h1 : i < n) : ∃ ad , A = some ad ∧ w.cell? (ad.add (i.toNat * 2)) = some (.string (rd_T43 xs i).f0) ∧ w.cell? ⟨(ad.add (i.toNat * 2)).block, (ad.add (i.toNat * 2)).off + 1, none⟩ = some (.int .i64 (rd_T43 xs i).f1) := by
  obtain ⟨ad, c, e, _, hK, hc0⟩ := Kd.C_get h z43 i h0 h1
  have hc : ∀ j u, c[j]? = some u → w.cell? (ad.add (i.toNat * 2 + j)) = some u := hc0
  obtain rfl := k43_open hK
  exact ⟨ad, e, hc 0 _ rfl, by rw [← add_field _ _ 1 (by omega)]; exact hc 1 _ rfl⟩

def rd_L6 (xs : List (List S50)) (i : Int) : (List S50) := xs.getD i.toNat ([] : List S50)
theorem at_L6 {w : World} {A : Option Addr} {n : Nat} {xs : List (List S50)} (h : Kd.C (Kd.slice 50 k50) w A n xs) (i : Int) (h0 : 0 ≤ i) (h1 : i < n) : ∃ ad A0 c0, A = some ad ∧ w.cell? (ad.add i.toNat) = some (.slice A0 (rd_L6 xs i).length c0) ∧ (rd_L6 xs i).length ≤ c0 ∧ k50.C w A0 (rd_L6 xs i).length (rd_L6 xs i) := by
  obtain ⟨ad, c, e, _, hK, hc0⟩ := Kd.C_get h ([] : List S50) i h0 h1
  have hc : ∀ j u, c[j]? = some u → w.cell? (ad.add (i.toNat * 1 + j)) = some u := hc0
  obtain ⟨A0, c0, rfl, l0, g0⟩ := hK
  exact ⟨ad, A0, c0, e, by have hq := hc 0 _ rfl; rwa [Nat.mul_one, Nat.add_zero] at hq, l0, g0⟩

/-! #### struct type 24 -/
structure S24 where
  f0 : Int
  f1 : ByteArray
  f2 : ByteArray
  f3 : ByteArray
  f4 : ByteArray
  f5 : ByteArray
  f6 : ByteArray
  f7 : ByteArray
  f8 : ByteArray
def z24 : S24 := ⟨(0 : Int), (⟨#[]⟩ : ByteArray), (⟨#[]⟩ : ByteArray), (⟨#[]⟩ : ByteArray), (⟨#[]⟩ : ByteArray), (⟨#[]⟩ : ByteArray), (⟨#[]⟩ : ByteArray), (⟨#[]⟩ : ByteArray), (⟨#[]⟩ : ByteArray)⟩
def k24 : Kd S24 := Kd.iso (Kd.pair (Kd.int .i64) (Kd.pair Kd.string (Kd.pair Kd.string (Kd.pair Kd.string (Kd.pair Kd.string (Kd.pair Kd.string (Kd.pair Kd.string (Kd.pair Kd.string Kd.string)))))))) (fun x : S24 => (x.f0, x.f1, x.f2, x.f3, x.f4, x.f5, x.f6, x.f7, x.f8))
theorem k24_heap : Kd.Heap k24 := Kd.heap_iso _ (Kd.heap_pair (Kd.heap_int .i64) (Kd.heap_pair Kd.heap_string (Kd.heap_pair Kd.heap_string (Kd.heap_pair Kd.heap_string (Kd.heap_pair Kd.heap_string (Kd.heap_pair Kd.heap_string (Kd.heap_pair Kd.heap_string (Kd.heap_pair Kd.heap_string Kd.heap_string))))))))
theorem k24_open {w : World} {x : S24} {cs : List Value} (h : k24.K w x cs) : cs = [.int .i64 x.f0, .string x.f1, .string x.f2, .string x.f3, .string x.f4, .string x.f5, .string x.f6, .string x.f7, .string x.f8] := by
  obtain ⟨_, _, rfl, rfl, ⟨_, _, rfl, rfl, ⟨_, _, rfl, rfl, ⟨_, _, rfl, rfl, ⟨_, _, rfl, rfl, ⟨_, _, rfl, rfl, ⟨_, _, rfl, rfl, ⟨_, _, rfl, rfl, rfl⟩⟩⟩⟩⟩⟩⟩⟩ := h
  exact rfl
theorem k24_openM {w : World} {base : Nat} {ok : Nat → Prop} {x : S24} {cs : List Value} (h : k24.M w base ok x cs) : cs = [.int .i64 x.f0, .string x.f1, .string x.f2, .string x.f3, .string x.f4, .string x.f5, .string x.f6, .string x.f7, .string x.f8] := by
  obtain ⟨_, _, rfl, rfl, ⟨_, _, rfl, rfl, ⟨_, _, rfl, rfl, ⟨_, _, rfl, rfl, ⟨_, _, rfl, rfl, ⟨_, _, rfl, rfl, ⟨_, _, rfl, rfl, ⟨_, _, rfl, rfl, rfl⟩⟩⟩⟩⟩⟩⟩⟩ := h
  exact rfl
theorem k24_mk (w : World) (x : S24)  : k24.K w x [.int .i64 x.f0, .string x.f1, .string x.f2, .string x.f3, .string x.f4, .string x.f5, .string x.f6, .string x.f7, .string x.f8] := ⟨[.int .i64 x.f0], [.string x.f1, .string x.f2, .string x.f3, .string x.f4, .string x.f5, .string x.f6, .string x.f7, .string x.f8], rfl, rfl, ⟨[.string x.f1], [.string x.f2, .string x.f3, .string x.f4, .string x.f5, .string x.f6, .string x.f7, .string x.f8], rfl, rfl, ⟨[.string x.f2], [.string x.f3, .string x.f4, .string x.f5, .string x.f6, .string x.f7, .string x.f8], rfl, rfl, ⟨[.string x.f3], [.string x.f4, .string x.f5, .string x.f6, .string x.f7, .string x.f8], rfl, rfl, ⟨[.string x.f4], [.string x.f5, .string x.f6, .string x.f7, .string x.f8], rfl, rfl, ⟨[.string x.f5], [.string x.f6, .string x.f7, .string x.f8], rfl, rfl, ⟨[.string x.f6], [.string x.f7, .string x.f8], rfl, rfl, ⟨[.string x.f7], [.string x.f8], rfl, rfl, rfl⟩⟩⟩⟩⟩⟩⟩⟩
theorem k24_mkM (w : World) (base : Nat) (ok : Nat → Prop) (x : S24)  : k24.M w base ok x [.int .i64 x.f0, .string x.f1, .string x.f2, .string x.f3, .string x.f4, .string x.f5, .string x.f6, .string x.f7, .string x.f8] := ⟨[.int .i64 x.f0], [.string x.f1, .string x.f2, .string x.f3, .string x.f4, .string x.f5, .string x.f6, .string x.f7, .string x.f8], rfl, rfl, ⟨[.string x.f1], [.string x.f2, .string x.f3, .string x.f4, .string x.f5, .string x.f6, .string x.f7, .string x.f8], rfl, rfl, ⟨[.string x.f2], [.string x.f3, .string x.f4, .string x.f5, .string x.f6, .string x.f7, .string x.f8], rfl, rfl, ⟨[.string x.f3], [.string x.f4, .string x.f5, .string x.f6, .string x.f7, .string x.f8], rfl, rfl, ⟨[.string x.f4], [.string x.f5, .string x.f6, .string x.f7, .string x.f8], rfl, rfl, ⟨[.string x.f5], [.string x.f6, .string x.f7, .string x.f8], rfl, rfl, ⟨[.string x.f6], [.string x.f7, .string x.f8], rfl, rfl, ⟨[.string x.f7], [.string x.f8], rfl, rfl, rfl⟩⟩⟩⟩⟩⟩⟩⟩
theorem k24_mkF (W : World) (ok : Nat → Prop) (x : S24) : Kd.FK k24 W ok x [.int .i64 x.f0, .string x.f1, .string x.f2, .string x.f3, .string x.f4, .string x.f5, .string x.f6, .string x.f7, .string x.f8] := fun W2 _ => k24_mk W2 x
def rd_T24 (xs : List S24) (i : Int) : S24 := xs.getD i.toNat z24
theorem at_T24 {w : World} {A : Option Addr} {n : Nat} {xs : List S24} (h : Kd.C k24 w A n xs) (i : Int) (h0 : 0 ≤ i) (h1 : i < n) : ∃ ad , A = some ad ∧ w.cell? (ad.add (i.toNat * 9)) = some (.int .i64 (rd_T24 xs i).f0) ∧ w.cell? ⟨(ad.add (i.toNat * 9)).block, (ad.add (i.toNat * 9)).off + 1, none⟩ = some (.string (rd_T24 xs i).f1) ∧ w.cell? ⟨(ad.add (i.toNat * 9)).block, (ad.add (i.toNat * 9)).off + 2, none⟩ = some (.string (rd_T24 xs i).f2) ∧ w.cell? ⟨(ad.add (i.toNat * 9)).block, (ad.add (i.toNat * 9)).off + 3, none⟩ = some (.string (rd_T24 xs i).f3) ∧ w.cell? ⟨(ad.add (i.toNat * 9)).block, (ad.add (i.toNat * 9)).off + 4, none⟩ = some (.string (rd_T24 xs i).f4) ∧ w.cell? ⟨(ad.add (i.toNat * 9)).block, (ad.add (i.toNat * 9)).off + 5, none⟩ = some (.string (rd_T24 xs i).f5) ∧ w.cell? ⟨(ad.add (i.toNat * 9)).block, (ad.add (i.toNat * 9)).off + 6, none⟩ = some (.string (rd_T24 xs i).f6) ∧ w.cell? ⟨(ad.add (i.toNat * 9)).block, (ad.add (i.toNat * 9)).off + 7, none⟩ = some (.string (rd_T24 xs i).f7) ∧ w.cell? ⟨(ad.add (i.toNat * 9)).block, (ad.add (i.toNat * 9)).off + 8, none⟩ = some (.string (rd_T24 xs i).f8) := by
  obtain ⟨ad, c, e, _, hK, hc0⟩ := Kd.C_get h z24 i h0 h1
  have hc : ∀ j u, c[j]? = some u → w.cell? (ad.add (i.toNat * 9 + j)) = some u := hc0
  obtain rfl := k24_open hK
  exact ⟨ad, e, hc 0 _ rfl, by rw [← add_field _ _ 1 (by omega)]; exact hc 1 _ rfl, by rw [← add_field _ _ 2 (by omega)]; exact hc 2 _ rfl, by rw [← add_field _ _ 3 (by omega)]; exact hc 3 _ rfl, by rw [← add_field _ _ 4 (by omega)]; exact hc 4 _ rfl, by rw [← add_field _ _ 5 (by omega)]; exact hc 5 _ rfl, by rw [← add_field _ _ 6 (by omega)]; exact hc 6 _ rfl, by rw [← add_field _ _ 7 (by omega)]; exact hc 7 _ rfl, by rw [← add_field _ _ 8 (by omega)]; exact hc 8 _ rfl⟩

end Go.Proofs.YtejjjenjnfaopaaGreatDoor.P
