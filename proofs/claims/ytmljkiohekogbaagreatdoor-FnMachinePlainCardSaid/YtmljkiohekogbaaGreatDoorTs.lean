import Derived.Test.YtmljkiohekogbaaGreatDoorGb
import Derived.Lib.AppendIntMem
import Derived.Lib.LaidTab
import Derived.Lib.ItoaLen
import Derived.WalkSmall
namespace Go.Proofs.YtmljkiohekogbaaGreatDoor
open Go.RowKit
set_option linter.unusedVariables false
set_option linter.unusedSimpArgs false
set_option maxHeartbeats 4000000
set_option maxRecDepth 100000
attribute [local go_sem] S_extract S_append run_cut_S run_head_S run_tail_S Nat.add_sub_cancel_left

/-- the table of powers of ten is laid -/
def Tab (w : World) : Prop := Lib.TabIs Tryz.prog w "internal/strconv.uint64pow10" .u64 Lib.pow10Tab
theorem tab_global : (Tryz.prog.globalNamed "internal/strconv.uint64pow10").isSome = true := by kernel_rfl
theorem Tab.below {w w1 : World} (h : Tab w) (hb : Below w.heap.size w w1) : Tab w1 := by
  obtain ⟨g, hg⟩ := Option.isSome_iff_exists.1 tab_global
  exact var?_below hb hg (World.block_lt_of_cell? w _ (h.cell hg 0 (by decide))) h

theorem RdI.new (w : World) (l : List Int) (c : Nat) (cells : Array Value) (t : Nat) (he : cells.toList = ints l) (hc : l.length ≤ c) (hl : l.length ≤ 4611686018427387904) (h0 : l ≠ []) : RdI (w.alloc (.cells cells t)) (.slice (some ⟨w.heap.size, 0, none⟩) l.length c) l := by
  have hn := alloc_heap_new w (.cells cells t)
  refine ⟨hl, _, c, rfl, hc, fun h => (by cases h), fun _ => ⟨w.heap.size, 0, rfl, fun j x hx => ?_⟩⟩
  rw [blk_cell hn, ← Array.getElem?_toList, he, Nat.zero_add]
  simp [ints, hx]

def dec (c : Int) : List UInt8 := Lib.decDigits c.toNat
theorem dec_len {c : Int} (h1 : c < 1000) : (dec c).length ≤ 20 := by
  unfold dec
  rw [Lib.decDigits_length]
  exact Lib.nDigits_le20 _ (by omega)
theorem sItoa_calls (c : Int) (h0 : 0 ≤ c) (h1 : c < 1000) (w : World) (ht : Tab w) :
    Calls Tryz.prog 15 #[.int .i64 c] w fun e w' => e = .returned (.string ⟨(dec c).toArray⟩) ∧ Below w.heap.size w w' := by
  refine (Tryz.strconv_Itoa c (by omega) (by omega) w ht).mono ?_
  rintro e w' ⟨rfl, k, os, rfl⟩
  refine ⟨?_, Lib.below_grow _ w (Nat.le_refl _) k os⟩
  unfold dec
  rw [Lib.itoa, if_neg (by omega)]

def semiT : List Int → List UInt8
  | [] => []
  | c :: t => 59 :: (dec c ++ semiT t)
def semi : List Int → List UInt8
  | [] => []
  | c :: t => dec c ++ semiT t
/-- a sequence of codes, as it is written -/
def txSeq (l : List Int) : List UInt8 := if l = [] then [] else 27 :: 91 :: (semi l ++ [109])

end Go.Proofs.YtmljkiohekogbaaGreatDoor
