import Derived.Test.YtfiokjdikhfcaaaDoorGb
import Derived.Lib.AppendIntMem
import Derived.Lib.LaidTab
import Derived.Lib.ItoaLen
import Derived.WalkSmall
namespace Go.Proofs.YtfiokjdikhfcaaaDoor
open Go.RowKit
set_option linter.unusedVariables false
set_option linter.unusedSimpArgs false
set_option maxHeartbeats 4000000
set_option maxRecDepth 100000
attribute [local go_sem] S_extract S_append run_cut_S run_head_S run_tail_S Nat.add_sub_cancel_left

/-- the table of powers of ten is laid -/
def Tab (w : World) : Prop := Lib.TabIs Tryd.prog w "internal/strconv.uint64pow10" .u64 Lib.pow10Tab
theorem tab_global : (Tryd.prog.globalNamed "internal/strconv.uint64pow10").isSome = true := by kernel_rfl
theorem Tab.below {w w1 : World} (h : Tab w) (hb : Below w.heap.size w w1) : Tab w1 := by
  obtain ⟨g, hg⟩ := Option.isSome_iff_exists.1 tab_global
  exact var?_below hb hg (World.block_lt_of_cell? w _ (h.cell hg 0 (by decide))) h

theorem RdI.new (w : World) (l : List Int) (c : Nat) (cells : Array Value) (t : Nat) (he : cells.toList = ints l) (hc : l.length ≤ c) (hl : l.length ≤ 4611686018427387904) (h0 : l ≠ []) : RdI (w.alloc (.cells cells t)) (.slice (some ⟨w.heap.size, 0, none⟩) l.length c) l := by
  have hn := alloc_heap_new w (.cells cells t)
  refine ⟨hl, _, c, rfl, hc, fun h => (by cases h), fun _ => ⟨w.heap.size, 0, rfl, fun j x hx => ?_⟩⟩
  rw [blk_cell hn, ← Array.getElem?_toList, he, Nat.zero_add]
  simp [ints, hx]

def dec (c : Int) : List UInt8 := Lib.decDigits c.toNat
theorem dec_len {c : Int} (h1 : c < 1000) : (dec c).length ≤ 20 := by
  unfold dec
  rw [Lib.decDigits_length]
  exact Lib.nDigits_le20 _ (by omega)
theorem sItoa_calls (c : Int) (h0 : 0 ≤ c) (h1 : c < 1000) (w : World) (ht : Tab w) :
    Calls Tryd.prog 32 #[.int .i64 c] w fun e w' => e = .returned (.string ⟨(dec c).toArray⟩) ∧ Below w.heap.size w w' := by
  refine (Tryd.strconv_Itoa c (by omega) (by omega) w ht).mono ?_
  rintro e w' ⟨rfl, k, os, rfl⟩
  refine ⟨?_, Lib.below_grow _ w (Nat.le_refl _) k os⟩
  unfold dec
  rw [Lib.itoa, if_neg (by omega)]

def semiT : List Int → List UInt8
  | [] => []
  | c :: t => 59 :: (dec c ++ semiT t)
def semi : List Int → List UInt8
  | [] => []
  | c :: t => dec c ++ semiT t
/-- a sequence of codes, as it is written -/
def txSeq (l : List Int) : List UInt8 := if l = [] then [] else 27 :: 91 :: (semi l ++ [109])

theorem TxSequence_calls (v : Value) (l : List Int) (w : World) (h : RdI w v l) (hc : ∀ c ∈ l, 0 ≤ c ∧ c < 1000) (hl : l.length ≤ 1000000) (ht : Tab w) :
    Calls Tryd.prog 24 #[v] w fun e w' => e = .returned (.string ⟨(txSeq l).toArray⟩) ∧ Below w.heap.size w w' := by
  have HR := hid h
  obtain ⟨A, c, rfl⟩ := h.form
  clear h
  by_cases h0 : l = []
  · subst h0
    go_enter Tryd.func24, Tryd.ntmps24
    go_wp2_with fail
    go_ret
    exact ⟨rfl, Below.refl _ w⟩
  · have HT := hid (show txSeq l = 27 :: 91 :: (semi l ++ [109]) by unfold txSeq; rw [if_neg h0])
    generalize txSeq l = T at *
    have hl0 : 0 < l.length := List.length_pos_iff.2 h0
    obtain ⟨g, o, c', hv, HC⟩ := HR.out.at hl0
    injection hv with hA _ hc'
    subst hA hc'
    clear HR
    have HC := hid HC
    have hne : ((l.length : Int) == 0) = false := by simp; omega
    go_enter Tryd.func24, Tryd.ntmps24
    go_wp2_with fail
    go_loopw [3, 11] (fun s u wr => ∃ (k : Nat) (x : List UInt8), k ≤ l.length ∧ u = .int .i64 k ∧ s = .string ⟨x.toArray⟩ ∧ x.length ≤ 2 + 21 * k ∧ Hid ((k = 0 ∧ x = [27, 91]) ∨ (0 < k ∧ T = x ++ (semiT (l.drop k) ++ [109]))) ∧ Below w.heap.size w wr) (fun _ u _ => l.length - (intOf u).toNat)
    case atStart => exact ⟨0, [27, 91], by omega, rfl, rfl, by simp, hid (.inl ⟨rfl, rfl⟩), Below.refl _ w⟩
    case round =>
      obtain ⟨k, x, hk, rfl, rfl, hx, hT, hbw⟩ := hrel
      by_cases hlt : k < l.length
      · obtain ⟨y, hy⟩ : ∃ y, l[k]? = some y := ⟨_, List.getElem?_eq_getElem hlt⟩
        have hcell := cell_keep hbw (HC.out k y hy)
        obtain ⟨y0, y1⟩ := hc y (List.mem_of_getElem? hy)
        have hlt' : (k : Int) < (l.length : Int) := by omega
        have hdl := dec_len y1
        have hdrop : l.drop k = y :: l.drop (k + 1) := by
          rw [List.drop_eq_getElem_cons hlt]
          congr 1
          exact (List.getElem?_eq_some_iff.1 hy).2
        have HD := hid hdrop
        have KI := hid (sItoa_calls y y0 y1 wr (ht.below hbw))
        clear hdrop hy
        rcases Nat.eq_zero_or_pos k with hk0 | hk0
        · have hx2 : x = [27, 91] := by
            rcases hT.out with ⟨_, h⟩ | ⟨h, _⟩
            · exact h
            · omega
          subst hx2
          have HS := hid (show semi l = dec y ++ semiT (l.drop 1) by
            have := HD.out
            rw [hk0, List.drop_zero] at this
            conv => lhs; rw [this]
            rfl)
          have hk0' : ¬ (0 : Int) < (k : Int) := by omega
          have HK := hid hk0
          clear hT HD hk0
          go_wp2_with (go_at_call 32; (with_reducible refine KI.out.mono ?_); rintro e w' ⟨rfl, hb⟩)
          go_roundw
          case rel => exact ⟨k + 1, _, by omega, by go_num, rfl, by simp; omega, hid (.inr ⟨by omega, by rw [HT.out, HS.out, HK.out]; simp⟩), hbw.trans (hb.mono hbw.size)⟩
          case measure => simp [intOf]; omega
        · have hT2 : T = x ++ (semiT (l.drop k) ++ [109]) := by
            rcases hT.out with ⟨h, _⟩ | ⟨_, h⟩
            · omega
            · exact h
          have HS := hid (show T = x ++ (59 :: (dec y ++ semiT (l.drop (k + 1))) ++ [109]) by rw [hT2, HD.out]; rfl)
          clear hT hT2 HD
          have hk0' : (0 : Int) < (k : Int) := by omega
          go_wp2_with (go_at_call 32; (with_reducible refine KI.out.mono ?_); rintro e w' ⟨rfl, hb⟩)
          go_roundw
          case rel => exact ⟨k + 1, _, by omega, by go_num, rfl, by simp; omega, hid (.inr ⟨by omega, by rw [HS.out]; simp⟩), hbw.trans (hb.mono hbw.size)⟩
          case measure => simp [intOf]; omega
      · have hk2 : k = l.length := by omega
        have HS := hid (show T = x ++ [109] by
          rcases hT.out with ⟨h, _⟩ | ⟨_, h⟩
          · omega
          · rw [h, hk2, List.drop_length]; rfl)
        clear hT
        have hlt' : ¬ (k : Int) < (l.length : Int) := by omega
        go_wp2_with fail
        go_ret
        exact ⟨ret_str HS.out.symm, hbw⟩
end Go.Proofs.YtfiokjdikhfcaaaDoor
