import Derived.Test.YtbbmboklpfjliaaD
import Derived.Lib.ItoaNum
namespace Go.Proofs.Ytbbmboklpfjliaa
open Go.RowKit
set_option linter.unusedVariables false
set_option linter.unusedSimpArgs false
set_option maxHeartbeats 4000000
set_option maxRecDepth 100000

def dig36 : ByteArray := ⟨#[48, 49, 50, 51, 52, 53, 54, 55, 56, 57, 97, 98, 99, 100, 101, 102, 103, 104, 105, 106, 107, 108, 109, 110, 111, 112, 113, 114, 115, 116, 117, 118, 119, 120, 121, 122]⟩
theorem dig36_fin : ∀ i : Fin 10, dig36.data[i.val]! = UInt8.ofNat (48 + i.val) := by decide +kernel

theorem dig_at (m : Nat) (h) : dig36[m % 10]'h = UInt8.ofNat (48 + m % 10) := by
  have := dig36_fin ⟨m % 10, by omega⟩
  rw [← this]
  exact (getElem!_pos dig36.data (m % 10) h).symm

theorem fmt_drop {C : Array Value} {j : Nat} {ds : List UInt8} (hC : C.size = 64) (hj : j < 64) (h : C.toList.drop (j + 1) = Lib.byteCells ds) (c : UInt8) (v : Value) (hv : v = .int .u8 c.toNat) :
    (C.setIfInBounds j v).toList.drop j = Lib.byteCells (c :: ds) := by
  have hl : j < C.toList.length := by simpa using (by omega : j < C.size)
  rw [Array.toList_setIfInBounds, List.drop_eq_getElem_cons (by simpa using hl)]
  rw [List.getElem_set_self, List.drop_set, if_pos (by omega), h, hv]
  rfl

theorem fmt_q {m n j : Nat} {ds : List UInt8} (h : (j + 1 = 64 ∧ m = n ∧ ds = []) ∨ (j + 1 < 64 ∧ 0 < m ∧ Lib.decDigits m ++ ds = Lib.decDigits n)) (c : UInt8) (hc : c = UInt8.ofNat (48 + m % 10)) :
    if m / 10 = 0 then c :: ds = Lib.decDigits n else Lib.decDigits (m / 10) ++ (c :: ds) = Lib.decDigits n := by
  have e : Lib.decDigits m ++ ds = Lib.decDigits n := by
    rcases h with ⟨_, rfl, rfl⟩ | ⟨_, _, h⟩
    · simp
    · exact h
  rw [← e]
  by_cases hm : m < 10
  · have h0 : m / 10 = 0 := by omega
    rw [if_pos h0, Lib.decDigits_one hm, hc, show m % 10 = m by omega]; rfl
  · rw [if_neg (by omega)]
    conv => rhs; rw [Lib.decDigits, dif_neg hm]
    rw [hc]; simp



theorem FormatUint_calls (n : Nat) (w : World) (hn : n < 18446744073709551616) :
    Calls Try.prog 39 #[.int .u64 n, .int .i64 10] w fun e w' => e = .returned (.string ⟨(Lib.decDigits n).toArray⟩) ∧ Below w.heap.size w w' := by
  have hnb : n < 10 ^ 20 := by omega
  have HN := hid hnb
  clear hnb
  go_enter Try.func39, Try.ntmps39
  go_wp2
  go_loopw [0, 6] (fun vn vi wr => ∃ (m i : Nat) (C : Array Value) (ds : List UInt8), vn = .int .u64 m ∧ vi = .int .i64 i ∧ wr.heap[w.heap.size]? = some (.cells C 66 (0, 0)) ∧ C.size = 64 ∧ i ≤ 64 ∧ m < 18446744073709551616 ∧ Hid (m < 10 ^ (i - 44)) ∧ 44 ≤ i ∧ Hid (C.toList.drop i = Lib.byteCells ds) ∧ Below w.heap.size w wr ∧ Hid ((i = 64 ∧ m = n ∧ ds = []) ∨ (i < 64 ∧ (if m = 0 then ds = Lib.decDigits n else Lib.decDigits m ++ ds = Lib.decDigits n)))) (fun _ vi _ => (intOf vi).toNat)
  case atStart =>
    refine ⟨n, 64, _, [], rfl, rfl, alloc_heap_new _ _, rfl, Nat.le_refl _, hn, hid HN.out, by omega, hid (by simp [Lib.byteCells]), (Below.refl _ w).alloc (Nat.le_refl _) _, hid (.inl ⟨rfl, rfl, rfl⟩)⟩
  case round =>
    obtain ⟨m, i, C, ds, rfl, rfl, hC, hCs, hi, hm64, hm, hi44, hds, hbw, hq⟩ := hrel
    have hbs := hbw.size
    have hcl : ∀ j, wr.cell? ⟨w.heap.size, j, none⟩ = C[j]? := fun j => by simp [World.cell?, hC]
    have hfz : ∀ j, wr.frozen? ⟨w.heap.size, j, none⟩ = false := fun j => by simp [World.frozen?, hC]
    by_cases hgo : i = 64 ∨ 0 < m
    · obtain ⟨j, rfl⟩ : ∃ j, i = j + 1 := ⟨i - 1, by omega⟩
      have hq' := hid (show (j + 1 = 64 ∧ m = n ∧ ds = []) ∨ (j + 1 < 64 ∧ 0 < m ∧ Lib.decDigits m ++ ds = Lib.decDigits n) by
        rcases hq.out with h | ⟨h1, h2⟩
        · exact .inl h
        · have h0 : 0 < m := by omega
          rw [if_neg (by omega)] at h2
          exact .inr ⟨h1, h0, h2⟩)
      have hcj : C[j]? = some C[j]! := by rw [getElem!_pos C j (by omega)]; exact Array.getElem?_eq_getElem _
      have R : ∀ c : UInt8, c = UInt8.ofNat (48 + m % 10) → (wr.setCell ⟨w.heap.size, j, none⟩ (.int .u8 c.toNat)).heap[w.heap.size]? = some (.cells (C.setIfInBounds j (.int .u8 c.toNat)) 66 (0, 0)) ∧ (C.setIfInBounds j (.int .u8 c.toNat)).size = 64 ∧ j ≤ 64 ∧ m / 10 < 18446744073709551616 ∧ Hid (m / 10 < 10 ^ (j - 44)) ∧ 44 ≤ j ∧ Hid ((C.setIfInBounds j (.int .u8 c.toNat)).toList.drop j = Lib.byteCells (c :: ds)) ∧ Below w.heap.size w (wr.setCell ⟨w.heap.size, j, none⟩ (.int .u8 c.toNat)) ∧ Hid ((j = 64 ∧ m / 10 = n ∧ c :: ds = []) ∨ (j < 64 ∧ (if m / 10 = 0 then c :: ds = Lib.decDigits n else Lib.decDigits (m / 10) ++ (c :: ds) = Lib.decDigits n))) := by
        intro c hc
        have h44 : 44 ≤ j := by
          have := hm.out
          rcases hq'.out with h | h
          · omega
          · rcases Nat.lt_or_ge j 44 with hj | hj
            · have e : j + 1 - 44 = 0 := by omega
              rw [e] at this; omega
            · exact hj
        refine ⟨blk_set hC _ _, by simp [hCs], by omega, by omega, hid ?_, h44, hid (fmt_drop hCs (by omega) hds.out c _ rfl), hbw.setCell (Nat.le_refl _) _, hid (.inr ⟨by omega, fmt_q hq'.out c hc⟩)⟩
        have := hm.out
        rw [show j + 1 - 44 = (j - 44) + 1 by omega, Nat.pow_succ] at this
        omega
      have HR := hid R
      clear R hq' hm hds
      by_cases h64 : j = 63
      · subst h64
        go_wp2
        go_roundw
        case rel => exact ⟨m / 10, 63, _, _, by go_num, rfl, HR.out _ (dig_at m _)⟩
        case measure => simp [intOf]
      · have h1 : ((j : Int) + 1 == 64) = false := by rw [beq_eq_false_iff_ne]; omega
        have h2 : (0 : Int) < (m : Int) := by omega
        have h3 : (j : Int) < 64 := by omega
        go_wp2
        go_roundw
        case rel => exact ⟨m / 10, j, _, _, by go_num, by go_num, HR.out _ (dig_at m _)⟩
        case measure => simp [intOf]
    · have h0 : m = 0 := by omega
      have h1 : i < 64 := by omega
      subst h0
      have h2 : ((i : Int) == 64) = false := by rw [beq_eq_false_iff_ne]; omega
      have h3 : (i : Int) ≤ 64 := by omega
      have hq' := hid (show ds = Lib.decDigits n by
        rcases hq.out with h | h
        · omega
        · simpa using h.2)
      have hl : ds.length = 64 - i := by
        have := congrArg List.length hds.out
        simpa [Lib.byteCells, hCs] using this.symm
      have hcv : (convert 47 9 (.slice (some ⟨w.heap.size, i, none⟩) (64 - i) (64 - i))).run Try.prog wr = .ok (.string ⟨ds.toArray⟩) wr := by
        have h := convert_at wr (P := Try.prog) Try.underlying47 Try.underlying5 Try.underlying9 (l := ds) (b := w.heap.size) (off := i) (cap := 64 - i) (fun k c hk => by
          rw [blk_cell hC]
          have e := congrArg (fun l : List Value => l[k]?) hds.out
          simp [List.getElem?_drop, Lib.byteCells, hk] at e
          simpa using e)
        rwa [hl] at h
      clear hq hds hm hcl hl
      go_wp2
      go_ret
      exact ⟨ret_str hq'.out, hbw⟩
end Go.Proofs.Ytbbmboklpfjliaa
