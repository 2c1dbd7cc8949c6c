import Derived.Test.YtfiokjdikhfcaaaDoorYt
namespace Go.Proofs.YtfiokjdikhfcaaaDoor
open Go.RowKit
set_option linter.unusedVariables false
set_option linter.unusedSimpArgs false
set_option maxHeartbeats 4000000
set_option maxRecDepth 100000
attribute [local go_sem] S_extract S_append run_cut_S run_head_S run_tail_S Nat.add_sub_cancel_left

def asciiOk (b : UInt8) : Bool := (decide (32 ≤ b.toNat) && decide (b.toNat ≤ 126)) || decide (b.toNat = 10)
theorem TxASCII_calls (l : List UInt8) (w : World) (hl : l.length ≤ 4611686018427387904) : Calls Tryd.prog 7 #[.string ⟨l.toArray⟩, .bool true] w fun e w' => e = .returned (.bool (l.all asciiOk)) ∧ w = w' := by
  go_enter Tryd.func7, Tryd.ntmps7
  go_wp2_with fail
  go_loop [5] (fun u => ∃ k : Nat, k ≤ l.length ∧ u = .int .i64 k ∧ Hid ((l.drop k).all asciiOk = l.all asciiOk)) (fun u => l.length - (intOf u).toNat)
  case atStart => exact ⟨0, Nat.zero_le _, rfl, hid rfl⟩
  case round =>
    obtain ⟨k, hk, rfl, hacc⟩ := hrel
    by_cases hlt : k < l.length
    · have hlt' : (k : Int) < (l.length : Int) := by omega
      have HA := hid (show (asciiOk l[k] && (l.drop (k + 1)).all asciiOk) = l.all asciiOk by rw [← hacc.out, List.drop_eq_getElem_cons hlt]; rfl)
      clear hacc
      have HE := hid (show (⟨l.toArray⟩ : ByteArray)[k]'(by rw [S_size]; exact hlt) = l[k] from rfl)
      by_cases h1 : l[k].toNat < 32
      · have c1 : ((((⟨l.toArray⟩ : ByteArray)[k]'(by rw [S_size]; exact hlt)).toNat : Int) < 32) := by rw [HE.out]; omega
        have c1b : (((⟨l.toArray⟩ : ByteArray)[k]'(by rw [S_size]; exact hlt)).toNat < 32) := by rw [HE.out]; omega
        by_cases h3 : l[k].toNat = 10
        · have c3 : (((⟨l.toArray⟩ : ByteArray)[k]'(by rw [S_size]; exact hlt)).toNat : Int) = 10 := by rw [HE.out]; omega
          have c3b : ((((⟨l.toArray⟩ : ByteArray)[k]'(by rw [S_size]; exact hlt)).toNat : Int) == 10) = true := by rw [HE.out]; simp; omega
          rw [show asciiOk l[k] = true by simp [asciiOk, h3]] at HA
          go_wp2_with fail
          go_round
          case rel => exact ⟨k + 1, by omega, by go_num, hid HA.out⟩
          case measure => simp [intOf]; omega
        · have c3 : ¬ (((⟨l.toArray⟩ : ByteArray)[k]'(by rw [S_size]; exact hlt)).toNat : Int) = 10 := by rw [HE.out]; omega
          have c3b : ((((⟨l.toArray⟩ : ByteArray)[k]'(by rw [S_size]; exact hlt)).toNat : Int) == 10) = false := by rw [HE.out]; simp; omega
          rw [show asciiOk l[k] = false by simp [asciiOk, h3]; omega] at HA
          go_wp2_with fail
          go_ret
          exact ⟨ret_bool (by rw [← HA.out]; rfl), rfl⟩
      · have c1 : ¬ ((((⟨l.toArray⟩ : ByteArray)[k]'(by rw [S_size]; exact hlt)).toNat : Int) < 32) := by rw [HE.out]; omega
        by_cases h2 : l[k].toNat ≤ 126
        · have c2 : ¬ ((126 : Int) < (((⟨l.toArray⟩ : ByteArray)[k]'(by rw [S_size]; exact hlt)).toNat : Int)) := by rw [HE.out]; omega
          rw [show asciiOk l[k] = true by simp [asciiOk]; omega] at HA
          go_wp2_with fail
          go_round
          case rel => exact ⟨k + 1, by omega, by go_num, hid HA.out⟩
          case measure => simp [intOf]; omega
        · have c2 : ((126 : Int) < (((⟨l.toArray⟩ : ByteArray)[k]'(by rw [S_size]; exact hlt)).toNat : Int)) := by rw [HE.out]; omega
          have c3 : ¬ (((⟨l.toArray⟩ : ByteArray)[k]'(by rw [S_size]; exact hlt)).toNat : Int) = 10 := by rw [HE.out]; omega
          have c3b : ((((⟨l.toArray⟩ : ByteArray)[k]'(by rw [S_size]; exact hlt)).toNat : Int) == 10) = false := by rw [HE.out]; simp; omega
          rw [show asciiOk l[k] = false by simp [asciiOk]; omega] at HA
          go_wp2_with fail
          go_ret
          exact ⟨ret_bool (by rw [← HA.out]; rfl), rfl⟩
    · have hlt' : ¬ (k : Int) < (l.length : Int) := by omega
      have HA := hid (show l.all asciiOk = true by rw [← hacc.out, List.drop_of_length_le (by omega)]; rfl)
      clear hacc
      go_wp2_with fail
      go_ret
      exact ⟨ret_bool HA.out.symm, rfl⟩
end Go.Proofs.YtfiokjdikhfcaaaDoor
