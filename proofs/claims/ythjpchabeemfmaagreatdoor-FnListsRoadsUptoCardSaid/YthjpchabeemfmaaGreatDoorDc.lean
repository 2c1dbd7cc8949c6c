import Derived.Test.YthjpchabeemfmaaGreatDoorDb
import Derived.Test.YthjpchabeemfmaaGreatDoorGk
import Derived.Deep.QuietTactic
import Derived.BigQuiet
import Derived.Handy
namespace Go.Proofs.YthjpchabeemfmaaGreatDoor
open Go.RowKit
set_option linter.unusedVariables false
set_option linter.unusedSimpArgs false
set_option maxHeartbeats 4000000
set_option maxRecDepth 100000
attribute [local go_sem] S_extract S_append run_cut_S run_head_S run_tail_S Nat.add_sub_cancel_left

theorem splitN_none : ∀ s : List UInt8, zIdx [10] s = none → splitN s = [s]
  | [], _ => rfl
  | c :: t, h => by
    rw [zIdx] at h
    by_cases hc : c = 10
    · subst hc
      simp [List.isPrefixOf] at h
    · rw [if_neg (by simp [List.isPrefixOf]; exact fun e => hc e.symm)] at h
      have h2 : zIdx [10] t = none := by
        cases hz : zIdx [10] t with
        | none => rfl
        | some i => rw [hz] at h; cases h
      rw [splitN, if_neg hc, splitN_none t h2]
theorem splitN_some : ∀ (s : List UInt8) (i : Nat), zIdx [10] s = some i → splitN s = s.take i :: splitN (s.drop (i + 1))
  | [], i, h => by simp [zIdx] at h
  | c :: t, i, h => by
    rw [zIdx] at h
    by_cases hc : c = 10
    · subst hc
      rw [if_pos (by simp [List.isPrefixOf])] at h
      injection h with h
      subst h
      simp [splitN]
    · rw [if_neg (by simp [List.isPrefixOf]; exact fun e => hc e.symm)] at h
      cases hz : zIdx [10] t with
      | none => rw [hz] at h; cases h
      | some j =>
        rw [hz] at h
        injection h with h
        subst h
        rw [splitN, if_neg hc, splitN_some t j hz]
        simp
theorem lzzSplit_calls (s : List UInt8) (w : World) (hs : s.length ≤ 1000000000) :
    Calls Tryz.prog 62 #[.string ⟨s.toArray⟩, .string ⟨#[10]⟩] w fun e w' => ∃ v, e = .returned v ∧ w'.ownsRow w.heap.size 9 1 v (splitN s).length (strs (splitN s)) ∧ Below w.heap.size w w' := by
  go_enter Tryz.func62, Tryz.ntmps62
  go_wp2_with fail
  go_loopw [0, 5] (fun vs v wr => ∃ (rest : List UInt8) (done : List (List UInt8)), vs = .string ⟨rest.toArray⟩ ∧ wr.ownsRow w.heap.size 9 1 v done.length (strs done) ∧ Below w.heap.size w wr ∧ Hid (done ++ splitN rest = splitN s) ∧ done.length + rest.length ≤ s.length) (fun vs _ _ => strLen vs)
  case atStart => exact ⟨s, [], rfl, own_nil _ _ _ _, Below.refl _ _, hid (by simp), by simp⟩
  case round =>
    obtain ⟨rest, done, rfl, hown, hbw, hT, hl⟩ := hrel
    have hbs := hbw.size
    have KI := hid (fun w' => lzzIndex_calls rest [10] w' (by omega) (by simp))
    cases hz : zIdx [10] rest with
    | none =>
      have hi : idxAt [10] 0 rest = -1 := by simp [idxAt, hz]
      have HF := hid (show strs done ++ [.string ⟨rest.toArray⟩] = strs (splitN s) ∧ done.length + 1 = (splitN s).length by
        rw [← hT.out, splitN_none rest hz]
        exact ⟨by simp [strs], by simp⟩)
      clear hz hT
      go_wp2_with (first
        | (go_at_call 81; (with_reducible refine (KI.out _).mono ?_); rintro e w' ⟨rfl, rfl⟩; rw [hi])
        | (at_builtin; refine append_box rfl _ _ 37 9 (.string ⟨#[]⟩) 1 16 rfl Tryz.underlying37 infoStr rfl (by decide) w.heap.size u5 done.length (strs done) rfl hown 1 9 [.string ⟨rest.toArray⟩] rfl rfl (by simp; rfl) (by omega) (by decide) hbs ?_; intro v1 w1 hown1 hg1))
      go_ret
      refine ⟨_, rfl, ?_, below_grown hbw hbs (Nat.le_refl _) hown hg1⟩
      rw [← HF.out.1, ← HF.out.2]
      exact hown1
    | some i =>
      have hi : idxAt [10] 0 rest = (i : Int) := by simp [idxAt, hz]
      have hib := zIdx_bound hz
      simp only [List.length_cons, List.length_nil] at hib
      have HT2 := hid (show (done ++ [rest.take i]) ++ splitN (rest.drop (i + 1)) = splitN s by rw [← hT.out, splitN_some rest i hz]; simp)
      have hi1 : (i : Int) ≤ (rest.length : Int) := by omega
      have hi2 : (i : Int) + 1 ≤ (rest.length : Int) := by omega
      clear hz hT
      go_wp2_with (first
        | (go_at_call 81; (with_reducible refine (KI.out _).mono ?_); rintro e w' ⟨rfl, rfl⟩; rw [hi])
        | (at_builtin; refine append_box rfl _ _ 37 9 (.string ⟨#[]⟩) 1 16 rfl Tryz.underlying37 infoStr rfl (by decide) w.heap.size u5 done.length (strs done) rfl hown 1 9 [.string ⟨(rest.take i).toArray⟩] rfl rfl (by simp; rfl) (by omega) (by decide) hbs ?_; intro v1 w1 hown1 hg1))
      go_roundw
      case rel => exact ⟨rest.drop (i + 1), done ++ [rest.take i], by rw [List.take_of_length_le (by simp)], by simpa [strs] using hown1, below_grown hbw hbs (Nat.le_refl _) hown hg1, HT2, by simp; omega⟩
      case measure => simp [strLen, ByteArray.size]; omega
theorem lzzContains_calls (s sub : List UInt8) (w : World) (hs : s.length ≤ 4611686018427387903) (hsub : sub.length ≤ 4611686018427387903) :
    Calls Tryz.prog 60 #[.string ⟨s.toArray⟩, .string ⟨sub.toArray⟩] w fun e w' => e = .returned (.bool (hasSub s sub)) ∧ w = w' := by
  have HH := hid (hasSub_idx s sub)
  go_enter Tryz.func60, Tryz.ntmps60
  go_wp2_with (go_at_call 81; refine (lzzIndex_calls s sub _ hs hsub).mono ?_; rintro e w' ⟨rfl, rfl⟩)
  go_ret
  exact ⟨ret_bool HH.out, rfl⟩
theorem Apply0_calls (t : List UInt8) (w : World) :
    Calls Tryz.prog 59 #[.int .i64 0, .string ⟨t.toArray⟩] w fun e w' => e = .returned (.string ⟨t.toArray⟩) ∧ w = w' := by
  go_enter Tryz.func59, Tryz.ntmps59
  go_wp2_with fail
  go_ret
  exact ⟨rfl, rfl⟩
theorem repAll_none_of {old new s : List UInt8} (h : hasSub s old = false) : repAll old new s = s := by
  unfold repAll
  cases hz : zIdx old s with
  | none => exact repAllF_none _ hz
  | some i => simp [hasSub, hz] at h
theorem cells_hint {w : World} {g : Nat} {h : Hint} (H : w.heap[g]? = some (.cells #[.bool h.top, .bool h.first, .bool h.only, .bool h.last, .bool h.bottom] 79 (0, 0))) : w.cell? ⟨g, 0, none⟩ = some (.bool h.top) ∧ w.cell? ⟨g, 1, none⟩ = some (.bool h.first) ∧ w.cell? ⟨g, 2, none⟩ = some (.bool h.only) ∧ w.cell? ⟨g, 3, none⟩ = some (.bool h.last) ∧ w.cell? ⟨g, 4, none⟩ = some (.bool h.bottom) :=
  ⟨blk_cell H 0, blk_cell H 1, blk_cell H 2, blk_cell H 3, blk_cell H 4⟩
end Go.Proofs.YthjpchabeemfmaaGreatDoor
