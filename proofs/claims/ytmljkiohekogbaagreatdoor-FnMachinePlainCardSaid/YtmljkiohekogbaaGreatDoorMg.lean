import Derived.Test.YtmljkiohekogbaaGreatDoorMf
import Derived.Test.YtmljkiohekogbaaGreatDoorMc
import Derived.Deep.QuietTactic
import Derived.BigQuiet
import Derived.Handy
namespace Go.Proofs.YtmljkiohekogbaaGreatDoor
open Go.RowKit
set_option linter.unusedVariables false
set_option linter.unusedSimpArgs false
set_option maxHeartbeats 4000000
set_option maxRecDepth 100000
attribute [local go_sem] S_extract S_append run_cut_S run_head_S run_tail_S Nat.add_sub_cancel_left

theorem infoStr : (Tryz.prog.info? 9).map (fun i => (i.zero, i.size, i.bytes)) = some (some (.string ⟨#[]⟩), 1, 16) := by kernel_rfl
theorem splitX_no (x : UInt8) : ∀ s : List UInt8, zIdx [x] s = none → splitX x s = [s]
  | [], _ => rfl
  | c :: t, h => by
    rw [zIdx] at h
    by_cases hc : c = x
    · subst hc
      simp [List.isPrefixOf] at h
    · rw [if_neg (by simp [List.isPrefixOf]; exact fun e => hc e.symm)] at h
      have h2 : zIdx [x] t = none := by
        cases hz : zIdx [x] t with
        | none => rfl
        | some i => rw [hz] at h; cases h
      rw [splitX_cons, if_neg hc, splitX_no x t h2]
theorem splitX_at (x : UInt8) : ∀ (s : List UInt8) (i : Nat), zIdx [x] s = some i → splitX x s = s.take i :: splitX x (s.drop (i + 1))
  | [], i, h => by simp [zIdx] at h
  | c :: t, i, h => by
    rw [zIdx] at h
    by_cases hc : c = x
    · subst hc
      rw [if_pos (by simp [List.isPrefixOf])] at h
      injection h with h
      subst h
      simp [splitX]
    · rw [if_neg (by simp [List.isPrefixOf]; exact fun e => hc e.symm)] at h
      cases hz : zIdx [x] t with
      | none => rw [hz] at h; cases h
      | some j =>
        rw [hz] at h
        injection h with h
        subst h
        rw [splitX_cons, if_neg hc, splitX_at x t j hz]
        simp
theorem zzSplit_calls (s : List UInt8) (w : World) (hs : s.length ≤ 1000000000) :
    Calls Tryz.prog 53 #[.string ⟨s.toArray⟩, .string ⟨#[59]⟩] w fun e w' => ∃ v, e = .returned v ∧ w'.ownsRow w.heap.size 9 1 v (splitX 59 s).length (strs (splitX 59 s)) ∧ Below w.heap.size w w' := by
  go_enter Tryz.func53, Tryz.ntmps53
  go_wp2_with fail
  go_loopw [0, 5] (fun vs v wr => ∃ (rest : List UInt8) (done : List (List UInt8)), vs = .string ⟨rest.toArray⟩ ∧ wr.ownsRow w.heap.size 9 1 v done.length (strs done) ∧ Below w.heap.size w wr ∧ Hid (done ++ splitX 59 rest = splitX 59 s) ∧ done.length + rest.length ≤ s.length) (fun vs _ _ => strLen vs)
  case atStart => exact ⟨s, [], rfl, own_nil _ _ _ _, Below.refl _ _, hid (by simp), by simp⟩
  case round =>
    obtain ⟨rest, done, rfl, hown, hbw, hT, hl⟩ := hrel
    have hbs := hbw.size
    have KI := hid (fun w' => zzIndex_calls rest [59] w' (by omega) (by simp))
    cases hz : zIdx [59] rest with
    | none =>
      have hi : idxAt [59] 0 rest = -1 := by simp [idxAt, hz]
      have HF := hid (show strs done ++ [.string ⟨rest.toArray⟩] = strs (splitX 59 s) ∧ done.length + 1 = (splitX 59 s).length by
        rw [← hT.out, splitX_no 59 rest hz]
        exact ⟨by simp [strs], by simp⟩)
      clear hz hT
      go_wp2_with (first
        | (go_at_call 69; (with_reducible refine (KI.out _).mono ?_); rintro e w' ⟨rfl, rfl⟩; rw [hi])
        | (at_builtin; refine append_box rfl _ _ 78 9 (.string ⟨#[]⟩) 1 16 rfl Tryz.underlying78 infoStr rfl (by decide) w.heap.size u5 done.length (strs done) rfl hown 1 9 [.string ⟨rest.toArray⟩] rfl rfl (by simp; rfl) (by omega) (by decide) hbs ?_; intro v1 w1 hown1 hg1))
      go_ret
      refine ⟨_, rfl, ?_, below_grown hbw hbs (Nat.le_refl _) hown hg1⟩
      rw [← HF.out.1, ← HF.out.2]
      exact hown1
    | some i =>
      have hi : idxAt [59] 0 rest = (i : Int) := by simp [idxAt, hz]
      have hib := zIdx_bound hz
      simp only [List.length_cons, List.length_nil] at hib
      have HT2 := hid (show (done ++ [rest.take i]) ++ splitX 59 (rest.drop (i + 1)) = splitX 59 s by rw [← hT.out, splitX_at 59 rest i hz]; simp)
      have hi1 : (i : Int) ≤ (rest.length : Int) := by omega
      have hi2 : (i : Int) + 1 ≤ (rest.length : Int) := by omega
      clear hz hT
      go_wp2_with (first
        | (go_at_call 69; (with_reducible refine (KI.out _).mono ?_); rintro e w' ⟨rfl, rfl⟩; rw [hi])
        | (at_builtin; refine append_box rfl _ _ 78 9 (.string ⟨#[]⟩) 1 16 rfl Tryz.underlying78 infoStr rfl (by decide) w.heap.size u5 done.length (strs done) rfl hown 1 9 [.string ⟨(rest.take i).toArray⟩] rfl rfl (by simp; rfl) (by omega) (by decide) hbs ?_; intro v1 w1 hown1 hg1))
      go_roundw
      case rel => exact ⟨rest.drop (i + 1), done ++ [rest.take i], by rw [List.take_of_length_le (by simp)], by simpa [strs] using hown1, below_grown hbw hbs (Nat.le_refl _) hown hg1, HT2, by simp; omega⟩
      case measure => simp [strLen, ByteArray.size]; omega
theorem ret_Q {a b : List UInt8} (h : a = b) : Ending.returned (.string ⟨a.toArray⟩) = .returned (.string ⟨b.toArray⟩) := by rw [h]
theorem below_drewM (w : World) (n : Nat) : Below w.heap.size w (w.drewN n) := ⟨rfl, rfl, rfl, Nat.le_refl _, fun _ _ => rfl⟩
theorem zzReplaceOne_calls (s old : List UInt8) (w : World) (hs : s.length ≤ 1000000000) (ho : old.length ≤ 1000000000) :
    Calls Tryz.prog 52 #[.string ⟨s.toArray⟩, .string ⟨old.toArray⟩, .string ⟨#[]⟩] w fun e w' => e = .returned (.string ⟨(strike1 old s).toArray⟩) ∧ Below w.heap.size w w' := by
  have KI := hid (fun w' => zzIndex_calls s old w' (by omega) (by omega))
  cases hz : zIdx old s with
  | none =>
    have hi : idxAt old 0 s = -1 := by simp [idxAt, hz]
    have HF := hid (show strike1 old s = s by unfold strike1; rw [hz])
    clear hz
    have hi := hid hi
    go_enter Tryz.func52, Tryz.ntmps52
    go_wp2_with (first
      | (go_at_call 69; (with_reducible refine (KI.out _).mono ?_); rintro e w' ⟨rfl, rfl⟩; rw [hi.out]))
    go_ret
    exact ⟨ret_Q (by rw [HF.out]), Below.refl _ _⟩
  | some i =>
    have hi : idxAt old 0 s = (i : Int) := by simp [idxAt, hz]
    have hib := zIdx_bound hz
    have HF := hid (show strike1 old s = s.take i ++ s.drop (i + old.length) by unfold strike1; rw [hz])
    have hi1 : (i : Int) ≤ (s.length : Int) := by omega
    have hi2 : (i : Int) + (old.length : Int) ≤ (s.length : Int) := by omega
    have hw1 : IntKind.i64.wrap ((i : Int) + (old.length : Int)) = (i : Int) + (old.length : Int) := by rw [IntKind.wrap_i64]; omega
    have hw2 : ((i : Int) + (old.length : Int)).toNat = i + old.length := by omega
    have hw3 : (0 : Int) ≤ (i : Int) + (old.length : Int) := by omega
    clear hz
    have hi := hid hi
    go_enter Tryz.func52, Tryz.ntmps52
    go_wp2_with (first
      | (go_at_call 69; (with_reducible refine (KI.out _).mono ?_); rintro e w' ⟨rfl, rfl⟩; rw [hi.out]))
    go_quiet (fail)
    go_wp2_with fail
    go_ret
    exact ⟨ret_Q (by rw [HF.out, List.take_of_length_le (l := s.drop (i + old.length)) (by simp)]), below_drewM _ _⟩
theorem strip_calls (p : Nat) (s : List UInt8) (kind : Int) (w : World) (hs : s.length ≤ 1000000000) :
    Calls Tryz.prog 40 #[.pointer (some ⟨p, 0, none⟩), .string ⟨s.toArray⟩, .int .i64 kind] w fun e w' => e = .returned (.string ⟨(stripSeq kind s).toArray⟩) ∧ Below w.heap.size w w' := by
  have K := hid (fun (s old : List UInt8) (w : World) (h1 : s.length ≤ 1000000000) (h2 : old.length ≤ 1000000000) => zzReplaceOne_calls s old w h1 h2)
  have l1 := strike1_len [27, 93] s
  have l2 := strike1_len [27, 91] s
  by_cases hk : kind = 2
  · have HF := hid (show strike1 [92] (strike1 [27, 93] s) = stripSeq kind s by unfold stripSeq; rw [if_pos hk])
    have hk2 : (kind == 2) = true := by simpa using hk
    have K1 := hid (K.out s [27, 93] w hs (by simp))
    have K2 := hid (fun w' => K.out (strike1 [27, 93] s) [92] w' (by omega) (by simp))
    clear hk
    go_enter Tryz.func40, Tryz.ntmps40
    go_wp2_with (first
      | (go_at_call 52; (with_reducible refine K1.out.mono ?_); rintro e w1 ⟨rfl, hb1⟩)
      | (go_at_call 52; (with_reducible refine (K2.out _).mono ?_); rintro e w2 ⟨rfl, hb2⟩))
    go_ret
    exact ⟨ret_Q (by rw [HF.out]), hb1.trans (hb2.mono hb1.size)⟩
  · have HF := hid (show strike1 [109] (strike1 [27, 91] s) = stripSeq kind s by unfold stripSeq; rw [if_neg hk])
    have hk2 : (kind == 2) = false := by simpa using hk
    have K1 := hid (K.out s [27, 91] w hs (by simp))
    have K2 := hid (fun w' => K.out (strike1 [27, 91] s) [109] w' (by omega) (by simp))
    clear hk
    go_enter Tryz.func40, Tryz.ntmps40
    go_wp2_with (first
      | (go_at_call 52; (with_reducible refine K1.out.mono ?_); rintro e w1 ⟨rfl, hb1⟩)
      | (go_at_call 52; (with_reducible refine (K2.out _).mono ?_); rintro e w2 ⟨rfl, hb2⟩))
    go_ret
    exact ⟨ret_Q (by rw [HF.out]), hb1.trans (hb2.mono hb1.size)⟩
end Go.Proofs.YtmljkiohekogbaaGreatDoor
