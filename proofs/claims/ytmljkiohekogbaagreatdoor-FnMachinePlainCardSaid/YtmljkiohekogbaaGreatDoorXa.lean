import Derived.Test.YtmljkiohekogbaaGreatDoorMw
import Derived.Test.YtmljkiohekogbaaGreatDoorG
import Derived.Laws.IdiomStrings
import Derived.Laws.Cover4
import Derived.Deep.QuietTactic
import Derived.BigQuiet
namespace Go.Proofs.YtmljkiohekogbaaGreatDoor
open Go.RowKit
set_option linter.unusedVariables false
set_option linter.unusedSimpArgs false
set_option maxHeartbeats 4000000
set_option maxRecDepth 100000
attribute [local go_sem] S_extract S_append run_cut_S run_head_S run_tail_S Nat.add_sub_cancel_left

theorem cv_runes (s : ByteArray) : ∀ (b i : Nat) (acc : Array Value), Conv.runesFrom s b i acc = acc ++ ((runesFrom s b i).map fun r => Value.int .i32 r).toArray
  | 0, _, acc => by simp [Conv.runesFrom, runesFrom]
  | b + 1, i, acc => by
    unfold Conv.runesFrom runesFrom
    split
    · refine (cv_runes s b (i + (Utf8.decode s i).2) (acc.push (.int .i32 (Int.ofNat (Utf8.decode s i).1)))).trans ?_
      simp
    · simp
def i32s (l : List Int) : List Value := l.map (Value.int .i32)
theorem runesL_len (l : List UInt8) : (runesL l).length ≤ l.length := by
  rw [← runes_L]
  have : ∀ (b i : Nat), (runesFrom ⟨l.toArray⟩ b i).length ≤ b := by
    intro b
    induction b with
    | zero => intro i; simp [runesFrom]
    | succ b ih =>
      intro i
      unfold runesFrom
      split
      · have := ih (i + (Utf8.decode ⟨l.toArray⟩ i).2); simp; omega
      · simp
  have h := this (⟨l.toArray⟩ : ByteArray).size 0
  rw [S_size] at h
  exact h
/-- []rune(s) -/
theorem cv_to (l : List UInt8) (hl : l.length ≤ 1000000) (W : World) : ∃ cap : Nat, (runesL l).length ≤ cap ∧ (convert 9 42 (.string ⟨l.toArray⟩)).run Tryz.prog W = .ok (.slice (some ⟨W.heap.size, 0, none⟩) (runesL l).length cap) (W.drew.alloc (.cells ((i32s (runesL l)).toArray ++ Array.replicate (cap - (runesL l).length) (.int .i32 0)) 21)) := by
  have hsz : (Conv.runesFrom ⟨l.toArray⟩ (⟨l.toArray⟩ : ByteArray).size 0 #[]) = (i32s (runesL l)).toArray := by
    rw [cv_runes]
    have : runesFrom ⟨l.toArray⟩ (⟨l.toArray⟩ : ByteArray).size 0 = runesL l := runes_L l
    rw [this]
    simp [i32s]
  have hn : (i32s (runesL l)).toArray.size = (runesL l).length := by simp [i32s]
  have hb := runesL_len l
  have h := run_runes_of_string (P := Tryz.prog) W 9 42 21 ⟨l.toArray⟩ Tryz.underlying9 Tryz.underlying42 Tryz.underlying21 (by rw [hsz, hn]; omega)
  rw [hsz, hn] at h
  exact ⟨_, grownCap_ge W (runesL l).length 0 21 |> fun h => by simpa using h, h⟩
theorem enc_bytes (n : Int) (hv : VR n) : Utf8.encode n = ⟨(Lib.encodeRune n).toArray⟩ := by
  unfold VR at hv
  obtain ⟨k, rfl⟩ := Int.eq_ofNat_of_zero_le (show 0 ≤ n by omega)
  have hval : Utf8.valid (k : Int) = true := by unfold Utf8.valid; simp; omega
  unfold Utf8.encode
  rw [hval]
  simp only [if_true, Int.toNat_natCast]
  have hb : ∀ x : Nat, UInt8.ofNat x = x.toUInt8 := fun _ => rfl
  by_cases h1 : k < 128
  · rw [if_pos h1, Lib.encodeRune, Lib.encodeRuneZ_one (by omega) (by omega)]
    have e1 : ((k : Int)).toNat = k := by omega
    simp only [List.map_cons, List.map_nil, e1, hb]
  · by_cases h2 : k < 2048
    · rw [if_neg h1, if_pos h2, Lib.encodeRune, Lib.encodeRuneZ_two (by omega) (by omega)]
      have e1 : ((192 : Int) + (k : Int) / 64).toNat = 192 + k / 64 := by omega
      have e2 : ((128 : Int) + (k : Int) % 64).toNat = 128 + k % 64 := by omega
      simp only [List.map_cons, List.map_nil, e1, e2, hb]
    · by_cases h3 : k < 65536
      · rw [if_neg h1, if_neg h2, if_pos h3, Lib.encodeRune, Lib.encodeRuneZ_three (by omega)]
        have e1 : ((224 : Int) + (k : Int) / 4096).toNat = 224 + k / 4096 := by omega
        have e2 : ((128 : Int) + (k : Int) / 64 % 64).toNat = 128 + k / 64 % 64 := by omega
        have e3 : ((128 : Int) + (k : Int) % 64).toNat = 128 + k % 64 := by omega
        simp only [List.map_cons, List.map_nil, e1, e2, e3, hb]
      · rw [if_neg h1, if_neg h2, if_neg h3, Lib.encodeRune, Lib.encodeRuneZ_four (by omega) (by omega)]
        have e0 : ((240 : Int) + (k : Int) / 262144).toNat = 240 + k / 262144 := by omega
        have e1 : ((128 : Int) + (k : Int) / 4096 % 64).toNat = 128 + k / 4096 % 64 := by omega
        have e2 : ((128 : Int) + (k : Int) / 64 % 64).toNat = 128 + k / 64 % 64 := by omega
        have e3 : ((128 : Int) + (k : Int) % 64).toNat = 128 + k % 64 := by omega
        simp only [List.map_cons, List.map_nil, e0, e1, e2, e3, hb]
theorem runesBytes_encs (rs : List Int) (hv : ∀ r ∈ rs, VR r) : runesBytes rs = ⟨(encs rs).toArray⟩ := by
  unfold runesBytes
  have : ∀ (rs : List Int) (acc : List UInt8), (∀ r ∈ rs, VR r) → rs.foldl (fun r n => r ++ Utf8.encode n) (⟨acc.toArray⟩ : ByteArray) = ⟨(acc ++ encs rs).toArray⟩ := by
    intro rs
    induction rs with
    | nil => intro acc _; simp [encs]
    | cons r t ih =>
      intro acc hv
      rw [List.foldl_cons, enc_bytes r (hv r (by simp)), S_append, ih _ (fun x hx => hv x (List.mem_cons_of_mem _ hx)), encs_cons, List.append_assoc]
  exact this rs [] hv
/-- string(rs), of runes that lie in a block -/
theorem cv_back (rs : List Int) (hv : ∀ r ∈ rs, VR r) (W : World) (b cap : Nat) (hc : ∀ j r, rs[j]? = some r → W.cell? ⟨b, j, none⟩ = some (.int .i32 r)) :
    (convert 42 9 (.slice (some ⟨b, 0, none⟩) rs.length cap)).run Tryz.prog W = .ok (.string ⟨(encs rs).toArray⟩) W := by
  have h := run_convert_runes (P := Tryz.prog) W 42 9 21 ⟨b, 0, none⟩ rs.length cap rs (Nat.le_refl _) Tryz.underlying42 Tryz.underlying21 Tryz.underlying9 (fun j hj => by
    have := hc j (rs.getD j 0) (by simp [List.getD, List.getElem?_eq_getElem hj])
    have e : Addr.add ⟨b, 0, none⟩ j = ⟨b, j, none⟩ := (add_plain b 0 j).trans (by rw [Nat.zero_add])
    rw [e]
    exact this)
  rw [List.take_length, runesBytes_encs rs hv] at h
  exact h
def rowR (rs : List Int) (n : Nat) : Obj := .cells ((i32s rs).toArray ++ Array.replicate n (.int .i32 0)) 21
theorem cv_cells (rs : List Int) (W : World) (n : Nat) (j : Nat) (r : Int) (h : rs[j]? = some r) : ((W.alloc (.cells ((i32s rs).toArray ++ Array.replicate n (.int .i32 0)) 21)).drew).cell? ⟨W.heap.size, j, none⟩ = some (.int .i32 r) := by
  have hlt := (List.getElem?_eq_some_iff.1 h).1
  refine (blk_cell (alloc_heap_new W _) j).trans ?_
  rw [Array.getElem?_append_left (by simpa [i32s] using hlt)]
  simp [i32s, h]
theorem cv_below (rs : List Int) (W : World) (n : Nat) : Below W.heap.size W ((W.alloc (.cells ((i32s rs).toArray ++ Array.replicate n (.int .i32 0)) 21)).drew) := ((Below.refl _ W).alloc (Nat.le_refl _) _).drew
theorem PtValid_calls (l : List UInt8) (w : World) : Calls Tryz.prog 11 #[.string ⟨l.toArray⟩] w fun e w' => e = .returned (.bool (ptValidB l)) ∧ Below w.heap.size w w' := by
  by_cases hl : l.length ≤ 400
  · have hl' : (l.length : Int) ≤ 400 := by omega
    have hd : decide ((l.length : Int) ≤ 400) = true := decide_eq_true hl'
    obtain ⟨capf, hcap⟩ := Classical.axiomOfChoice (cv_to l (by omega))
    have hcv := fun W => (hcap W).2
    have hcb := fun (W : World) => cv_back (runesL l) (VR_runesL _ l (Nat.le_refl _)) ((W.alloc (.cells ((i32s (runesL l)).toArray ++ Array.replicate (capf W - (runesL l).length) (.int .i32 0)) 21)).drew) W.heap.size (capf W) (fun j r h => cv_cells _ W _ j r h)
    have HB := hid (show ptValidB l = (encs (runesL l) == l) by unfold ptValidB; rw [decide_eq_true hl]; rfl)
    have hb := cv_below (runesL l) w (capf w - (runesL l).length)
    clear hcap
    go_enter Tryz.func11, Tryz.ntmps11
    go_wp2_with fail
    go_ret
    exact ⟨ret_bool HB.out.symm, hb⟩
  · have hl' : ¬ (l.length : Int) ≤ 400 := by omega
    have hd : decide ((l.length : Int) ≤ 400) = false := decide_eq_false hl'
    have HB := hid (show ptValidB l = false by unfold ptValidB; rw [decide_eq_false hl]; rfl)
    go_enter Tryz.func11, Tryz.ntmps11
    go_wp2_with fail
    go_ret
    exact ⟨ret_bool HB.out.symm, Below.refl _ w⟩
def plainEndsB (l : List UInt8) : Bool := !l.any fun b => b == 93
theorem plainEnds_iff {l : List UInt8} : plainEndsB l = true ↔ ∀ b ∈ l, b ≠ 93 := by
  unfold plainEndsB
  simp
end Go.Proofs.YtmljkiohekogbaaGreatDoor
