import Derived.WalkKit
import Derived.KernelRfl
import Derived.BigCall
import Derived.Lib.OthersKept
import Derived.Lib.Strings
import Derived.Test.YthjpchabeemfmaaGreatDoorProg
import Derived.Lib.MapLaws
import Derived.Lib.TrimUEq
import Derived.Lib.RuneBytes
import Derived.Lib.QuoteLoop
import Derived.Lib.AppendStr
import Derived.Lib.UnsafeStr
import Derived.Laws.BytesArg
import Derived.Laws.AppendOwnNone
import Derived.Lib.ItoaNum
import Derived.Lib.ItoaLen
import Derived.Laws.Runes
namespace Go.Proofs.YthjpchabeemfmaaGreatDoor
open Go.RowKit
set_option linter.unusedVariables false
set_option linter.unusedSimpArgs false
set_option maxHeartbeats 4000000
set_option maxRecDepth 100000

theorem hid {p : Prop} (h : p) : Hid p := h
theorem ret_bool {a b : Bool} (h : a = b) : Ending.returned (.bool a) = .returned (.bool b) := by rw [h]
theorem ret_int {k : IntKind} {a b : Int} (h : a = b) : Ending.returned (.int k a) = .returned (.int k b) := by rw [h]
theorem ret_str {a b : List UInt8} (h : a = b) : Ending.returned (.string ⟨a.toArray⟩) = .returned (.string ⟨b.toArray⟩) := by rw [h]

def strLen : Value → Nat | .string s => s.size | _ => 0
theorem strLen_S (l : List UInt8) : strLen (.string ⟨l.toArray⟩) = l.length := by simp [strLen, ByteArray.size]
theorem S_size (l : List UInt8) : (⟨l.toArray⟩ : ByteArray).size = l.length := by simp [ByteArray.size]
theorem S_extract (l : List UInt8) (a b : Nat) : (⟨l.toArray⟩ : ByteArray).extract a b = ⟨((l.drop a).take (b - a)).toArray⟩ := by
  have h : ((⟨l.toArray⟩ : ByteArray).extract a b).data.toList = ((l.drop a).take (b - a)) := by rw [Lib.extract_data]
  generalize (⟨l.toArray⟩ : ByteArray).extract a b = x at h ⊢
  cases x with
  | mk d => simp at h; rw [← h]

theorem S_append (a b : List UInt8) : (⟨a.toArray⟩ : ByteArray) ++ ⟨b.toArray⟩ = ⟨(a ++ b).toArray⟩ := by
  apply ByteArray.ext
  simp

section
variable {P : Program} (w : World)

/-- s[a:b] of a text whose bytes are told. -/
theorem run_cut_S (t : TypeId) (ht : P.underlying t = some .string) (l : List UInt8) (ka kb : IntKind) (a b : Int) (h0 : 0 ≤ a) (h1 : a ≤ b) (h2 : b ≤ (l.length : Int)) :
    (Instr.slice t (.string ⟨l.toArray⟩) (some (.int ka a)) (some (.int kb b)) none).run P w = .ok (.string ⟨((l.drop a.toNat).take (b.toNat - a.toNat)).toArray⟩) w := by
  have e : (b.toNat : Int) = b := Int.toNat_of_nonneg (by omega)
  have hb : b ≤ ((⟨l.toArray⟩ : ByteArray).size : Int) := by rw [S_size]; exact h2
  have hbs : (Instr.sliceBounds false (⟨l.toArray⟩ : ByteArray).size (⟨l.toArray⟩ : ByteArray).size (some (.int ka a)) (some (.int kb b)) none).run P w = .ok (a.toNat, b.toNat, (⟨l.toArray⟩ : ByteArray).size) w := by
    have hb0 : 0 ≤ b := by omega
    simp [Instr.sliceBounds, run_sliceBound, hb0, hb, h0, h1, e, Sem.run_bind, Result.andThen, Sem.run]
  simp [Instr.slice, run_underlying ht, Sem.run_bind, Result.andThen, hbs, S_extract, Sem.run]
theorem run_head_S (t : TypeId) (ht : P.underlying t = some .string) (l : List UInt8) (kb : IntKind) (b : Int) (h1 : 0 ≤ b) (h2 : b ≤ (l.length : Int)) :
    (Instr.slice t (.string ⟨l.toArray⟩) none (some (.int kb b)) none).run P w = .ok (.string ⟨(l.take b.toNat).toArray⟩) w := by
  have hb : b ≤ ((⟨l.toArray⟩ : ByteArray).size : Int) := by rw [S_size]; exact h2
  have hbs : (Instr.sliceBounds false (⟨l.toArray⟩ : ByteArray).size (⟨l.toArray⟩ : ByteArray).size none (some (.int kb b)) none).run P w = .ok (0, b.toNat, (⟨l.toArray⟩ : ByteArray).size) w := by
    simp [Instr.sliceBounds, run_sliceBound, hb, h1, Sem.run_bind, Result.andThen, Sem.run]
  simp [Instr.slice, run_underlying ht, Sem.run_bind, Result.andThen, hbs, S_extract, Sem.run]
theorem run_tail_S (t : TypeId) (ht : P.underlying t = some .string) (l : List UInt8) (ka : IntKind) (a : Int) (h1 : 0 ≤ a) (h2 : a ≤ (l.length : Int)) :
    (Instr.slice t (.string ⟨l.toArray⟩) (some (.int ka a)) none none).run P w = .ok (.string ⟨(l.drop a.toNat).toArray⟩) w := by
  have hb : a ≤ ((⟨l.toArray⟩ : ByteArray).size : Int) := by rw [S_size]; exact h2
  have hbs : (Instr.sliceBounds false (⟨l.toArray⟩ : ByteArray).size (⟨l.toArray⟩ : ByteArray).size (some (.int ka a)) none none).run P w = .ok (a.toNat, (⟨l.toArray⟩ : ByteArray).size, (⟨l.toArray⟩ : ByteArray).size) w := by
    simp [Instr.sliceBounds, run_sliceBound, hb, h1, Sem.run_bind, Result.andThen, Sem.run]
  simp [Instr.slice, run_underlying ht, Sem.run_bind, Result.andThen, hbs, S_extract, Sem.run]
  rw [S_size, List.take_of_length_le (by simp)]
end
end Go.Proofs.YthjpchabeemfmaaGreatDoor

namespace Go.Proofs.YthjpchabeemfmaaGreatDoor
open Go.RowKit
set_option linter.unusedVariables false
set_option linter.unusedSimpArgs false
set_option maxHeartbeats 4000000
set_option maxRecDepth 100000
attribute [local go_sem] S_extract S_append run_cut_S run_head_S run_tail_S Nat.add_sub_cancel_left


def txWide (r : Int) : Bool := decide ((0x3041 ≤ r ∧ r ≤ 0x3096) ∨ (0x30a1 ≤ r ∧ r ≤ 0x30fa) ∨ (0x4e00 ≤ r ∧ r ≤ 0x9fa5) ∨ (0xac00 ≤ r ∧ r ≤ 0xd7a3) ∨ (0xff01 ≤ r ∧ r ≤ 0xff5e))
def txBoxed (r : Int) : Bool := decide (0x2500 ≤ r ∧ r ≤ 0x259f)
def txKnown (r : Int) : Bool := decide ((32 ≤ r ∧ r ≤ 126) ∨ txBoxed r = true ∨ txWide r = true)
def txAttr (c : Int) : Bool := decide ((1 ≤ c ∧ c ≤ 9) ∨ (30 ≤ c ∧ c ≤ 37) ∨ (40 ≤ c ∧ c ≤ 47) ∨ (90 ≤ c ∧ c ≤ 97) ∨ (100 ≤ c ∧ c ≤ 107))


theorem TxWide_calls (r : Int) (w : World) : Calls Tryz.prog 21 #[.int .i32 r] w fun e w' => e = .returned (.bool (txWide r)) ∧ w = w' := by
  go_enter Tryz.func21, Tryz.ntmps21
  go_wp2
  all_goals (go_ret; refine ⟨ret_bool ?_, rfl⟩)
  all_goals (rw [Bool.eq_iff_iff]; simp [txWide]; try omega)


theorem TxBoxed_calls (r : Int) (w : World) : Calls Tryz.prog 51 #[.int .i32 r] w fun e w' => e = .returned (.bool (txBoxed r)) ∧ w = w' := by
  go_enter Tryz.func51, Tryz.ntmps51
  go_wp2
  all_goals (go_ret; refine ⟨ret_bool ?_, rfl⟩)
  all_goals (rw [Bool.eq_iff_iff]; simp [txBoxed]; try omega)


theorem TxKnown_calls (r : Int) (w : World) : Calls Tryz.prog 34 #[.int .i32 r] w fun e w' => e = .returned (.bool (txKnown r)) ∧ w = w' := by
  go_enter Tryz.func34, Tryz.ntmps34
  go_wp2_with (first | (go_at_call 51; refine (TxBoxed_calls _ _).mono ?_; rintro e w' ⟨rfl, rfl⟩) | (go_at_call 21; refine (TxWide_calls _ _).mono ?_; rintro e w' ⟨rfl, rfl⟩))
  all_goals (go_ret; refine ⟨ret_bool ?_, rfl⟩)
  all_goals (rw [Bool.eq_iff_iff]; simp [txKnown]; grind)

end Go.Proofs.YthjpchabeemfmaaGreatDoor

namespace Go.Proofs.YthjpchabeemfmaaGreatDoor
open Go.RowKit
set_option linter.unusedVariables false
set_option linter.unusedSimpArgs false
set_option maxHeartbeats 4000000
set_option maxRecDepth 100000

/-- a number that is a rune -/
def VR (r : Int) : Prop := (0 ≤ r ∧ r < 55296) ∨ (57343 < r ∧ r ≤ 1114111)
def encs (rs : List Int) : List UInt8 := rs.flatMap Lib.encodeRune
theorem encs_nil : encs [] = [] := rfl
theorem encs_cons (r : Int) (rs : List Int) : encs (r :: rs) = Lib.encodeRune r ++ encs rs := rfl
theorem encs_append (a b : List Int) : encs (a ++ b) = encs a ++ encs b := by simp [encs]

theorem u8_nat (x : Int) (h0 : 0 ≤ x) (h1 : x < 256) : (x.toNat.toUInt8).toNat = x.toNat := by
  simp; omega

theorem decode_enc (r : Int) (hv : VR r) (t : List UInt8) : Lib.decodeL (Lib.encodeRune r ++ t) = (r.toNat, (Lib.encodeRune r).length) := by
  rw [Lib.decodeL_N]
  unfold VR at hv
  by_cases h1 : r ≤ 127
  · rw [Lib.encodeRune, Lib.encodeRuneZ_one (by omega) h1]
    simp only [List.map_cons, List.map_nil, List.cons_append, List.nil_append, List.getD_cons_zero, List.length_cons, List.length_nil]
    rw [u8_nat r (by omega) (by omega)]
    unfold Lib.decodeN
    rw [if_pos (by omega)]
  · by_cases h2 : r ≤ 2047
    · rw [Lib.encodeRune, Lib.encodeRuneZ_two (by omega) h2]
      simp only [List.map_cons, List.map_nil, List.cons_append, List.nil_append, List.getD_cons_zero, List.getD_cons_succ, List.length_cons, List.length_nil]
      rw [u8_nat (192 + r / 64) (by omega) (by omega), u8_nat (128 + r % 64) (by omega) (by omega)]
      unfold Lib.decodeN
      rw [if_neg (by omega), if_pos ⟨by omega, by omega, by omega⟩, if_pos (by omega)]
      congr 1
      omega
    · by_cases h3 : r ≤ 65535
      · rw [Lib.encodeRune, Lib.encodeRuneZ_three (by omega)]
        simp only [List.map_cons, List.map_nil, List.cons_append, List.nil_append, List.getD_cons_zero, List.getD_cons_succ, List.length_cons, List.length_nil]
        rw [u8_nat (224 + r / 4096) (by omega) (by omega), u8_nat (128 + r / 64 % 64) (by omega) (by omega), u8_nat (128 + r % 64) (by omega) (by omega)]
        unfold Lib.decodeN
        rw [if_neg (by omega), if_neg (by omega), if_pos ⟨by omega, ⟨by omega, by omega⟩, by omega, by omega⟩, if_pos ⟨by omega, by omega⟩]
        congr 1
        omega
      · rw [Lib.encodeRune, Lib.encodeRuneZ_four (by omega) (by omega)]
        simp only [List.map_cons, List.map_nil, List.cons_append, List.nil_append, List.getD_cons_zero, List.getD_cons_succ, List.length_cons, List.length_nil]
        rw [u8_nat (240 + r / 262144) (by omega) (by omega), u8_nat (128 + r / 4096 % 64) (by omega) (by omega), u8_nat (128 + r / 64 % 64) (by omega) (by omega), u8_nat (128 + r % 64) (by omega) (by omega)]
        unfold Lib.decodeN
        rw [if_neg (by omega), if_neg (by omega), if_neg (by omega), if_pos ⟨by omega, ⟨by omega, by omega⟩, ⟨by omega, by omega⟩, by omega, by omega⟩, if_pos ⟨by omega, by omega⟩]
        congr 1
        omega

theorem enc_len (r : Int) : 1 ≤ (Lib.encodeRune r).length ∧ (Lib.encodeRune r).length ≤ 4 := by
  have := Lib.encodeRuneZ_length r; simpa [Lib.encodeRune] using this
theorem width_pos (s : ByteArray) (pos : Nat) (h : pos < s.size) : 1 ≤ (Utf8.decode s pos).2 := by
  by_cases ha : (s[pos]'h).toNat < 128
  · rw [decode_ascii s pos h ha]
    exact Nat.le_refl _
  · exact (decode_high s pos h (by omega)).2

/-- the runes that 'for _, r := range s' gives from a place on -/
def runesFrom (s : ByteArray) : Nat → Nat → List Int
  | 0, _ => []
  | fuel + 1, pos => if pos < s.size then ((Utf8.decode s pos).1 : Int) :: runesFrom s fuel (pos + (Utf8.decode s pos).2) else []
def runes (s : ByteArray) : List Int := runesFrom s s.size 0

theorem runesFrom_end (s : ByteArray) (fuel pos : Nat) (h : ¬ pos < s.size) : runesFrom s fuel pos = [] := by
  cases fuel with
  | zero => rfl
  | succ f => simp [runesFrom, h]

theorem runesFrom_step (s : ByteArray) (f pos : Nat) (hp : pos < s.size) : runesFrom s (f + 1) pos = ((Utf8.decode s pos).1 : Int) :: runesFrom s f (pos + (Utf8.decode s pos).2) := by simp [runesFrom, hp]


/-- the runes of a list of bytes -/
def runesLF : Nat → List UInt8 → List Int
  | 0, _ => []
  | f + 1, l => if l = [] then [] else ((Lib.decodeL l).1 : Int) :: runesLF f (l.drop (Lib.decodeL l).2)
theorem runesFrom_L (s : ByteArray) : ∀ (f pos : Nat), runesFrom s f pos = runesLF f (s.data.toList.drop pos)
  | 0, _ => rfl
  | f + 1, pos => by
    unfold runesFrom runesLF
    have hd := Lib.decodeL_drop s pos
    by_cases h : pos < s.size
    · have hne : s.data.toList.drop pos ≠ [] := by
        intro e
        have := congrArg List.length e
        have hs : s.data.toList.length = s.size := by rw [Array.length_toList]; rfl
        rw [List.length_drop, hs, List.length_nil] at this
        omega
      rw [if_pos h, if_neg hne, hd, runesFrom_L s f, List.drop_drop]
    · have he : s.data.toList.drop pos = [] := by
        apply List.drop_of_length_le
        have hs : s.data.toList.length = s.size := by rw [Array.length_toList]; rfl
        omega
      rw [if_neg h, if_pos he]
theorem decodeL_pos (l : List UInt8) (h : l ≠ []) : 1 ≤ (Lib.decodeL l).2 := by
  unfold Lib.decodeL
  exact width_pos _ 0 (by rw [S_size]; exact List.length_pos_iff.2 h)
theorem runesLF_more : ∀ (f g : Nat) (l : List UInt8), l.length ≤ f → f ≤ g → runesLF g l = runesLF f l
  | 0, g, l, h, _ => by
    have : l = [] := List.eq_nil_of_length_eq_zero (by omega)
    subst this
    cases g <;> simp [runesLF]
  | f + 1, 0, l, h, hg => by omega
  | f + 1, g + 1, l, h, hg => by
    unfold runesLF
    by_cases hl : l = []
    · rw [if_pos hl, if_pos hl]
    · rw [if_neg hl, if_neg hl, runesLF_more f g _ (by have := decodeL_pos l hl; simp; omega) (by omega)]
def runesL (l : List UInt8) : List Int := runesLF l.length l
theorem runes_L (l : List UInt8) : runes ⟨l.toArray⟩ = runesL l := by
  unfold runes runesL
  rw [runesFrom_L]
  simp [ByteArray.size]
theorem runesL_nil : runesL [] = [] := rfl
theorem runesL_cons (l : List UInt8) (h : l ≠ []) : runesL l = ((Lib.decodeL l).1 : Int) :: runesL (l.drop (Lib.decodeL l).2) := by
  have hp := List.length_pos_iff.2 h
  have e : runesLF l.length l = runesLF (l.length - 1 + 1) l := by rw [Nat.sub_add_cancel hp]
  unfold runesL
  rw [e, runesLF, if_neg h, runesLF_more _ (l.length - 1) _ (Nat.le_refl _) (by have := decodeL_pos l h; simp; omega)]
/-- what is encoded is read back -/
theorem runesL_enc (r : Int) (hv : VR r) (t : List UInt8) : runesL (Lib.encodeRune r ++ t) = r :: runesL t := by
  have h1 := enc_len r
  have hne : Lib.encodeRune r ++ t ≠ [] := by intro e; have := congrArg List.length e; rw [List.length_append, List.length_nil] at this; omega
  have h0 : 0 ≤ r := by unfold VR at hv; omega
  rw [runesL_cons _ hne, decode_enc r hv t]
  simp only [List.drop_left]
  rw [Int.toNat_of_nonneg h0]
theorem runesL_encs (rs : List Int) (hv : ∀ r ∈ rs, VR r) (t : List UInt8) : runesL (encs rs ++ t) = rs ++ runesL t := by
  induction rs with
  | nil => simp [encs]
  | cons r rs ih =>
    rw [encs_cons, List.append_assoc, runesL_enc r (hv r (by simp)), ih (fun q hq => hv q (by simp [hq]))]
    rfl
theorem runesL_of_encs (rs : List Int) (hv : ∀ r ∈ rs, VR r) : runesL (encs rs) = rs := by
  have := runesL_encs rs hv []
  simpa [runesL_nil] using this
/-- a text whose runes are no errors is what its runes encode to -/
theorem encs_runesL : ∀ (n : Nat) (l : List UInt8), l.length ≤ n → (∀ r ∈ runesL l, r ≠ 65533) → encs (runesL l) = l
  | n, l, hn, h => by
    by_cases hl : l = []
    · subst hl; rfl
    · rw [runesL_cons l hl] at h ⊢
      have h1 : ((Lib.decodeL l).1 : Int) ≠ 65533 := h _ (by simp)
      have hp := decodeL_pos l hl
      have hlen := List.length_pos_iff.2 hl
      cases n with
      | zero => omega
      | succ n =>
        rw [encs_cons, encs_runesL n _ (by simp; omega) (fun r hr => h r (by simp [hr])), Lib.encode_decode l hl (by rintro ⟨e, _⟩; rw [e] at h1; exact h1 rfl), List.take_append_drop]
theorem VR_runesL : ∀ (n : Nat) (l : List UInt8), l.length ≤ n → ∀ r ∈ runesL l, VR r
  | n, l, hn, r, hr => by
    by_cases hl : l = []
    · subst hl; simp [runesL_nil] at hr
    · rw [runesL_cons l hl] at hr
      have hp := decodeL_pos l hl
      have hlen := List.length_pos_iff.2 hl
      cases n with
      | zero => omega
      | succ n =>
        rcases List.mem_cons.1 hr with hr | hr
        · subst hr
          rw [Lib.decodeL_N]
          have := Lib.decodeN_valid l.length (l.getD 0 0).toNat (l.getD 1 0).toNat (l.getD 2 0).toNat (l.getD 3 0).toNat (l.getD 0 0).toNat_lt
          unfold VR
          omega
        · exact VR_runesL n _ (by simp; omega) r hr
end Go.Proofs.YthjpchabeemfmaaGreatDoor

namespace Go.Proofs.YthjpchabeemfmaaGreatDoor
open Go.RowKit
set_option linter.unusedVariables false
set_option linter.unusedSimpArgs false
set_option maxHeartbeats 4000000
set_option maxRecDepth 100000
attribute [local go_sem] S_extract S_append run_cut_S run_head_S run_tail_S Nat.add_sub_cancel_left

def txSimpleL (l : List Int) (lines : Bool) : Bool := l.all fun r => txKnown r || (lines && r == 10)
def txSimple (s : ByteArray) (lines : Bool) : Bool := txSimpleL (runes s) lines



theorem TxSimple_calls (s : ByteArray) (lines : Bool) (w : World) (hs : s.size ≤ 9223372036854775807) : Calls Tryz.prog 19 #[.string s, .bool lines] w fun e w' => e = .returned (.bool (txSimple s lines)) ∧ Below w.heap.size w w' := by
  go_enter Tryz.func19, Tryz.ntmps19
  go_wp2
  go_loopw [] (fun wr => ∃ (pos fuel : Nat), wr.heap[w.heap.size]? = some (.stringIter s pos) ∧ Below w.heap.size w wr ∧ txSimpleL (runesFrom s fuel pos) lines = txSimple s lines ∧ s.size ≤ pos + fuel) (fun wr => s.size - wr.iterPos (w.heap.size))
  case atStart => exact ⟨0, s.size, by simpa using World.iter_heap w s 0, (Below.refl _ w).alloc (Nat.le_refl _) _, rfl, by omega⟩
  case round =>
    obtain ⟨pos, fuel, hit, hbw, hacc, hfu⟩ := hrel
    by_cases hp : pos < s.size
    · have hnx : ∀ ty, (Instr.next (.pointer (some ⟨w.heap.size, 0, none⟩)) true ty).run Tryz.prog wr = _ := fun ty => Lib.run_next_any_at wr (w.heap.size) s pos ty hit hp
      have hwd := width_pos s pos hp
      have hd1 := decode_le s pos
      have hit2 := Lib.iterAt_heap wr (w.heap.size) s pos (pos + (Utf8.decode s pos).2) hit
      have hbw2 := Lib.below_iterAt hbw (k := w.heap.size) (by omega) s (pos + (Utf8.decode s pos).2)
      obtain ⟨f, rfl⟩ : ∃ f, fuel = f + 1 := ⟨fuel - 1, by omega⟩
      have HA := hid (hacc.symm.trans (congrArg (txSimpleL · lines) (runesFrom_step s f pos hp)))
      clear hacc
      cases hk : txKnown ((Utf8.decode s pos).1 : Int) <;> cases lines <;> cases hl : (((Utf8.decode s pos).1 : Int) == 10)
      all_goals go_wp2_with (go_at_call 34; refine (TxKnown_calls _ _).mono ?_; rintro e w' ⟨rfl, rfl⟩)
      all_goals first
        | (go_ret; exact ⟨ret_bool (by rw [HA.out]; simp [txSimpleL, *]), hbw2⟩)
        | (go_roundw
           case rel => exact ⟨pos + (Utf8.decode s pos).2, f, hit2, hbw2, by rw [HA.out]; simp [txSimpleL, *], by omega⟩
           case measure => simp only [World.iterPos, hit2, hit]; omega)
    · have hnx : ∀ ty, (Instr.next (.pointer (some ⟨w.heap.size, 0, none⟩)) true ty).run Tryz.prog wr = _ := fun ty => Lib.run_next_end_at wr (w.heap.size) s pos ty hit hp
      go_wp2
      go_ret
      rw [runesFrom_end s fuel pos hp] at hacc
      exact ⟨ret_bool hacc, hbw⟩

end Go.Proofs.YthjpchabeemfmaaGreatDoor

namespace Go.Proofs.YthjpchabeemfmaaGreatDoor
open Go.RowKit
set_option linter.unusedVariables false
set_option linter.unusedSimpArgs false
set_option maxHeartbeats 4000000
set_option maxRecDepth 100000

/-! texts of known characters -/
theorem enc27 (r : Int) (hv : VR r) (h : (27 : UInt8) ∈ Lib.encodeRune r) : r = 27 := by
  unfold VR at hv
  have k : ∀ x : Int, 0 ≤ x → x < 256 → (27 : UInt8) = x.toNat.toUInt8 → x = 27 := by
    intro x h0 h1 e
    have := congrArg UInt8.toNat e
    rw [u8_nat x h0 h1] at this
    have e2 : (27 : UInt8).toNat = 27 := rfl
    omega
  by_cases h1 : r ≤ 127
  · rw [Lib.encodeRune, Lib.encodeRuneZ_one (by omega) h1] at h
    simp only [List.map_cons, List.map_nil, List.mem_singleton] at h
    exact k r (by omega) (by omega) h
  · exfalso
    by_cases h2 : r ≤ 2047
    · rw [Lib.encodeRune, Lib.encodeRuneZ_two (by omega) h2] at h
      simp only [List.map_cons, List.map_nil, List.mem_cons, List.not_mem_nil, or_false] at h
      rcases h with h | h
      · have := k _ (by omega) (by omega) h; omega
      · have := k _ (by omega) (by omega) h; omega
    · by_cases h3 : r ≤ 65535
      · rw [Lib.encodeRune, Lib.encodeRuneZ_three (by omega)] at h
        simp only [List.map_cons, List.map_nil, List.mem_cons, List.not_mem_nil, or_false] at h
        rcases h with h | h | h
        · have := k _ (by omega) (by omega) h; omega
        · have := k _ (by omega) (by omega) h; omega
        · have := k _ (by omega) (by omega) h; omega
      · rw [Lib.encodeRune, Lib.encodeRuneZ_four (by omega) (by omega)] at h
        simp only [List.map_cons, List.map_nil, List.mem_cons, List.not_mem_nil, or_false] at h
        rcases h with h | h | h | h
        · have := k _ (by omega) (by omega) h; omega
        · have := k _ (by omega) (by omega) h; omega
        · have := k _ (by omega) (by omega) h; omega
        · have := k _ (by omega) (by omega) h; omega

/-- a text of known characters (line ends let in) -/
def Kn (l : List UInt8) : Prop := ∀ r ∈ runesL l, txKnown r = true ∨ r = 10
theorem known_ne {r : Int} (h : txKnown r = true ∨ r = 10) : r ≠ 65533 ∧ r ≠ 27 := by
  rcases h with h | h
  · simp only [txKnown, txBoxed, txWide, decide_eq_true_eq] at h; omega
  · omega
theorem Kn.encs {l : List UInt8} (h : Kn l) : encs (runesL l) = l := encs_runesL l.length l (Nat.le_refl _) fun r hr => (known_ne (h r hr)).1
theorem Kn.vr {l : List UInt8} (h : Kn l) : ∀ r ∈ runesL l, VR r := VR_runesL l.length l (Nat.le_refl _)
theorem Kn.append {l : List UInt8} (h : Kn l) (t : List UInt8) : runesL (l ++ t) = runesL l ++ runesL t := by
  conv => lhs; rw [← h.encs]
  exact runesL_encs _ h.vr t
theorem Kn.of_simple {s : ByteArray} {lines : Bool} (h : txSimple s lines = true) : Kn s.data.toList := by
  intro r hr
  have e : runes s = runesL s.data.toList := by
    have := runes_L s.data.toList
    simpa using this
  unfold txSimple txSimpleL at h
  rw [e, List.all_eq_true] at h
  have := h r hr
  simp only [Bool.or_eq_true, Bool.and_eq_true, beq_iff_eq] at this
  rcases this with h | ⟨_, h⟩
  · exact .inl h
  · exact .inr h

theorem enc_small (r : Int) (hv : VR r) (x : UInt8) (hx : x.toNat < 128) (h : x ∈ Lib.encodeRune r) : r = x.toNat := by
  unfold VR at hv
  have k : ∀ y : Int, 0 ≤ y → y < 256 → x = y.toNat.toUInt8 → y = x.toNat := by
    intro y h0 h1 e
    have := congrArg UInt8.toNat e
    rw [u8_nat y h0 h1] at this
    omega
  by_cases h1 : r ≤ 127
  · rw [Lib.encodeRune, Lib.encodeRuneZ_one (by omega) h1] at h
    simp only [List.map_cons, List.map_nil, List.mem_singleton] at h
    exact k r (by omega) (by omega) h
  · exfalso
    by_cases h2 : r ≤ 2047
    · rw [Lib.encodeRune, Lib.encodeRuneZ_two (by omega) h2] at h
      simp only [List.map_cons, List.map_nil, List.mem_cons, List.not_mem_nil, or_false] at h
      rcases h with h | h
      · have := k _ (by omega) (by omega) h; omega
      · have := k _ (by omega) (by omega) h; omega
    · by_cases h3 : r ≤ 65535
      · rw [Lib.encodeRune, Lib.encodeRuneZ_three (by omega)] at h
        simp only [List.map_cons, List.map_nil, List.mem_cons, List.not_mem_nil, or_false] at h
        rcases h with h | h | h
        · have := k _ (by omega) (by omega) h; omega
        · have := k _ (by omega) (by omega) h; omega
        · have := k _ (by omega) (by omega) h; omega
      · rw [Lib.encodeRune, Lib.encodeRuneZ_four (by omega) (by omega)] at h
        simp only [List.map_cons, List.map_nil, List.mem_cons, List.not_mem_nil, or_false] at h
        rcases h with h | h | h | h
        · have := k _ (by omega) (by omega) h; omega
        · have := k _ (by omega) (by omega) h; omega
        · have := k _ (by omega) (by omega) h; omega
        · have := k _ (by omega) (by omega) h; omega
end Go.Proofs.YthjpchabeemfmaaGreatDoor

namespace Go.Proofs.YthjpchabeemfmaaGreatDoor
open Go.RowKit
set_option linter.unusedVariables false
set_option linter.unusedSimpArgs false
set_option maxHeartbeats 4000000
set_option maxRecDepth 100000
attribute [local go_sem] S_extract S_append run_cut_S run_head_S run_tail_S Nat.add_sub_cancel_left

def zIdx (sub : List UInt8) : List UInt8 → Option Nat
  | [] => if sub.isPrefixOf [] then some 0 else none
  | c :: t => if sub.isPrefixOf (c :: t) then some 0 else (zIdx sub t).map (· + 1)
def idxAt (sub : List UInt8) (k : Nat) (l : List UInt8) : Int := match zIdx sub l with | none => -1 | some j => ((k + j : Nat) : Int)
theorem zIdx_short (sub l : List UInt8) (h : l.length < sub.length) : zIdx sub l = none := by
  induction l with
  | nil => cases sub with
    | nil => simp at h
    | cons a b => simp [zIdx]
  | cons c t ih =>
    have hp : sub.isPrefixOf (c :: t) = false := by
      rw [Bool.eq_false_iff]; intro hp
      have := (List.isPrefixOf_iff_prefix.1 hp).length_le
      omega
    simp [zIdx, hp, ih (by simp at h; omega)]
theorem idxAt_end (sub : List UInt8) (k : Nat) (l : List UInt8) (h : l.length < sub.length) : idxAt sub k l = -1 := by simp [idxAt, zIdx_short sub l h]
theorem idxAt_hit (sub : List UInt8) (k : Nat) (l : List UInt8) (h : sub.isPrefixOf l = true) : idxAt sub k l = k := by
  cases l <;> simp [idxAt, zIdx, h]
theorem idxAt_miss (sub : List UInt8) (k : Nat) (l : List UInt8) (h : sub.isPrefixOf l = false) : idxAt sub k l = idxAt sub (k + 1) (l.drop 1) := by
  cases l with
  | nil => cases sub <;> simp at h; simp [idxAt, zIdx]
  | cons c t =>
    simp only [idxAt, zIdx, h]
    cases hz : zIdx sub t <;> simp [hz] <;> omega
theorem pre_take (sub l : List UInt8) (h : sub.length ≤ l.length) : sub.isPrefixOf l = (l.take sub.length == sub) := by
  rw [Bool.eq_iff_iff, List.isPrefixOf_iff_prefix, List.prefix_iff_eq_take, beq_iff_eq]
  exact eq_comm



theorem zzIndex_calls (s sub : List UInt8) (w : World) (hs : s.length ≤ 4611686018427387903) (hsub : sub.length ≤ 4611686018427387903) :
    Calls Tryz.prog 100 #[.string ⟨s.toArray⟩, .string ⟨sub.toArray⟩] w fun e w' => e = .returned (.int .i64 (idxAt sub 0 s)) ∧ w = w' := by
  go_enter Tryz.func100, Tryz.ntmps100
  go_wp2

  go_loop [5] (fun i => ∃ k : Nat, k ≤ s.length ∧ i = .int .i64 k ∧ idxAt sub 0 s = idxAt sub k (s.drop k)) (fun i => s.length + 1 - (intOf i).toNat)
  case atStart => exact ⟨0, Nat.zero_le _, rfl, rfl⟩
  case round =>
    obtain ⟨k, hk, rfl, hacc⟩ := hrel
    have HA := hid hacc
    clear hacc
    by_cases hlt : k + sub.length ≤ s.length
    · have h1 : (k : Int) ≤ (k : Int) + (sub.length : Int) := by omega
      go_wp2
      all_goals first
        | (go_ret
           have hh : (List.take sub.length (List.drop k s) == sub) = true := by assumption
           exact ⟨ret_int (by rw [HA.out, idxAt_hit _ _ _ (by rw [pre_take _ _ (by simp; omega)]; exact hh)]), rfl⟩)
        | (go_round
           case rel =>
             have hh : (List.take sub.length (List.drop k s) == sub) = false := by assumption
             have hk2 : k < s.length := by
               rcases Nat.lt_or_ge k s.length with h | h
               · exact h
               · have h0 : sub = [] := List.eq_nil_of_length_eq_zero (by omega)
                 subst h0; simp at hh
             exact ⟨k + 1, by omega, by go_num, by rw [HA.out, idxAt_miss _ _ _ (by rw [pre_take _ _ (by simp; omega)]; exact hh)]; simp⟩
           case measure => simp [intOf]; omega)
    · go_wp2
      go_ret
      exact ⟨ret_int (by rw [HA.out]; exact (idxAt_end _ _ _ (by simp; omega)).symm), rfl⟩

end Go.Proofs.YthjpchabeemfmaaGreatDoor

namespace Go.Proofs.YthjpchabeemfmaaGreatDoor
open Go.RowKit
set_option linter.unusedVariables false
set_option linter.unusedSimpArgs false
set_option maxHeartbeats 4000000
set_option maxRecDepth 100000

/-- v is a slice of bytes of the call's own (element type e), and holds l -/
def OwnB (w : World) (e base : Nat) (v : Value) (l : List UInt8) : Prop := w.ownsRow base e 1 v l.length (Lib.byteCells l)

theorem OwnB.nil (w : World) (e base : Nat) : OwnB w e base (.slice none 0 0) [] := ⟨by simp [Lib.byteCells], .inl ⟨rfl, rfl⟩⟩
theorem OwnB.lt {w : World} {e base : Nat} {v : Value} {l : List UInt8} (h : OwnB w e base v l) (k : Nat) (hk : v.ownBlock = some k) : k < w.heap.size ∧ base ≤ k := by
  rcases h.2 with ⟨rfl, _⟩ | ⟨g, cap, cur, rfl, hb, hg, _⟩
  · simp [Value.ownBlock] at hk
  · simp [Value.ownBlock] at hk
    subst hk
    exact ⟨(Array.getElem?_eq_some_iff.1 hg).1, hb⟩
theorem own_step {w w1 : World} {e base sz n : Nat} {v : Value} {xs : List Value} (h : w.ownsRow base e sz v n xs) (hb : ∀ k, v.ownBlock = some k → w1.heap[k]? = w.heap[k]?) : w1.ownsRow base e sz v n xs := by
  obtain ⟨h1, h2⟩ := h
  refine ⟨h1, ?_⟩
  rcases h2 with h2 | ⟨g, cap, cur, rfl, hb0, hg, r⟩
  · exact .inl h2
  · exact .inr ⟨g, cap, cur, rfl, hb0, by rw [hb g (by simp [Value.ownBlock])]; exact hg, r⟩
theorem own_lt {w : World} {e base sz n : Nat} {v : Value} {xs : List Value} (h : w.ownsRow base e sz v n xs) (k : Nat) (hk : v.ownBlock = some k) : k < w.heap.size ∧ base ≤ k := by
  rcases h.2 with ⟨rfl, _⟩ | ⟨g, cap, cur, rfl, hb, hg, _⟩
  · simp [Value.ownBlock] at hk
  · simp [Value.ownBlock] at hk
    subst hk
    exact ⟨(Array.getElem?_eq_some_iff.1 hg).1, hb⟩
theorem own_below {w w1 : World} {e base sz n : Nat} {v : Value} {xs : List Value} (h : w.ownsRow base e sz v n xs) (hb : Below w.heap.size w w1) : w1.ownsRow base e sz v n xs :=
  own_step h fun k hk => hb.block k (own_lt h k hk).1
theorem OwnB.below {w w1 : World} {e base : Nat} {v : Value} {l : List UInt8} (h : OwnB w e base v l) (hb : Below w.heap.size w w1) : OwnB w1 e base v l := own_below h hb
theorem OwnB.alloc {w : World} {e base : Nat} {v : Value} {l : List UInt8} (h : OwnB w e base v l) (o : Obj) : OwnB (w.alloc o) e base v l := h.below ((Below.refl _ w).alloc (Nat.le_refl _) o)
theorem OwnB.drew {w : World} {e base : Nat} {v : Value} {l : List UInt8} (h : OwnB w e base v l) : OwnB w.drew e base v l := h.below (Below.refl _ w).drew
/-- what an append to a row of the call's own leaves below -/
theorem below_grown {B : Nat} {w w1 w2 : World} {v : Value} {e base sz n : Nat} {xs : List Value} (h : Below B w w1) (hB : B ≤ w1.heap.size) (hb : B ≤ base) (ho : w1.ownsRow base e sz v n xs) (hg : w1.grownBy w2 v.ownBlock) : Below B w w2 :=
  h.grown hg hB fun k hk => Nat.le_trans hb (own_lt ho k hk).2
theorem OwnB.below_grown {B : Nat} {w w1 w2 : World} {v : Value} {e base : Nat} {l : List UInt8} (ho : OwnB w1 e base v l) (h : Below B w w1) (hB : B ≤ w1.heap.size) (hb : B ≤ base) (hg : w1.grownBy w2 v.ownBlock) : Below B w w2 :=
  YthjpchabeemfmaaGreatDoor.below_grown h hB hb ho hg

theorem bdrew {B : Nat} {a w : World} (h : Below B a w) (n : Nat) : Below B a (w.drewN n) := ⟨h.os, h.tape, h.output, h.size, h.block⟩
theorem alloc_heap_new (w : World) (o : Obj) : (w.alloc o).heap[w.heap.size]? = some o := by
  show (w.heap.push o)[w.heap.size]? = some o
  simp

theorem blk_set {w : World} {g t : Nat} {cs : Array Value} {fz : Nat × Nat} (h : w.heap[g]? = some (.cells cs t fz)) (i : Nat) (u : Value) : (w.setCell ⟨g, i, none⟩ u).heap[g]? = some (.cells (cs.setIfInBounds i u) t fz) := by
  simp [World.setCell, Array.getElem?_modify, h]
theorem blk_cell {w : World} {g t : Nat} {cs : Array Value} {fz : Nat × Nat} (h : w.heap[g]? = some (.cells cs t fz)) (i : Nat) : w.cell? ⟨g, i, none⟩ = cs[i]? := by simp [World.cell?, h]
theorem blk_free {w : World} {g t : Nat} {cs : Array Value} (h : w.heap[g]? = some (.cells cs t (0, 0))) (i : Nat) : w.frozen? ⟨g, i, none⟩ = false := by simp [World.frozen?, h]

/-- v is a slice that reads as the whole numbers l -/
def RdI (w : World) (v : Value) (l : List Int) : Prop :=
  l.length ≤ 4611686018427387904 ∧ ∃ A c, v = .slice A l.length c ∧ l.length ≤ c ∧ (A = none → c = 0) ∧ (l ≠ [] → ∃ g o, A = some ⟨g, o, none⟩ ∧ ∀ i x, l[i]? = some x → w.cell? ⟨g, o + i, none⟩ = some (.int .i64 x))
theorem cell_lt {w : World} {a : Addr} {v : Value} (h : w.cell? a = some v) : a.block < w.heap.size := World.block_lt_of_cell? w a h
theorem cell_keep {w w1 : World} (hb : Below w.heap.size w w1) {a : Addr} {v : Value} (h : w.cell? a = some v) : w1.cell? a = some v := (hb.cell (cell_lt h)).trans h
theorem RdI.below {w w1 : World} {v : Value} {l : List Int} (h : RdI w v l) (hb : Below w.heap.size w w1) : RdI w1 v l := by
  obtain ⟨h0, A, c, hv, hc, hn, hr⟩ := h
  refine ⟨h0, A, c, hv, hc, hn, fun hl => ?_⟩
  obtain ⟨g, o, ha, hx⟩ := hr hl
  exact ⟨g, o, ha, fun i x hi => cell_keep hb (hx i x hi)⟩
theorem RdI.nil (w : World) : RdI w (.slice none 0 0) [] := ⟨by simp, none, 0, rfl, Nat.le_refl _, fun _ => rfl, fun h => absurd rfl h⟩
theorem RdI.form {w : World} {v : Value} {l : List Int} (h : RdI w v l) : ∃ A c, v = .slice A l.length c := by obtain ⟨_, A, c, hv, _⟩ := h; exact ⟨A, c, hv⟩
/-- the form of a slice that is not empty -/
theorem RdI.at {w : World} {v : Value} {l : List Int} (h : RdI w v l) {k : Nat} (hk : k < l.length) : ∃ g o c, v = .slice (some ⟨g, o, none⟩) l.length c ∧ ∀ i x, l[i]? = some x → w.cell? ⟨g, o + i, none⟩ = some (.int .i64 x) := by
  obtain ⟨_, A, c, hv, _, _, hr⟩ := h
  obtain ⟨g, o, rfl, hx⟩ := hr (by intro e; subst e; simp at hk)
  exact ⟨g, o, c, hv, hx⟩

theorem strCells_S (l : List UInt8) : Lib.strCells ⟨l.toArray⟩ = Lib.byteCells l := by simp [Lib.strCells, Lib.byteCells]

theorem grown_alloc {w0 w' : World} {o : Obj} {row : Option Nat} (hg : (w0.alloc o).grownBy w' row) : w0.grownBy w' row :=
  ⟨hg.os, hg.tape, hg.output, Nat.le_trans (by simp) hg.size, fun k hk hr => (hg.block k (by simp; omega) hr).trans (Below.heap_alloc w0 o k hk)⟩
theorem grown_below {w w' : World} {row : Option Nat} (hg : w.grownBy w' row) (h : ∀ k, row = some k → False) : Below w.heap.size w w' :=
  ⟨hg.os, hg.tape, hg.output, hg.size, fun k hk => hg.block k hk (fun e => h k e.symm)⟩
theorem add_plain (g o j : Nat) : (⟨g, o, none⟩ : Addr).add j = ⟨g, o + j, none⟩ := by unfold Addr.add; split <;> simp_all

theorem own_empty (w : World) (e size : Nat) : (w.alloc (.cells #[] e)).ownsRow w.heap.size e size (.slice (some ⟨w.heap.size, 0, none⟩) 0 0) 0 [] :=
  ⟨by simp, .inr ⟨w.heap.size, 0, #[], rfl, Nat.le_refl _, alloc_heap_new _ _, Nat.le_refl _, Nat.zero_le _, by simp, by simp⟩⟩
theorem own_nil (w : World) (base e size : Nat) : w.ownsRow base e size (.slice none 0 0) 0 [] := ⟨by simp, .inl ⟨rfl, rfl⟩⟩
def ints (l : List Int) : List Value := l.map fun x => .int .i64 x
theorem ints_one (l : List Int) : ∀ u ∈ ints l, u.oneCell' = true := by
  intro u hu
  simp only [ints, List.mem_map] at hu
  obtain ⟨x, _, rfl⟩ := hu
  rfl
theorem ints_get {l : List Int} {j : Nat} {u : Value} (h : (ints l)[j]? = some u) : ∃ x, l[j]? = some x ∧ u = .int .i64 x := by
  simp only [ints, List.getElem?_map, Option.map_eq_some_iff] at h
  obtain ⟨x, h1, h2⟩ := h
  exact ⟨x, h1, h2.symm⟩
/-- a row of the call's own, at its cells -/
theorem own_cells {w : World} {base e sz n : Nat} {v : Value} {xs : List Value} (h : w.ownsRow base e sz v n xs) (hn : 0 < n) : ∃ g c, v = .slice (some ⟨g, 0, none⟩) n c ∧ n ≤ c ∧ base ≤ g ∧ (∃ cur, w.heap[g]? = some (.cells cur e (0, 0))) ∧ ∀ j u, xs[j]? = some u → w.cell? ⟨g, j, none⟩ = some u := by
  rcases h.2 with ⟨rfl, h0⟩ | ⟨g, cap, cur, rfl, hb, hg, hnc, _, _, ht⟩
  · omega
  · refine ⟨g, cap, rfl, hnc, hb, ⟨cur, hg⟩, fun j u hj => ?_⟩
    rw [blk_cell hg]
    rw [← ht, List.getElem?_take] at hj
    split at hj
    · simpa using hj
    · cases hj
theorem own_slice {w : World} {base e sz n : Nat} {v : Value} {xs : List Value} (h : w.ownsRow base e sz v n xs) : ∃ A c, v = .slice A n c ∧ n ≤ c ∧ (A = none → c = 0) := by
  rcases h.2 with ⟨rfl, rfl⟩ | ⟨g, cap, cur, rfl, hb, hg, hnc, _, _, ht⟩
  · exact ⟨none, 0, rfl, Nat.le_refl _, fun _ => rfl⟩
  · exact ⟨_, cap, rfl, hnc, fun h => by cases h⟩
theorem own_typed {w : World} {base e sz n : Nat} {v : Value} {xs : List Value} (h : w.ownsRow base e sz v n xs) (k : Nat) (hk : v.ownBlock = some k) : ∃ C fz, w.heap[k]? = some (.cells C e fz) := by
  rcases h.2 with ⟨rfl, _⟩ | ⟨g, cap, cur, rfl, hb, hg, _⟩
  · simp [Value.ownBlock] at hk
  · simp [Value.ownBlock] at hk
    subst hk
    exact ⟨_, _, hg⟩
/-- where v leads, there is a row of elements of type t -/
def Typ (w : World) (v : Value) (t : Nat) : Prop := ∀ k, v.ownBlock = some k → ∃ C fz, w.heap[k]? = some (.cells C t fz)
theorem Typ.below {w w1 : World} {v : Value} {t : Nat} (h : Typ w v t) (hb : Below w.heap.size w w1) : Typ w1 v t := fun k hk => by
  obtain ⟨C, fz, hc⟩ := h k hk
  exact ⟨C, fz, (hb.block k (Array.getElem?_eq_some_iff.1 hc).1).trans hc⟩
theorem Typ.own {w : World} {base e sz n : Nat} {v : Value} {xs : List Value} (h : w.ownsRow base e sz v n xs) : Typ w v e := own_typed h
theorem Typ.nil (w : World) (t n c : Nat) : Typ w (.slice none n c) t := fun k hk => by simp [Value.ownBlock] at hk

theorem RdI.of_own {w : World} {base e : Nat} {v : Value} {n : Nat} {l : List Int} (h : w.ownsRow base e 1 v n (ints l)) (hl : l.length ≤ 4611686018427387904) : RdI w v l := by
  have hn : n = l.length := by have := h.1; simp [ints] at this; exact this.symm
  subst hn
  obtain ⟨A, c, rfl, hc, hA⟩ := own_slice h
  refine ⟨hl, A, c, rfl, hc, hA, fun hne => ?_⟩
  obtain ⟨g, c', he, _, _, _, hcl⟩ := own_cells h (List.length_pos_iff.2 hne)
  injection he with he1 _ _
  exact ⟨g, 0, he1, fun i x hi => by rw [Nat.zero_add]; exact hcl i _ (by simp [ints, hi])⟩
theorem RdI.src {w : World} {A : Option Addr} {c : Nat} {l : List Int} (h : RdI w (.slice A l.length c) l) : l.length ≠ 0 → ∃ g o', A = some ⟨g, o', none⟩ ∧ ∀ j u, (ints l)[j]? = some u → w.cell? ⟨g, o' + j, none⟩ = some u := by
  obtain ⟨_, A', c', hv, _, _, hr⟩ := h
  injection hv with h1 _ _
  subst h1
  intro hl
  obtain ⟨g, o, ha, hx⟩ := hr (by intro e; subst e; exact hl rfl)
  refine ⟨g, o, ha, fun j u hj => ?_⟩
  obtain ⟨x, h1, rfl⟩ := ints_get hj
  exact hx j x h1

section
variable {P : Program} (w : World)

/-- append(v, y...) where v is a row of the call's own and y a slice that is read (nil let in) -/
theorem append_read {ops : Array Oper} {rest : List Oper} {o : Oper} {a : Act} {Q : Exit → Act → World → Prop} (hgd : o.guard = none) (sl x : Operand) (t e : TypeId) (z : Value) (size bytes : Nat)
    (ho : o.op = .call { callee := .builtin .append, args := #[sl, x], argTypes := #[t, t] })
    (ht : P.underlying t = some (.slice e)) (hi : (P.info? e).map (fun i => (i.zero, i.size, i.bytes)) = some (some z, size, bytes)) (hzs : z.cells.size = size) (hsz : 0 < size)
    (base : Nat) (v : Value) (n : Nat) (xs : List Value) (hs : a.eval sl = v) (hown : w.ownsRow base e size v n xs)
    (A : Option Addr) (m c : Nat) (news : List Value) (hx : a.eval x = .slice A m c) (hc : A = none → c = 0) (hl : news.length = m * size)
    (hsrc : m ≠ 0 → ∃ g o', A = some ⟨g, o', none⟩ ∧ ∀ j u, news[j]? = some u → w.cell? ⟨g, o' + j, none⟩ = some u) (h1 : ∀ u ∈ news, u.oneCell' = true)
    (hb : (n + m) * bytes ≤ 140737488355328) (hb0 : 0 < bytes) (hbase : base ≤ w.heap.size)
    (h : ∀ v' w', w'.ownsRow base e size v' (n + m) (xs ++ news) → w.grownBy w' v.ownBlock → wpList P ops Q rest (a.put o.dst v') w') : wpList P ops Q (o :: rest) a w := by
  obtain ⟨i, hi0, hz0, hz1, hz2⟩ := info_parts hi
  have h63 : n + m ≤ maxLen := by
    have : n + m ≤ (n + m) * bytes := Nat.le_mul_of_pos_right _ hb0
    simp only [maxLen]; omega
  by_cases hm : m = 0
  · subst hm
    have hnews : news = [] := List.eq_nil_of_length_eq_zero (by simpa using hl)
    subst hnews
    cases A with
    | none =>
      have hc0 := hc rfl
      subst hc0
      refine wpList_append_own_none hgd sl x t ho base e i size ht hi0 v n xs hs hown hx ?_
      exact h v w (by simpa using hown) ⟨rfl, rfl, rfl, Nat.le_refl _, fun _ _ _ => rfl⟩
    | some ad =>
      exact wpList_append_own w hgd sl x t ho base e i z size bytes ht hi0 hz0 hz1 hz2 hzs hsz v n xs hs hown ad 0 c [] hx (by simp) (by simp) (by simp) h63 hb hbase fun v' w' h2 h3 _ => h v' w' h2 h3
  · obtain ⟨g, o', rfl, hcl⟩ := hsrc hm
    exact wpList_append_own w hgd sl x t ho base e i z size bytes ht hi0 hz0 hz1 hz2 hzs hsz v n xs hs hown ⟨g, o', none⟩ m c news hx hl (fun j u hj => by rw [add_plain]; exact hcl j u hj) h1 h63 hb hbase fun v' w' h2 h3 _ => h v' w' h2 h3

/-- append(v, y) where v is a row of the call's own: y lies in a new block -/
theorem append_box {w0 : World} {ops : Array Oper} {rest : List Oper} {o : Oper} {a : Act} {Q : Exit → Act → World → Prop} (hgd : o.guard = none) (sl x : Operand) (t e : TypeId) (z : Value) (size bytes : Nat)
    (ho : o.op = .call { callee := .builtin .append, args := #[sl, x], argTypes := #[t, t] })
    (ht : P.underlying t = some (.slice e)) (hi : (P.info? e).map (fun i => (i.zero, i.size, i.bytes)) = some (some z, size, bytes)) (hzs : z.cells.size = size) (hsz : 0 < size)
    (base : Nat) (v : Value) (n : Nat) (xs : List Value) (hs : a.eval sl = v) (hown : w0.ownsRow base e size v n xs)
    (c tb : Nat) (news : List Value) (hx : a.eval x = .slice (some ⟨w0.heap.size, 0, none⟩) 1 c) (hl : news.length = size) (h1 : ∀ u ∈ news, u.oneCell' = true)
    (hb : (n + 1) * bytes ≤ 140737488355328) (hb0 : 0 < bytes) (hbase : base ≤ w0.heap.size)
    (h : ∀ v' w', w'.ownsRow base e size v' (n + 1) (xs ++ news) → w0.grownBy w' v.ownBlock → wpList P ops Q rest (a.put o.dst v') w') : wpList P ops Q (o :: rest) a (w0.alloc (.cells news.toArray tb)) := by
  obtain ⟨i, hi0, hz0, hz1, hz2⟩ := info_parts hi
  have h63 : n + 1 ≤ maxLen := by
    have : n + 1 ≤ (n + 1) * bytes := Nat.le_mul_of_pos_right _ hb0
    simp only [maxLen]; omega
  refine wpList_append_own _ hgd sl x t ho base e i z size bytes ht hi0 hz0 hz1 hz2 hzs hsz v n xs hs (hown.alloc _) ⟨w0.heap.size, 0, none⟩ 1 c news hx (by rw [hl, Nat.one_mul]) (fun j u hj => ?_) h1 h63 hb (by simp; omega) fun v' w' h2 h3 _ => h v' w' h2 (grown_alloc h3)
  rw [add_plain, Nat.zero_add, blk_cell (alloc_heap_new w0 (.cells news.toArray tb)) j]
  simpa using hj

/-- append(v, s...) for a row of bytes of the call's own and a text -/
theorem append_S {ops : Array Oper} {rest : List Oper} {o : Oper} {a : Act} {Q : Exit → Act → World → Prop} (hgd : o.guard = none) (sl x : Operand) (t u e : TypeId)
    (ho : o.op = .call { callee := .builtin .append, args := #[sl, x], argTypes := #[t, u] })
    (ht : P.underlying t = some (.slice e)) (hu : P.underlying u = some .string) (hi : (P.info? e).map (fun i => (i.zero, i.size, i.bytes)) = some (some (.int .u8 0), 1, 1))
    (base : Nat) (v : Value) (l y : List UInt8) (hs : a.eval sl = v) (hown : OwnB w e base v l) (hx : a.eval x = .string ⟨y.toArray⟩)
    (hb : l.length + y.length ≤ 140737488355328) (hbase : base ≤ w.heap.size)
    (h : ∀ v' w', OwnB w' e base v' (l ++ y) → w.grownBy w' v.ownBlock → wpList P ops Q rest (a.put o.dst v') w') : wpList P ops Q (o :: rest) a w := by
  obtain ⟨i, hi0, hz0, hz1, hz2⟩ := info_parts hi
  refine Lib.wpList_append_own_string w hgd sl x t u ho base e i ht hu hi0 hz0 hz1 hz2 v l.length (Lib.byteCells l) hs hown ⟨y.toArray⟩ hx ?_ ?_ hbase ?_
  · simp only [maxLen, S_size]; omega
  · simp only [S_size]; omega
  · intro v' w' h1 h2 _
    refine h v' w' ?_ h2
    unfold OwnB
    rw [S_size, strCells_S, ← Lib.byteCells_append, ← List.length_append] at h1
    exact h1

/-- string of the bytes that lie somewhere -/
theorem convert_at {src dst e : Nat} {l : List UInt8} {b off cap : Nat} (hs : P.underlying src = some (.slice e)) (he : P.underlying e = some (.int .u8)) (hd : P.underlying dst = some .string)
    (hc : ∀ k c, l[k]? = some c → w.cell? ⟨b, off + k, none⟩ = some (.int .u8 (UInt8.toNat c))) : (convert src dst (.slice (some ⟨b, off, none⟩) l.length cap)).run P w = .ok (.string ⟨l.toArray⟩) w := by
  have h1 := run_convert_bytes_arg (P := P) w src e hs he b off l.length cap (l.map fun b => (b.toNat : Int)) (by simp) (fun i hi => by
    rw [hc i l[i] (by simp [hi])]; simp [hi]) dst hd
  rw [h1]
  simp [strOfNums]
  conv => rhs; rw [← List.map_id l]
  apply List.map_congr_left
  intro b _
  simp

/-- string(v) of a row of bytes of the call's own -/
theorem convert_S {src dst e e' base : Nat} {v : Value} {l : List UInt8} (hs : P.underlying src = some (.slice e)) (he : P.underlying e = some (.int .u8)) (hd : P.underlying dst = some .string)
    (h : OwnB w e' base v l) : (convert src dst v).run P w = .ok (.string ⟨l.toArray⟩) w := by
  rcases h.2 with ⟨rfl, h0⟩ | ⟨g, cap, cur, rfl, _⟩
  · obtain rfl : l = [] := List.eq_nil_of_length_eq_zero h0
    exact run_convert_bytes_nil w src e hs he 0 0 dst hd
  · have hc : ∀ i, i < l.length → w.cell? ⟨g, 0 + i, none⟩ = some (.int .u8 ((l.map fun b => (b.toNat : Int)).getD i 0)) := by
      intro i hi
      have hc := World.ownsRow.cells (g := g) h rfl i (.int .u8 (l.map fun b => (b.toNat : Int))[i]!) (by simp [Lib.byteCells, hi])
      have ha : (⟨g, 0, none⟩ : Addr).add i = ⟨g, 0 + i, none⟩ := by unfold Addr.add; split <;> simp_all
      rw [ha] at hc
      rw [hc]
      simp [hi]
    have h1 := run_convert_bytes_arg (P := P) w src e hs he g 0 l.length cap (l.map fun b => (b.toNat : Int)) (by simp) (fun i hi => hc i hi) dst hd
    rw [h1]
    simp [strOfNums]
    conv => rhs; rw [← List.map_id l]
    apply List.map_congr_left
    intro b _
    simp
end
end Go.Proofs.YthjpchabeemfmaaGreatDoor

namespace Go.Proofs.YthjpchabeemfmaaGreatDoor
open Go.RowKit
set_option linter.unusedVariables false
set_option linter.unusedSimpArgs false
set_option maxHeartbeats 4000000
set_option maxRecDepth 100000
attribute [local go_sem] S_extract S_append run_cut_S run_head_S run_tail_S Nat.add_sub_cancel_left

theorem infoByte : (Tryz.prog.info? 5).map (fun i => (i.zero, i.size, i.bytes)) = some (some (.int .u8 0), 1, 1) := by kernel_rfl

def repAllF (old new : List UInt8) : Nat → List UInt8 → List UInt8
  | 0, s => s
  | f + 1, s => match zIdx old s with
    | none => s
    | some i => s.take i ++ (new ++ repAllF old new f (s.drop (i + old.length)))
def repAll (old new s : List UInt8) : List UInt8 := repAllF old new (s.length + 1) s

theorem zIdx_bound {old : List UInt8} : ∀ {s : List UInt8} {i : Nat}, zIdx old s = some i → i + old.length ≤ s.length
  | [], i, h => by
    unfold zIdx at h
    split at h
    · rename_i hp
      have := (List.isPrefixOf_iff_prefix.1 hp).length_le
      simp at h; subst h; simpa using this
    · cases h
  | c :: t, i, h => by
    unfold zIdx at h
    split at h
    · rename_i hp
      have := (List.isPrefixOf_iff_prefix.1 hp).length_le
      simp at h; subst h; simpa using this
    · simp at h
      obtain ⟨j, hj, rfl⟩ := h
      have := zIdx_bound hj
      simp; omega

theorem repAllF_none {old new s : List UInt8} (f : Nat) (h : zIdx old s = none) : repAllF old new (f + 1) s = s := by simp [repAllF, h]
theorem repAllF_some {old new s : List UInt8} (f : Nat) {i : Nat} (h : zIdx old s = some i) : repAllF old new (f + 1) s = s.take i ++ (new ++ repAllF old new f (s.drop (i + old.length))) := by simp [repAllF, h]



theorem zzReplaceAll_calls (s old new : List UInt8) (w : World) (ho : old ≠ []) (hs : s.length ≤ 140737488355328) (hold : old.length ≤ 140737488355328) (hlen : (repAll old new s).length ≤ 140737488355328) :
    Calls Tryz.prog 84 #[.string ⟨s.toArray⟩, .string ⟨old.toArray⟩, .string ⟨new.toArray⟩] w fun e w' => e = .returned (.string ⟨(repAll old new s).toArray⟩) ∧ Below w.heap.size w w' := by
  have hop : 0 < old.length := List.length_pos_iff.2 ho
  have hol : ((old.length : Int) == 0) = false := by rw [beq_eq_false_iff_ne]; omega
  go_enter Tryz.func84, Tryz.ntmps84
  go_wp2
  go_loopw [0, 7] (fun vs v wr => ∃ (rest acc : List UInt8) (f : Nat), vs = .string ⟨rest.toArray⟩ ∧ OwnB wr 5 w.heap.size v acc ∧ Below w.heap.size w wr ∧ acc ++ repAllF old new f rest = repAll old new s ∧ rest.length < f ∧ rest.length ≤ s.length) (fun vs _ _ => strLen vs)
  case atStart => exact ⟨s, [], s.length + 1, rfl, OwnB.nil _ _ _, Below.refl _ w, rfl, by omega, Nat.le_refl _⟩
  case round =>
    obtain ⟨rest, acc, f, rfl, hown, hbw, hacc, hf, hrl⟩ := hrel
    obtain ⟨f, rfl⟩ : ∃ g, f = g + 1 := ⟨f - 1, by omega⟩
    have hbs := hbw.size
    have htot : (acc ++ repAllF old new (f + 1) rest).length ≤ 140737488355328 := by rw [hacc]; exact hlen
    have HA := hid hacc
    have HT := hid htot
    clear hacc htot
    cases hz : zIdx old rest with
    | none =>
      have hi : idxAt old 0 rest = -1 := by simp [idxAt, hz]
      have HR := hid (repAllF_none (new := new) f hz)
      have hb1 : acc.length + rest.length ≤ 140737488355328 := by have := HT.out; rw [HR.out] at this; simpa using this
      clear hz
      go_wp2_with (first
        | (go_at_call 100; refine (zzIndex_calls rest old _ (by omega) (by omega)).mono ?_; rintro e w' ⟨rfl, rfl⟩; rw [hi])
        | (at_builtin; refine append_S _ rfl _ _ _ _ 5 rfl Tryz.underlying61 Tryz.underlying9 infoByte w.heap.size _ acc rest rfl hown rfl hb1 hbs ?_; intro v1 w1 hown1 hg1; have hcv := convert_S w1 Tryz.underlying61 Tryz.underlying5 Tryz.underlying9 hown1))
      go_ret
      exact ⟨ret_str (by rw [← HA.out, HR.out]), hown.below_grown hbw hbs (Nat.le_refl _) hg1⟩
    | some i =>
      have hi : idxAt old 0 rest = (i : Int) := by simp [idxAt, hz]
      have hib := zIdx_bound hz
      have HR := hid (repAllF_some (new := new) f hz)
      have hb1 : acc.length + (rest.take i).length ≤ 140737488355328 := by have := HT.out; rw [HR.out] at this; simp at this ⊢; omega
      have hb2 : (acc ++ rest.take i).length + new.length ≤ 140737488355328 := by have := HT.out; rw [HR.out] at this; simp at this ⊢; omega
      have hi1 : (i : Int) ≤ (rest.length : Int) := by omega
      have hi2 : (i : Int) + (old.length : Int) ≤ (rest.length : Int) := by omega
      clear hz
      go_wp2_with (first
        | (go_at_call 100; refine (zzIndex_calls rest old _ (by omega) (by omega)).mono ?_; rintro e w' ⟨rfl, rfl⟩; rw [hi])
        | (at_builtin; refine append_S _ rfl _ _ _ _ 5 rfl Tryz.underlying61 Tryz.underlying9 infoByte w.heap.size _ acc (rest.take i) rfl hown rfl hb1 hbs ?_; intro v1 w1 hown1 hg1; have hbs1 := Nat.le_trans hbs hg1.size)
        | (at_builtin; refine append_S _ rfl _ _ _ _ 5 rfl Tryz.underlying61 Tryz.underlying9 infoByte w.heap.size _ (acc ++ rest.take i) new rfl hown1 rfl hb2 hbs1 ?_; intro v2 w2 hown2 hg2))
      go_roundw
      case rel =>
        refine ⟨rest.drop (i + old.length), acc ++ rest.take i ++ new, f, by rw [List.take_of_length_le (by simp)], hown2, ?_, ?_, by simp; omega, by simp; omega⟩
        · exact hown1.below_grown (hown.below_grown hbw hbs (Nat.le_refl _) hg1) hbs1 (Nat.le_refl _) hg2
        · rw [← HA.out, HR.out]; simp
      case measure => simp [strLen, ByteArray.size]; omega
end Go.Proofs.YthjpchabeemfmaaGreatDoor

namespace Go.Proofs.YthjpchabeemfmaaGreatDoor
open Go.RowKit
set_option linter.unusedVariables false
set_option linter.unusedSimpArgs false
set_option maxHeartbeats 4000000
set_option maxRecDepth 100000
attribute [local go_sem] S_extract S_append run_cut_S run_head_S run_tail_S Nat.add_sub_cancel_left

theorem lzzIndex_calls (s sub : List UInt8) (w : World) (hs : s.length ≤ 4611686018427387903) (hsub : sub.length ≤ 4611686018427387903) :
    Calls Tryz.prog 81 #[.string ⟨s.toArray⟩, .string ⟨sub.toArray⟩] w fun e w' => e = .returned (.int .i64 (idxAt sub 0 s)) ∧ w = w' := by
  go_enter Tryz.func81, Tryz.ntmps81
  go_wp2

  go_loop [5] (fun i => ∃ k : Nat, k ≤ s.length ∧ i = .int .i64 k ∧ idxAt sub 0 s = idxAt sub k (s.drop k)) (fun i => s.length + 1 - (intOf i).toNat)
  case atStart => exact ⟨0, Nat.zero_le _, rfl, rfl⟩
  case round =>
    obtain ⟨k, hk, rfl, hacc⟩ := hrel
    have HA := hid hacc
    clear hacc
    by_cases hlt : k + sub.length ≤ s.length
    · have h1 : (k : Int) ≤ (k : Int) + (sub.length : Int) := by omega
      go_wp2
      all_goals first
        | (go_ret
           have hh : (List.take sub.length (List.drop k s) == sub) = true := by assumption
           exact ⟨ret_int (by rw [HA.out, idxAt_hit _ _ _ (by rw [pre_take _ _ (by simp; omega)]; exact hh)]), rfl⟩)
        | (go_round
           case rel =>
             have hh : (List.take sub.length (List.drop k s) == sub) = false := by assumption
             have hk2 : k < s.length := by
               rcases Nat.lt_or_ge k s.length with h | h
               · exact h
               · have h0 : sub = [] := List.eq_nil_of_length_eq_zero (by omega)
                 subst h0; simp at hh
             exact ⟨k + 1, by omega, by go_num, by rw [HA.out, idxAt_miss _ _ _ (by rw [pre_take _ _ (by simp; omega)]; exact hh)]; simp⟩
           case measure => simp [intOf]; omega)
    · go_wp2
      go_ret
      exact ⟨ret_int (by rw [HA.out]; exact (idxAt_end _ _ _ (by simp; omega)).symm), rfl⟩


theorem lzzReplaceAll_calls (s old new : List UInt8) (w : World) (ho : old ≠ []) (hs : s.length ≤ 140737488355328) (hold : old.length ≤ 140737488355328) (hlen : (repAll old new s).length ≤ 140737488355328) :
    Calls Tryz.prog 61 #[.string ⟨s.toArray⟩, .string ⟨old.toArray⟩, .string ⟨new.toArray⟩] w fun e w' => e = .returned (.string ⟨(repAll old new s).toArray⟩) ∧ Below w.heap.size w w' := by
  have hop : 0 < old.length := List.length_pos_iff.2 ho
  have hol : ((old.length : Int) == 0) = false := by rw [beq_eq_false_iff_ne]; omega
  go_enter Tryz.func61, Tryz.ntmps61
  go_wp2
  go_loopw [0, 7] (fun vs v wr => ∃ (rest acc : List UInt8) (f : Nat), vs = .string ⟨rest.toArray⟩ ∧ OwnB wr 5 w.heap.size v acc ∧ Below w.heap.size w wr ∧ acc ++ repAllF old new f rest = repAll old new s ∧ rest.length < f ∧ rest.length ≤ s.length) (fun vs _ _ => strLen vs)
  case atStart => exact ⟨s, [], s.length + 1, rfl, OwnB.nil _ _ _, Below.refl _ w, rfl, by omega, Nat.le_refl _⟩
  case round =>
    obtain ⟨rest, acc, f, rfl, hown, hbw, hacc, hf, hrl⟩ := hrel
    obtain ⟨f, rfl⟩ : ∃ g, f = g + 1 := ⟨f - 1, by omega⟩
    have hbs := hbw.size
    have htot : (acc ++ repAllF old new (f + 1) rest).length ≤ 140737488355328 := by rw [hacc]; exact hlen
    have HA := hid hacc
    have HT := hid htot
    clear hacc htot
    cases hz : zIdx old rest with
    | none =>
      have hi : idxAt old 0 rest = -1 := by simp [idxAt, hz]
      have HR := hid (repAllF_none (new := new) f hz)
      have hb1 : acc.length + rest.length ≤ 140737488355328 := by have := HT.out; rw [HR.out] at this; simpa using this
      clear hz
      go_wp2_with (first
        | (go_at_call 81; refine (lzzIndex_calls rest old _ (by omega) (by omega)).mono ?_; rintro e w' ⟨rfl, rfl⟩; rw [hi])
        | (at_builtin; refine append_S _ rfl _ _ _ _ 5 rfl Tryz.underlying61 Tryz.underlying9 infoByte w.heap.size _ acc rest rfl hown rfl hb1 hbs ?_; intro v1 w1 hown1 hg1; have hcv := convert_S w1 Tryz.underlying61 Tryz.underlying5 Tryz.underlying9 hown1))
      go_ret
      exact ⟨ret_str (by rw [← HA.out, HR.out]), hown.below_grown hbw hbs (Nat.le_refl _) hg1⟩
    | some i =>
      have hi : idxAt old 0 rest = (i : Int) := by simp [idxAt, hz]
      have hib := zIdx_bound hz
      have HR := hid (repAllF_some (new := new) f hz)
      have hb1 : acc.length + (rest.take i).length ≤ 140737488355328 := by have := HT.out; rw [HR.out] at this; simp at this ⊢; omega
      have hb2 : (acc ++ rest.take i).length + new.length ≤ 140737488355328 := by have := HT.out; rw [HR.out] at this; simp at this ⊢; omega
      have hi1 : (i : Int) ≤ (rest.length : Int) := by omega
      have hi2 : (i : Int) + (old.length : Int) ≤ (rest.length : Int) := by omega
      clear hz
      go_wp2_with (first
        | (go_at_call 81; refine (lzzIndex_calls rest old _ (by omega) (by omega)).mono ?_; rintro e w' ⟨rfl, rfl⟩; rw [hi])
        | (at_builtin; refine append_S _ rfl _ _ _ _ 5 rfl Tryz.underlying61 Tryz.underlying9 infoByte w.heap.size _ acc (rest.take i) rfl hown rfl hb1 hbs ?_; intro v1 w1 hown1 hg1; have hbs1 := Nat.le_trans hbs hg1.size)
        | (at_builtin; refine append_S _ rfl _ _ _ _ 5 rfl Tryz.underlying61 Tryz.underlying9 infoByte w.heap.size _ (acc ++ rest.take i) new rfl hown1 rfl hb2 hbs1 ?_; intro v2 w2 hown2 hg2))
      go_roundw
      case rel =>
        refine ⟨rest.drop (i + old.length), acc ++ rest.take i ++ new, f, by rw [List.take_of_length_le (by simp)], hown2, ?_, ?_, by simp; omega, by simp; omega⟩
        · exact hown1.below_grown (hown.below_grown hbw hbs (Nat.le_refl _) hg1) hbs1 (Nat.le_refl _) hg2
        · rw [← HA.out, HR.out]; simp
      case measure => simp [strLen, ByteArray.size]; omega

end Go.Proofs.YthjpchabeemfmaaGreatDoor

namespace Go.Proofs.YthjpchabeemfmaaGreatDoor
open Go.RowKit
set_option linter.unusedVariables false
set_option linter.unusedSimpArgs false
set_option maxHeartbeats 4000000
set_option maxRecDepth 100000
attribute [local go_sem] S_extract S_append run_cut_S run_head_S run_tail_S Nat.add_sub_cancel_left

def hasSub (s sub : List UInt8) : Bool := (zIdx sub s).isSome
theorem hasSub_idx (s sub : List UInt8) : decide (0 ≤ idxAt sub 0 s) = hasSub s sub := by
  unfold idxAt hasSub
  cases zIdx sub s <;> simp


theorem zzContains_calls (s sub : List UInt8) (w : World) (hs : s.length ≤ 4611686018427387903) (hsub : sub.length ≤ 4611686018427387903) :
    Calls Tryz.prog 85 #[.string ⟨s.toArray⟩, .string ⟨sub.toArray⟩] w fun e w' => e = .returned (.bool (hasSub s sub)) ∧ w = w' := by
  have HH := hid (hasSub_idx s sub)
  go_enter Tryz.func85, Tryz.ntmps85
  go_wp2_with (go_at_call 100; refine (zzIndex_calls s sub _ hs hsub).mono ?_; rintro e w' ⟨rfl, rfl⟩)
  go_ret
  exact ⟨ret_bool HH.out, rfl⟩

end Go.Proofs.YthjpchabeemfmaaGreatDoor

namespace Go.Proofs.YthjpchabeemfmaaGreatDoor
open Go.RowKit
set_option linter.unusedVariables false
set_option linter.unusedSimpArgs false
set_option maxHeartbeats 4000000
set_option maxRecDepth 100000

/-! the search, a letter at a time -/
theorem hasSub_cons (c : UInt8) (t p : List UInt8) : hasSub (c :: t) p = (p.isPrefixOf (c :: t) || hasSub t p) := by
  unfold hasSub
  rw [zIdx]
  cases h : p.isPrefixOf (c :: t) <;> simp
theorem hasSub_nil (x : UInt8) (p : List UInt8) : hasSub [] (x :: p) = false := by simp [hasSub, zIdx]
theorem hasSub_skip {a : List UInt8} {x : UInt8} (p l : List UInt8) (h : ∀ b ∈ a, b ≠ x) : hasSub (a ++ l) (x :: p) = hasSub l (x :: p) := by
  induction a with
  | nil => rfl
  | cons c t ih =>
    have hc : c ≠ x := h c (by simp)
    rw [List.cons_append, hasSub_cons, ih (fun b hb => h b (by simp [hb]))]
    have : (x :: p).isPrefixOf (c :: (t ++ l)) = false := by
      simp only [List.isPrefixOf, Bool.and_eq_false_iff]
      left; simpa using fun e => hc e.symm
    rw [this, Bool.false_or]

theorem repAllF_fuel {old new : List UInt8} (ho : old ≠ []) : ∀ (f g : Nat) (s : List UInt8), s.length < f → f ≤ g → repAllF old new g s = repAllF old new f s
  | 0, g, s, h, _ => by omega
  | f + 1, 0, s, h, hg => by omega
  | f + 1, g + 1, s, h, hg => by
    unfold repAllF
    cases hz : zIdx old s with
    | none => rfl
    | some i =>
      have hb := zIdx_bound hz
      have := List.length_pos_iff.2 ho
      simp only []
      rw [repAllF_fuel ho f g _ (by simp; omega) (by omega)]
theorem repAll_nil {x : UInt8} {p new : List UInt8} : repAll (x :: p) new [] = [] := by simp [repAll, repAllF, zIdx]
theorem repAll_cons {old new t : List UInt8} {c : UInt8} (ho : old ≠ []) (h : old.isPrefixOf (c :: t) = false) : repAll old new (c :: t) = c :: repAll old new t := by
  have ho1 := List.length_pos_iff.2 ho
  unfold repAll
  rw [List.length_cons, repAllF, zIdx, if_neg (by simp [h])]
  cases hz : zIdx old t with
  | none => simp [repAllF, hz]
  | some i =>
    have hb := zIdx_bound hz
    simp only [Option.map_some]
    rw [repAllF_some t.length hz]
    rw [show i + 1 + old.length = (i + old.length) + 1 by omega, List.take_succ_cons, List.drop_succ_cons]
    rw [repAllF_fuel ho (t.length) (t.length + 1) (t.drop (i + old.length)) (by simp; omega) (by omega)]
    rfl
theorem repAll_hit {old new t : List UInt8} (ho : old ≠ []) : repAll old new (old ++ t) = new ++ repAll old new t := by
  have ho1 := List.length_pos_iff.2 ho
  have hz : zIdx old (old ++ t) = some 0 := by
    cases hs : old ++ t with
    | nil => simp at hs; exact absurd hs.1 ho
    | cons c r =>
      have hp : old.isPrefixOf (c :: r) = true := by rw [← hs]; exact List.isPrefixOf_iff_prefix.2 (List.prefix_append _ _)
      rw [zIdx, if_pos hp]
  unfold repAll
  rw [repAllF, hz]
  simp only [List.take_zero, List.nil_append, Nat.zero_add, List.drop_left]
  rw [repAllF_fuel ho (t.length + 1) _ t (by omega) (by simp; omega)]
theorem repAll_skip {a : List UInt8} {x : UInt8} (p new l : List UInt8) (h : ∀ b ∈ a, b ≠ x) : repAll (x :: p) new (a ++ l) = a ++ repAll (x :: p) new l := by
  induction a with
  | nil => rfl
  | cons c t ih =>
    have hc : c ≠ x := h c (by simp)
    have hp : (x :: p).isPrefixOf (c :: (t ++ l)) = false := by
      simp only [List.isPrefixOf, Bool.and_eq_false_iff]
      left; simpa using fun e => hc e.symm
    rw [List.cons_append, repAll_cons (by simp) hp, ih (fun b hb => h b (by simp [hb]))]
    rfl

/-! where escapes stand -/
end Go.Proofs.YthjpchabeemfmaaGreatDoor

namespace Go.Proofs.YthjpchabeemfmaaGreatDoor
open Go.RowKit
set_option linter.unusedVariables false
set_option linter.unusedSimpArgs false
set_option maxHeartbeats 4000000
set_option maxRecDepth 100000

/-- v is a slice of n elements of sz cells each that reads as the cells xs -/
def RdF (w : World) (v : Value) (sz n : Nat) (xs : List Value) : Prop :=
  n ≤ 9223372036854775807 ∧ xs.length = n * sz ∧ ∃ A c, v = .slice A n c ∧ n ≤ c ∧ True ∧ (n ≠ 0 → ∃ g o, A = some ⟨g, o, none⟩ ∧ ∀ (j : Nat) u, xs[j]? = some u → w.cell? ⟨g, o + j, none⟩ = some u)
theorem RdF.below {w w1 : World} {v : Value} {sz n : Nat} {xs : List Value} (h : RdF w v sz n xs) (hb : Below w.heap.size w w1) : RdF w1 v sz n xs := by
  obtain ⟨h0, h1, A, c, hv, hc, hn, hr⟩ := h
  refine ⟨h0, h1, A, c, hv, hc, hn, fun hl => ?_⟩
  obtain ⟨g, o, ha, hx⟩ := hr hl
  exact ⟨g, o, ha, fun i x hi => cell_keep hb (hx i x hi)⟩
theorem RdF.form {w : World} {v : Value} {sz n : Nat} {xs : List Value} (h : RdF w v sz n xs) : ∃ A c, v = .slice A n c ∧ n ≤ c ∧ True := by
  obtain ⟨_, _, A, c, hv, h1, h2, _⟩ := h
  exact ⟨A, c, hv, h1, h2⟩
theorem RdF.at {w : World} {A : Option Addr} {c sz n : Nat} {xs : List Value} (h : RdF w (.slice A n c) sz n xs) (hn : n ≠ 0) : ∃ g o, A = some ⟨g, o, none⟩ ∧ ∀ (j : Nat) u, xs[j]? = some u → w.cell? ⟨g, o + j, none⟩ = some u := by
  obtain ⟨_, _, A', c', hv, _, _, hr⟩ := h
  injection hv with h1 _ _
  subst h1
  exact hr hn
theorem RdF.of_own {w : World} {base e sz n : Nat} {v : Value} {xs : List Value} (h : w.ownsRow base e sz v n xs) (hn : n ≤ 4611686018427387904) : RdF w v sz n xs := by
  obtain ⟨A, c, rfl, h1, h2⟩ := own_slice h
  refine ⟨by omega, h.1, A, c, rfl, h1, trivial, fun h0 => ?_⟩
  obtain ⟨g, c', hv, _, _, _, hc⟩ := own_cells h (by omega)
  injection hv with h3 _ _
  exact ⟨g, 0, h3, fun j u hj => by rw [Nat.zero_add]; exact hc j u hj⟩
def strs (l : List (List UInt8)) : List Value := l.map fun s => .string ⟨s.toArray⟩
/-- v reads as the texts l -/
def RdS (w : World) (v : Value) (l : List (List UInt8)) : Prop := RdF w v 1 l.length (strs l)
theorem RdS.below {w w1 : World} {v : Value} {l : List (List UInt8)} (h : RdS w v l) (hb : Below w.heap.size w w1) : RdS w1 v l := RdF.below h hb

/-- a step of a list, with the value of its slice of texts -/
structure Stp where
  kind : Int
  text : List UInt8
  texts : List (List UInt8)
  val : Value
def stpCells (l : List Stp) : List Value := l.flatMap fun p => [.int .i64 p.kind, .string ⟨p.text.toArray⟩, p.val]
def RdSt (w : World) (v : Value) (l : List Stp) : Prop := RdF w v 3 l.length (stpCells l) ∧ ∀ p ∈ l, RdS w p.val p.texts
theorem RdSt.below {w w1 : World} {v : Value} {l : List Stp} (h : RdSt w v l) (hb : Below w.heap.size w w1) : RdSt w1 v l := ⟨h.1.below hb, fun p hp => (h.2 p hp).below hb⟩
theorem stp_get : ∀ {l : List Stp} {i : Nat} {p : Stp}, l[i]? = some p → (stpCells l)[i * 3]? = some (.int .i64 p.kind) ∧ (stpCells l)[i * 3 + 1]? = some (.string ⟨p.text.toArray⟩) ∧ (stpCells l)[i * 3 + 2]? = some p.val
  | [], i, q, h => by simp at h
  | p :: t, 0, q, h => by simp at h; subst h; simp [stpCells]
  | p :: t, i + 1, q, h => by
    have := stp_get (l := t) (i := i) (p := q) (by simpa using h)
    rw [show (i + 1) * 3 = i * 3 + 1 + 1 + 1 by omega]
    simpa [stpCells] using this
end Go.Proofs.YthjpchabeemfmaaGreatDoor

namespace Go.Proofs.YthjpchabeemfmaaGreatDoor
open Go.RowKit
set_option linter.unusedVariables false
set_option linter.unusedSimpArgs false
set_option maxHeartbeats 4000000
set_option maxRecDepth 100000
attribute [local go_sem] S_extract S_append run_cut_S run_head_S run_tail_S Nat.add_sub_cancel_left

def dig36 : ByteArray := ⟨#[48, 49, 50, 51, 52, 53, 54, 55, 56, 57, 97, 98, 99, 100, 101, 102, 103, 104, 105, 106, 107, 108, 109, 110, 111, 112, 113, 114, 115, 116, 117, 118, 119, 120, 121, 122]⟩
theorem dig36_fin : ∀ i : Fin 10, dig36.data[i.val]! = UInt8.ofNat (48 + i.val) := by decide +kernel

theorem dig_at (m : Nat) (h) : dig36[m % 10]'h = UInt8.ofNat (48 + m % 10) := by
  have := dig36_fin ⟨m % 10, by omega⟩
  rw [← this]
  exact (getElem!_pos dig36.data (m % 10) h).symm

theorem fmt_drop {C : Array Value} {j : Nat} {ds : List UInt8} (hC : C.size = 64) (hj : j < 64) (h : C.toList.drop (j + 1) = Lib.byteCells ds) (c : UInt8) (v : Value) (hv : v = .int .u8 c.toNat) :
    (C.setIfInBounds j v).toList.drop j = Lib.byteCells (c :: ds) := by
  have hl : j < C.toList.length := by simpa using (by omega : j < C.size)
  rw [Array.toList_setIfInBounds, List.drop_eq_getElem_cons (by simpa using hl)]
  rw [List.getElem_set_self, List.drop_set, if_pos (by omega), h, hv]
  rfl

theorem fmt_q {m n j : Nat} {ds : List UInt8} (h : (j + 1 = 64 ∧ m = n ∧ ds = []) ∨ (j + 1 < 64 ∧ 0 < m ∧ Lib.decDigits m ++ ds = Lib.decDigits n)) (c : UInt8) (hc : c = UInt8.ofNat (48 + m % 10)) :
    if m / 10 = 0 then c :: ds = Lib.decDigits n else Lib.decDigits (m / 10) ++ (c :: ds) = Lib.decDigits n := by
  have e : Lib.decDigits m ++ ds = Lib.decDigits n := by
    rcases h with ⟨_, rfl, rfl⟩ | ⟨_, _, h⟩
    · simp
    · exact h
  rw [← e]
  by_cases hm : m < 10
  · have h0 : m / 10 = 0 := by omega
    rw [if_pos h0, Lib.decDigits_one hm, hc, show m % 10 = m by omega]; rfl
  · rw [if_neg (by omega)]
    conv => rhs; rw [Lib.decDigits, dif_neg hm]
    rw [hc]; simp



theorem FormatUint_calls (n : Nat) (w : World) (hn : n < 18446744073709551616) :
    Calls Tryz.prog 99 #[.int .u64 n, .int .i64 10] w fun e w' => e = .returned (.string ⟨(Lib.decDigits n).toArray⟩) ∧ Below w.heap.size w w' := by
  have hnb : n < 10 ^ 20 := by omega
  have HN := hid hnb
  clear hnb
  go_enter Tryz.func99, Tryz.ntmps99
  go_wp2
  go_loopw [0, 6] (fun vn vi wr => ∃ (m i : Nat) (C : Array Value) (ds : List UInt8), vn = .int .u64 m ∧ vi = .int .i64 i ∧ wr.heap[w.heap.size]? = some (.cells C 126 (0, 0)) ∧ C.size = 64 ∧ i ≤ 64 ∧ m < 18446744073709551616 ∧ Hid (m < 10 ^ (i - 44)) ∧ 44 ≤ i ∧ Hid (C.toList.drop i = Lib.byteCells ds) ∧ Below w.heap.size w wr ∧ Hid ((i = 64 ∧ m = n ∧ ds = []) ∨ (i < 64 ∧ (if m = 0 then ds = Lib.decDigits n else Lib.decDigits m ++ ds = Lib.decDigits n)))) (fun _ vi _ => (intOf vi).toNat)
  case atStart =>
    refine ⟨n, 64, _, [], rfl, rfl, alloc_heap_new _ _, rfl, Nat.le_refl _, hn, hid HN.out, by omega, hid (by simp [Lib.byteCells]), (Below.refl _ w).alloc (Nat.le_refl _) _, hid (.inl ⟨rfl, rfl, rfl⟩)⟩
  case round =>
    obtain ⟨m, i, C, ds, rfl, rfl, hC, hCs, hi, hm64, hm, hi44, hds, hbw, hq⟩ := hrel
    have hbs := hbw.size
    have hcl : ∀ j, wr.cell? ⟨w.heap.size, j, none⟩ = C[j]? := fun j => by simp [World.cell?, hC]
    have hfz : ∀ j, wr.frozen? ⟨w.heap.size, j, none⟩ = false := fun j => by simp [World.frozen?, hC]
    by_cases hgo : i = 64 ∨ 0 < m
    · obtain ⟨j, rfl⟩ : ∃ j, i = j + 1 := ⟨i - 1, by omega⟩
      have hq' := hid (show (j + 1 = 64 ∧ m = n ∧ ds = []) ∨ (j + 1 < 64 ∧ 0 < m ∧ Lib.decDigits m ++ ds = Lib.decDigits n) by
        rcases hq.out with h | ⟨h1, h2⟩
        · exact .inl h
        · have h0 : 0 < m := by omega
          rw [if_neg (by omega)] at h2
          exact .inr ⟨h1, h0, h2⟩)
      have hcj : C[j]? = some C[j]! := by rw [getElem!_pos C j (by omega)]; exact Array.getElem?_eq_getElem _
      have R : ∀ c : UInt8, c = UInt8.ofNat (48 + m % 10) → (wr.setCell ⟨w.heap.size, j, none⟩ (.int .u8 c.toNat)).heap[w.heap.size]? = some (.cells (C.setIfInBounds j (.int .u8 c.toNat)) 126 (0, 0)) ∧ (C.setIfInBounds j (.int .u8 c.toNat)).size = 64 ∧ j ≤ 64 ∧ m / 10 < 18446744073709551616 ∧ Hid (m / 10 < 10 ^ (j - 44)) ∧ 44 ≤ j ∧ Hid ((C.setIfInBounds j (.int .u8 c.toNat)).toList.drop j = Lib.byteCells (c :: ds)) ∧ Below w.heap.size w (wr.setCell ⟨w.heap.size, j, none⟩ (.int .u8 c.toNat)) ∧ Hid ((j = 64 ∧ m / 10 = n ∧ c :: ds = []) ∨ (j < 64 ∧ (if m / 10 = 0 then c :: ds = Lib.decDigits n else Lib.decDigits (m / 10) ++ (c :: ds) = Lib.decDigits n))) := by
        intro c hc
        have h44 : 44 ≤ j := by
          have := hm.out
          rcases hq'.out with h | h
          · omega
          · rcases Nat.lt_or_ge j 44 with hj | hj
            · have e : j + 1 - 44 = 0 := by omega
              rw [e] at this; omega
            · exact hj
        refine ⟨blk_set hC _ _, by simp [hCs], by omega, by omega, hid ?_, h44, hid (fmt_drop hCs (by omega) hds.out c _ rfl), hbw.setCell (Nat.le_refl _) _, hid (.inr ⟨by omega, fmt_q hq'.out c hc⟩)⟩
        have := hm.out
        rw [show j + 1 - 44 = (j - 44) + 1 by omega, Nat.pow_succ] at this
        omega
      have HR := hid R
      clear R hq' hm hds
      by_cases h64 : j = 63
      · subst h64
        go_wp2
        go_roundw
        case rel => exact ⟨m / 10, 63, _, _, by go_num, rfl, HR.out _ (dig_at m _)⟩
        case measure => simp [intOf]
      · have h1 : ((j : Int) + 1 == 64) = false := by rw [beq_eq_false_iff_ne]; omega
        have h2 : (0 : Int) < (m : Int) := by omega
        have h3 : (j : Int) < 64 := by omega
        go_wp2
        go_roundw
        case rel => exact ⟨m / 10, j, _, _, by go_num, by go_num, HR.out _ (dig_at m _)⟩
        case measure => simp [intOf]
    · have h0 : m = 0 := by omega
      have h1 : i < 64 := by omega
      subst h0
      have h2 : ((i : Int) == 64) = false := by rw [beq_eq_false_iff_ne]; omega
      have h3 : (i : Int) ≤ 64 := by omega
      have hq' := hid (show ds = Lib.decDigits n by
        rcases hq.out with h | h
        · omega
        · simpa using h.2)
      have hl : ds.length = 64 - i := by
        have := congrArg List.length hds.out
        simpa [Lib.byteCells, hCs] using this.symm
      have hcv : (convert 61 9 (.slice (some ⟨w.heap.size, i, none⟩) (64 - i) (64 - i))).run Tryz.prog wr = .ok (.string ⟨ds.toArray⟩) wr := by
        have h := convert_at wr (P := Tryz.prog) Tryz.underlying61 Tryz.underlying5 Tryz.underlying9 (l := ds) (b := w.heap.size) (off := i) (cap := 64 - i) (fun k c hk => by
          rw [blk_cell hC]
          have e := congrArg (fun l : List Value => l[k]?) hds.out
          simp [List.getElem?_drop, Lib.byteCells, hk] at e
          simpa using e)
        rwa [hl] at h
      clear hq hds hm hcl hl
      go_wp2
      go_ret
      exact ⟨ret_str hq'.out, hbw⟩
end Go.Proofs.YthjpchabeemfmaaGreatDoor

namespace Go.Proofs.YthjpchabeemfmaaGreatDoor
open Go.RowKit
set_option linter.unusedVariables false
set_option linter.unusedSimpArgs false
set_option maxHeartbeats 4000000
set_option maxRecDepth 100000
attribute [local go_sem] S_extract S_append run_cut_S run_head_S run_tail_S Nat.add_sub_cancel_left

theorem itoa_nat (n : Nat) : Lib.itoa (n : Int) = Lib.decDigits n := by simp [Lib.itoa]


theorem FormatInt_calls (n : Nat) (w : World) (hn : n ≤ 9223372036854775807) :
    Calls Tryz.prog 83 #[.int .i64 n, .int .i64 10] w fun e w' => e = .returned (.string ⟨(Lib.decDigits n).toArray⟩) ∧ Below w.heap.size w w' := by
  go_enter Tryz.func83, Tryz.ntmps83
  go_wp2_with (go_at_call 99; refine (FormatUint_calls n _ (by omega)).mono ?_; rintro e w' ⟨rfl, hb⟩)
  go_ret
  exact ⟨rfl, hb⟩


theorem Itoa_calls (n : Nat) (w : World) (hn : n ≤ 9223372036854775807) :
    Calls Tryz.prog 68 #[.int .i64 n] w fun e w' => e = .returned (.string ⟨(Lib.decDigits n).toArray⟩) ∧ Below w.heap.size w w' := by
  go_enter Tryz.func68, Tryz.ntmps68
  go_wp2_with (go_at_call 83; refine (FormatInt_calls n _ hn).mono ?_; rintro e w' ⟨rfl, hb⟩)
  go_ret
  exact ⟨rfl, hb⟩

end Go.Proofs.YthjpchabeemfmaaGreatDoor

namespace Go.Proofs.YthjpchabeemfmaaGreatDoor
open Go.RowKit
set_option linter.unusedVariables false
set_option linter.unusedSimpArgs false
set_option maxHeartbeats 4000000
set_option maxRecDepth 100000
attribute [local go_sem] S_extract S_append run_cut_S run_head_S run_tail_S Nat.add_sub_cancel_left

/-- string(r) -/
theorem encode_S (r : Nat) : Utf8.encode (r : Int) = ⟨(Lib.encodeRune (r : Int)).toArray⟩ := by
  unfold Lib.encodeRune
  by_cases c1 : r < 128
  · have v : Utf8.valid (r : Int) = true := by simp [Utf8.valid]; omega
    rw [Lib.encodeRuneZ_one (by omega) (by omega)]
    simp [Utf8.encode, v, c1]
  by_cases c2 : r < 2048
  · have v : Utf8.valid (r : Int) = true := by simp [Utf8.valid]; omega
    rw [Lib.encodeRuneZ_two (by omega) (by omega)]
    simp only [Utf8.encode, v, if_true, Int.toNat_natCast, if_neg c1, if_pos c2]
    have a1 : ((192 + (r : Int) / 64).toNat) = 192 + r / 64 := by omega
    have a2 : ((128 + (r : Int) % 64).toNat) = 128 + r % 64 := by omega
    simp [a1, a2]
  by_cases hb : (55296 ≤ r ∧ r ≤ 57343) ∨ 1114111 < r
  · have v : Utf8.valid (r : Int) = false := by simp [Utf8.valid]; omega
    rw [Lib.encodeRuneZ_bad (by omega)]
    simp [Utf8.encode, v, Utf8.runeError]
  have v : Utf8.valid (r : Int) = true := by simp [Utf8.valid]; omega
  by_cases c3 : r < 65536
  · rw [Lib.encodeRuneZ_three (by omega)]
    simp only [Utf8.encode, v, if_true, Int.toNat_natCast, if_neg c1, if_neg c2, if_pos c3]
    have a1 : ((224 + (r : Int) / 4096).toNat) = 224 + r / 4096 := by omega
    have a2 : ((128 + (r : Int) / 64 % 64).toNat) = 128 + r / 64 % 64 := by omega
    have a3 : ((128 + (r : Int) % 64).toNat) = 128 + r % 64 := by omega
    simp [a1, a2, a3]
  · rw [Lib.encodeRuneZ_four (by omega) (by omega)]
    simp only [Utf8.encode, v, if_true, Int.toNat_natCast, if_neg c1, if_neg c2, if_neg c3]
    have a1 : ((240 + (r : Int) / 262144).toNat) = 240 + r / 262144 := by omega
    have a2 : ((128 + (r : Int) / 4096 % 64).toNat) = 128 + r / 4096 % 64 := by omega
    have a3 : ((128 + (r : Int) / 64 % 64).toNat) = 128 + r / 64 % 64 := by omega
    have a4 : ((128 + (r : Int) % 64).toNat) = 128 + r % 64 := by omega
    simp [a1, a2, a3, a4]

/-- a rune as HTML has it, a line end as a break -/
def htR (r : Int) : List UInt8 := if r = 38 then [38, 97, 109, 112, 59] else if r = 60 then [38, 108, 116, 59] else if r = 62 then [38, 103, 116, 59] else if r = 34 then [38, 35, 51, 52, 59] else if r = 39 then [38, 35, 51, 57, 59] else if r = 10 then [60, 98, 114, 47, 62] else Lib.encodeRune r
def htL (rs : List Int) : List UInt8 := rs.flatMap htR
theorem htR_len (r : Int) : (htR r).length ≤ 5 := by
  unfold htR
  have := enc_len r
  repeat' split
  all_goals simp
  all_goals omega

end Go.Proofs.YthjpchabeemfmaaGreatDoor
