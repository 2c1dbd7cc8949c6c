import Derived.Test.YthjpchabeemfmaaGreatDoorW166
import Derived.Test.YthjpchabeemfmaaGreatDoorGa
import Derived.Shelf.Strings.BuilderK
import Derived.Shelf.Strings.BuilderRune
import Derived.Test.YthjpchabeemfmaaGreatDoorShelf
import Derived.OwnWalk
import Derived.WalkSmall
import Derived.Deep.RegionLaw
import Derived.Deep.AppendLies
namespace Go.Proofs.YthjpchabeemfmaaGreatDoor
open Go.RowKit
set_option linter.unusedVariables false
set_option linter.unusedSimpArgs false
set_option maxHeartbeats 4000000
set_option maxRecDepth 100000



/-- the builder at block b, made at or behind B, holds l -/
def Bld (w : World) (B b : Nat) (l : List UInt8) : Prop := Lib.IsBuilderF 72 5 B b (Lib.byteCells l) w
theorem Bld.fresh (w : World) : Bld (w.alloc (.cells #[.pointer none, .slice none 0 0] 72)) w.heap.size w.heap.size [] := Lib.IsBuilderF.of (Lib.fresh_isBuilder 72 5 w)
theorem Bld.alloc {w : World} {B b : Nat} {l : List UInt8} (h : Bld w B b l) (o : Obj) : Bld (w.alloc o) B b l := Lib.IsBuilderF.alloc h o
theorem Bld.iter {w : World} {B b : Nat} {l : List UInt8} (h : Bld w B b l) {k : Nat} {s : ByteArray} {pos : Nat} (hk : w.heap[k]? = some (.stringIter s pos)) (pos' : Nat) : Bld (w.iterAt k s pos') B b l := Lib.IsBuilderF.iterAt h hk pos'

/-- a builder stays one where its own block and the rows of bytes stay -/
theorem Bld.keep {w w' : World} {B b : Nat} {l : List UInt8} (h : Bld w B b l) (hk : ∀ k o, w.heap[k]? = some o → (k = b ∨ ∃ c fz, o = .cells c 5 fz) → w'.heap[k]? = some o) : Bld w' B b l := by
  have go : ∀ p, Lib.BuilderAtF 72 5 B b p (Lib.byteCells l) w → Lib.BuilderAtF 72 5 B b p (Lib.byteCells l) w' := by
    rintro p ⟨hB, v, hb, hown, hne⟩
    refine ⟨hB, v, hk b _ hb (.inl rfl), ⟨hown.1, ?_⟩, hne⟩
    rcases hown.2 with h | ⟨g, cap, cur, fz, rfl, hbg, hg, r⟩
    · exact .inl h
    · exact .inr ⟨g, cap, cur, fz, rfl, hbg, hk g _ hg (.inr ⟨_, _, rfl⟩), r⟩
  exact h.elim (fun x => .inl (go _ x)) (fun x => .inr (go _ x))
theorem Bld.below {w w' : World} {B b : Nat} {l : List UInt8} (h : Bld w B b l) (hb : Below w.heap.size w w') : Bld w' B b l :=
  h.keep fun k o hk _ => (hb.block k (Array.getElem?_eq_some_iff.1 hk).1).trans hk

theorem WriteString_calls (B b : Nat) (l s : List UInt8) (w : World) (h : Bld w B b l) (hlen : l.length + s.length ≤ 140737488355328) (hBw : B ≤ w.heap.size) :
    Calls Tryz.prog 65 #[.pointer (some ⟨b, 0, none⟩), .string ⟨s.toArray⟩] w fun e w' => e = .returned (.tuple #[.int .i64 s.length, .nilIface]) ∧ Bld w' B b (l ++ s) ∧ Below B w w' ∧ Lib.OthersKept 5 (some b) w w' ∧ w.heap.size ≤ w'.heap.size := by
  refine (Go.Proofs.Any.Builder_WriteString_k lays166 extra166 B b (Lib.byteCells l) ⟨s.toArray⟩ w h (by rw [Lib.byteCells_length, S_size]; exact hlen) hBw).mono ?_
  rintro e w' ⟨rfl, h1, h2, h3⟩
  refine ⟨by rw [S_size], ?_, h2, h3, h2.size⟩
  unfold Bld
  rw [Lib.byteCells_append, ← strCells_S s]
  exact Or.inr h1
theorem BuilderString_calls (B b : Nat) (l : List UInt8) (w : World) (h : Bld w B b l) (hBw : B ≤ w.heap.size) :
    Calls Tryz.prog 66 #[.pointer (some ⟨b, 0, none⟩)] w fun e w' => e = .returned (.string ⟨l.toArray⟩) ∧ Bld w' B b l ∧ Below B w w' ∧ Lib.OthersKept 5 (some b) w w' ∧ w.heap.size ≤ w'.heap.size := by
  refine (Tryz.Builder_String_any_k B b l w h hBw).mono ?_
  rintro e w' ⟨rfl, h1, h2, h3⟩
  exact ⟨rfl, h1, h2, h3, h2.size⟩
theorem Grow_calls (w : World) (n : Int) (h0 : 0 ≤ n) (h1 : n ≤ 281474976710656) :
    Calls Tryz.prog 44 #[.pointer (some ⟨w.heap.size, 0, none⟩), .int .i64 n] (w.alloc (.cells #[.pointer none, .slice none 0 0] 72)) fun e w' => e = .returned (.tuple #[]) ∧ Bld w' w.heap.size w.heap.size [] ∧ Below w.heap.size w w' ∧ w.heap.size ≤ w'.heap.size := by
  obtain ⟨k, rfl⟩ := Int.eq_ofNat_of_zero_le h0
  refine (Tryz.Builder_Grow_fresh w.heap.size w.heap.size k _ (Nat.le_refl _) (alloc_heap_new _ _) (by simp) (by omega)).mono ?_
  rintro e w' ⟨rfl, h1, h2⟩
  have hb : Below w.heap.size w w' := ((Below.refl _ w).alloc (Nat.le_refl _) _).trans h2
  exact ⟨rfl, Or.inr (Lib.BuilderAtF.of h1), hb, hb.size⟩

/-- a function's own builder, its first block: what it holds, and that nothing below has turned -/
structure St (w wr : World) (l : List UInt8) : Prop where
  bld : Bld wr w.heap.size w.heap.size l
  below : Below w.heap.size w wr
theorem St.size {w wr : World} {l : List UInt8} (h : St w wr l) : w.heap.size ≤ wr.heap.size := h.below.size
theorem St.call {w wr w2 : World} {l : List UInt8} (h : St w wr l) (hb : Below wr.heap.size wr w2) : St w w2 l := ⟨h.bld.below hb, h.below.trans (hb.mono h.size)⟩
theorem St.fresh (w : World) : St w (w.alloc (.cells #[.pointer none, .slice none 0 0] 72)) [] := ⟨Bld.fresh w, (Below.refl _ w).alloc (Nat.le_refl _) _⟩
theorem Grow_st (w : World) (n : Int) (h0 : 0 ≤ n) (h1 : n ≤ 281474976710656) :
    Calls Tryz.prog 44 #[.pointer (some ⟨w.heap.size, 0, none⟩), .int .i64 n] (w.alloc (.cells #[.pointer none, .slice none 0 0] 72)) fun e w' => e = .returned (.tuple #[]) ∧ St w w' [] :=
  (Grow_calls w n h0 h1).mono fun e w' ⟨h, h1, h2, _⟩ => ⟨h, h1, h2⟩
theorem WS_st (w : World) (l s : List UInt8) (w1 : World) (h : St w w1 l) (hlen : l.length + s.length ≤ 140737488355328) :
    Calls Tryz.prog 65 #[.pointer (some ⟨w.heap.size, 0, none⟩), .string ⟨s.toArray⟩] w1 fun e w' => e = .returned (.tuple #[.int .i64 s.length, .nilIface]) ∧ St w w' (l ++ s) :=
  (WriteString_calls w.heap.size w.heap.size l s w1 h.bld hlen h.size).mono fun e w' ⟨h1, h2, h3, _, _⟩ => ⟨h1, h2, h.below.trans h3⟩
theorem String_st (w : World) (l : List UInt8) (w1 : World) (h : St w w1 l) :
    Calls Tryz.prog 66 #[.pointer (some ⟨w.heap.size, 0, none⟩)] w1 fun e w' => e = .returned (.string ⟨l.toArray⟩) ∧ St w w' l :=
  (BuilderString_calls w.heap.size w.heap.size l w1 h.bld h.size).mono fun e w' ⟨h1, h2, h3, _, _⟩ => ⟨h1, h2, h.below.trans h3⟩

theorem HasPrefix_calls (s p : List UInt8) (w : World) : Calls Tryz.prog 73 #[.string ⟨s.toArray⟩, .string ⟨p.toArray⟩] w fun e w' => e = .returned (.bool (p.isPrefixOf s)) ∧ w = w' := by
  refine (Tryz.strings_HasPrefix ⟨s.toArray⟩ ⟨p.toArray⟩ w).mono ?_
  rintro e w' ⟨rfl, rfl⟩; exact ⟨rfl, rfl⟩
end Go.Proofs.YthjpchabeemfmaaGreatDoor

namespace Go.Proofs.YthjpchabeemfmaaGreatDoor
open Go.RowKit
set_option linter.unusedVariables false
set_option linter.unusedSimpArgs false
set_option maxHeartbeats 4000000
set_option maxRecDepth 100000

theorem WriteRune_calls (B b : Nat) (l : List UInt8) (r : Int) (hr0 : -2147483648 ≤ r) (hr1 : r ≤ 2147483647) (w : World) (h : Bld w B b l) (hlen : l.length + 4 ≤ 140737488355328) (hBw : B ≤ w.heap.size) :
    Calls Tryz.prog 58 #[.pointer (some ⟨b, 0, none⟩), .int .i32 r] w fun e w' => (∃ n : Nat, e = .returned (.tuple #[.int .i64 n, .nilIface])) ∧ Bld w' B b (l ++ Lib.encodeRune r) ∧ Below B w w' ∧ Lib.OthersKept 5 (some b) w w' ∧ w.heap.size ≤ w'.heap.size := by
  refine (Go.Proofs.Any.Builder_WriteRune_k lays168 extra168 B b (Lib.byteCells l) r hr0 hr1 w h (by rw [Lib.byteCells_length]; exact hlen) hBw).mono ?_
  rintro e w' ⟨rfl, h1, h2, h3⟩
  refine ⟨⟨_, rfl⟩, ?_, h2, h3, h2.size⟩
  unfold Bld
  rw [Lib.byteCells_append, Lib.byteCells_encodeRune]
  exact Or.inr h1
end Go.Proofs.YthjpchabeemfmaaGreatDoor

namespace Go.Proofs.YthjpchabeemfmaaGreatDoor
open Go.RowKit
set_option linter.unusedVariables false
set_option linter.unusedSimpArgs false
set_option maxHeartbeats 4000000
set_option maxRecDepth 100000
attribute [local go_sem] S_extract S_append run_cut_S run_head_S run_tail_S Nat.add_sub_cancel_left

/-- a byte as HTML has it -/
def escB1 (b : UInt8) : List UInt8 := if b = 60 then [38, 108, 116, 59] else if b = 62 then [38, 103, 116, 59] else if b = 38 then [38, 97, 109, 112, 59] else if b = 39 then [38, 35, 51, 57, 59] else if b = 34 then [38, 35, 51, 52, 59] else [b]
def escH (l : List UInt8) : List UInt8 := l.flatMap escB1
theorem escH_cons (b : UInt8) (l : List UInt8) : escH (b :: l) = escB1 b ++ escH l := rfl
theorem escB1_len (b : UInt8) : (escB1 b).length ≤ 5 := by
  unfold escB1
  repeat' split
  all_goals simp
theorem escH_len (l : List UInt8) : (escH l).length ≤ 5 * l.length := by
  induction l with
  | nil => simp [escH]
  | cons b l ih => have := escB1_len b; rw [escH_cons]; simp; omega

theorem zzEscape_calls (s : List UInt8) (w : World) (hs : s.length ≤ 1000000000) :
    Calls Tryz.prog 67 #[.string ⟨s.toArray⟩] w fun e w' => e = .returned (.string ⟨(escH s).toArray⟩) ∧ Below w.heap.size w w' := by
  go_enter Tryz.func67, Tryz.ntmps67
  go_wp2_with fail
  go_loopw [3, 4] (fun v u wr => ∃ (k : Nat) (acc : List UInt8), k ≤ s.length ∧ u = .int .i64 k ∧ OwnB wr 5 w.heap.size v acc ∧ Below w.heap.size w wr ∧ acc.length ≤ 5 * k ∧ Hid (acc ++ escH (s.drop k) = escH s)) (fun _ u _ => s.length - (intOf u).toNat)
  case atStart => exact ⟨0, [], by omega, rfl, OwnB.nil _ _ _, Below.refl _ w, by simp, hid (by simp)⟩
  case round =>
    obtain ⟨k, acc, hk, rfl, hown, hbw, hal, hacc⟩ := hrel
    have hbs := hbw.size
    by_cases hlt : k < s.length
    · obtain ⟨b, hb⟩ : ∃ b, s[k]? = some b := ⟨_, List.getElem?_eq_getElem hlt⟩
      have hlt' : (k : Int) < (s.length : Int) := by omega
      have hv : ((⟨s.toArray⟩ : ByteArray)[k]'(by rw [S_size]; exact hlt)) = b := by have := (List.getElem?_eq_some_iff.1 hb).2; exact this
      have hdrop : s.drop k = b :: s.drop (k + 1) := by
        rw [List.drop_eq_getElem_cons hlt, (List.getElem?_eq_some_iff.1 hb).2]
      have HA := hid (show acc ++ (escB1 b ++ escH (s.drop (k + 1))) = escH s by rw [← hacc.out, hdrop]; rfl)
      clear hacc hdrop hb
      have E : ∀ c : UInt8, ((((⟨s.toArray⟩ : ByteArray)[k]'(by rw [S_size]; exact hlt)).toNat : Int) == (c.toNat : Int)) = (b == c) := fun c => by
        rw [hv, Bool.eq_iff_iff]; simp only [beq_iff_eq]
        exact ⟨fun h => UInt8.toNat_inj.1 (by omega), fun h => by rw [h]⟩
      have E60 : ((((⟨s.toArray⟩ : ByteArray)[k]'(by rw [S_size]; exact hlt)).toNat : Int) == 60) = (b == 60) := E 60
      have E62 : ((((⟨s.toArray⟩ : ByteArray)[k]'(by rw [S_size]; exact hlt)).toNat : Int) == 62) = (b == 62) := E 62
      have E38 : ((((⟨s.toArray⟩ : ByteArray)[k]'(by rw [S_size]; exact hlt)).toNat : Int) == 38) = (b == 38) := E 38
      have E39 : ((((⟨s.toArray⟩ : ByteArray)[k]'(by rw [S_size]; exact hlt)).toNat : Int) == 39) = (b == 39) := E 39
      have E34 : ((((⟨s.toArray⟩ : ByteArray)[k]'(by rw [S_size]; exact hlt)).toNat : Int) == 34) = (b == 34) := E 34
      have HV := hid hv
      clear E hv
      by_cases c60 : b = 60
      · subst c60
        replace E60 : _ = true := E60
        replace E62 : _ = false := E62
        replace E38 : _ = false := E38
        replace E39 : _ = false := E39
        replace E34 : _ = false := E34
        go_wp2_with (at_builtin; refine append_S _ rfl _ _ _ _ 5 rfl Tryz.underlying61 Tryz.underlying9 infoByte w.heap.size _ acc [38, 108, 116, 59] rfl hown rfl (by simp; omega) hbs ?_; intro v1 w1 hown1 hg1)
        go_roundw
        case rel => exact ⟨k + 1, _, by omega, by go_num, hown1, hown.below_grown hbw hbs (Nat.le_refl _) hg1, by simp; omega, hid (by rw [← HA.out]; simp [escB1])⟩
        case measure => simp [intOf]; omega
      · have d60 : (b == 60) = false := by simpa using c60
        rw [d60] at E60
        by_cases c62 : b = 62
        · subst c62
          replace E60 : _ = false := E60
          replace E62 : _ = true := E62
          replace E38 : _ = false := E38
          replace E39 : _ = false := E39
          replace E34 : _ = false := E34
          go_wp2_with (at_builtin; refine append_S _ rfl _ _ _ _ 5 rfl Tryz.underlying61 Tryz.underlying9 infoByte w.heap.size _ acc [38, 103, 116, 59] rfl hown rfl (by simp; omega) hbs ?_; intro v1 w1 hown1 hg1)
          go_roundw
          case rel => exact ⟨k + 1, _, by omega, by go_num, hown1, hown.below_grown hbw hbs (Nat.le_refl _) hg1, by simp; omega, hid (by rw [← HA.out]; simp [escB1])⟩
          case measure => simp [intOf]; omega
        · have d62 : (b == 62) = false := by simpa using c62
          rw [d62] at E62
          by_cases c38 : b = 38
          · subst c38
            replace E60 : _ = false := E60
            replace E62 : _ = false := E62
            replace E38 : _ = true := E38
            replace E39 : _ = false := E39
            replace E34 : _ = false := E34
            go_wp2_with (at_builtin; refine append_S _ rfl _ _ _ _ 5 rfl Tryz.underlying61 Tryz.underlying9 infoByte w.heap.size _ acc [38, 97, 109, 112, 59] rfl hown rfl (by simp; omega) hbs ?_; intro v1 w1 hown1 hg1)
            go_roundw
            case rel => exact ⟨k + 1, _, by omega, by go_num, hown1, hown.below_grown hbw hbs (Nat.le_refl _) hg1, by simp; omega, hid (by rw [← HA.out]; simp [escB1])⟩
            case measure => simp [intOf]; omega
          · have d38 : (b == 38) = false := by simpa using c38
            rw [d38] at E38
            by_cases c39 : b = 39
            · subst c39
              replace E60 : _ = false := E60
              replace E62 : _ = false := E62
              replace E38 : _ = false := E38
              replace E39 : _ = true := E39
              replace E34 : _ = false := E34
              go_wp2_with (at_builtin; refine append_S _ rfl _ _ _ _ 5 rfl Tryz.underlying61 Tryz.underlying9 infoByte w.heap.size _ acc [38, 35, 51, 57, 59] rfl hown rfl (by simp; omega) hbs ?_; intro v1 w1 hown1 hg1)
              go_roundw
              case rel => exact ⟨k + 1, _, by omega, by go_num, hown1, hown.below_grown hbw hbs (Nat.le_refl _) hg1, by simp; omega, hid (by rw [← HA.out]; simp [escB1])⟩
              case measure => simp [intOf]; omega
            · have d39 : (b == 39) = false := by simpa using c39
              rw [d39] at E39
              by_cases c34 : b = 34
              · subst c34
                replace E60 : _ = false := E60
                replace E62 : _ = false := E62
                replace E38 : _ = false := E38
                replace E39 : _ = false := E39
                replace E34 : _ = true := E34
                go_wp2_with (at_builtin; refine append_S _ rfl _ _ _ _ 5 rfl Tryz.underlying61 Tryz.underlying9 infoByte w.heap.size _ acc [38, 35, 51, 52, 59] rfl hown rfl (by simp; omega) hbs ?_; intro v1 w1 hown1 hg1)
                go_roundw
                case rel => exact ⟨k + 1, _, by omega, by go_num, hown1, hown.below_grown hbw hbs (Nat.le_refl _) hg1, by simp; omega, hid (by rw [← HA.out]; simp [escB1])⟩
                case measure => simp [intOf]; omega
              · have d34 : (b == 34) = false := by simpa using c34
                rw [d34] at E34
                have e1 : escB1 b = [b] := by unfold escB1; rw [if_neg c60, if_neg c62, if_neg c38, if_neg c39, if_neg c34]
                have HB := hid (show acc ++ ([b] ++ escH (s.drop (k + 1))) = escH s by rw [← e1]; exact HA.out)
                clear c60 c62 c38 c39 c34 d60 d62 d38 d39 d34 e1
                go_wp2_with (at_builtin; refine append_box rfl _ _ 61 5 (.int .u8 0) 1 1 rfl Tryz.underlying61 infoByte rfl (by decide) w.heap.size u3 acc.length (Lib.byteCells acc) rfl hown 1 5 [.int .u8 (((⟨s.toArray⟩ : ByteArray)[k]'(by rw [S_size]; exact hlt)).toNat : Int)] rfl rfl (by simp; rfl) (by omega) (by decide) hbs ?_; intro v1 w1 hown1 hg1)
                rw [HV.out] at hown1
                have hown2 : OwnB w1 5 w.heap.size v1 (acc ++ [b]) := by
                  unfold OwnB
                  rw [Lib.byteCells_append, List.length_append]
                  exact hown1
                go_roundw
                case rel => exact ⟨k + 1, _, by omega, by go_num, hown2, below_grown hbw hbs (Nat.le_refl _) hown hg1, by simp; omega, hid (by rw [← HB.out]; simp)⟩
                case measure => simp [intOf]; omega
    · have hk2 : k = s.length := by omega
      have HA := hid (show acc = escH s by rw [← hacc.out, hk2, List.drop_length]; simp [escH])
      clear hacc
      have hlt' : ¬ (k : Int) < (s.length : Int) := by omega
      have hcv := convert_S wr Tryz.underlying61 Tryz.underlying5 Tryz.underlying9 hown
      go_wp2_with fail
      go_ret
      exact ⟨ret_str HA.out, hbw⟩

@[go_sem] theorem as_str (v : Value) (w : World) : (Instr.typeAssert (.iface 9 v) 20 9 true).run Tryz.prog w = .ok (.tuple #[v, .bool true]) w := by kernel_rfl
theorem zzText_calls (s : List UInt8) (w : World) :
    Calls Tryz.prog 69 #[.iface 9 (.string ⟨s.toArray⟩)] w fun e w' => e = .returned (.string ⟨s.toArray⟩) ∧ w = w' := by
  go_enter Tryz.func69, Tryz.ntmps69
  go_wp2_with fail
  go_ret
  exact ⟨rfl, rfl⟩

theorem repAll_no {x : UInt8} {p new s : List UInt8} (h : ∀ b ∈ s, b ≠ x) : repAll (x :: p) new s = s := by
  have := repAll_skip p new [] h
  simpa [repAll_nil] using this
theorem hasSub_no {x : UInt8} {p s : List UInt8} (h : ∀ b ∈ s, b ≠ x) : hasSub s (x :: p) = false := by
  have := hasSub_skip p [] h
  simpa [hasSub_nil] using this
/-- a text without tabs and carriage returns -/
def Cl (s : List UInt8) : Prop := ∀ b ∈ s, b ≠ 9 ∧ b ≠ 13

theorem ProcessCRLF_calls (s : List UInt8) (w : World) (hs : s.length ≤ 1000000000) (h : ∀ b ∈ s, b ≠ 13) :
    Calls Tryz.prog 70 #[.string ⟨s.toArray⟩] w fun e w' => e = .returned (.string ⟨s.toArray⟩) ∧ Below w.heap.size w w' := by
  have K1 := hid (zzReplaceAll_calls s [13, 10] [10] w (by simp) (by omega) (by simp) (by rw [repAll_no h]; omega))
  have K2 := hid (fun w => zzContains_calls s [13] w (by omega) (by simp))
  rw [repAll_no h] at K1
  rw [hasSub_no h] at K2
  go_enter Tryz.func70, Tryz.ntmps70
  go_wp2_with (first
    | (go_at_call 84; (with_reducible refine K1.out.mono ?_); rintro e w1 ⟨rfl, hb1⟩)
    | (go_at_call 85; (with_reducible refine (K2.out _).mono ?_); rintro e w2 ⟨rfl, rfl⟩))
  go_ret
  exact ⟨rfl, hb1⟩
end Go.Proofs.YthjpchabeemfmaaGreatDoor

namespace Go.Proofs.YthjpchabeemfmaaGreatDoor
open Go.RowKit
set_option linter.unusedVariables false
set_option linter.unusedSimpArgs false
set_option maxHeartbeats 4000000
set_option maxRecDepth 100000
attribute [local go_sem] S_extract S_append run_cut_S run_head_S run_tail_S Nat.add_sub_cancel_left

theorem tm_max2 (k k' : IntKind) (x y : Int) : Builtin.max2 (.int k x) (.int k' y) = pure (.int k (if x < y then y else x)) := by simp only [Builtin.max2, gt_iff_lt]
theorem tm_max (ats : Array TypeId) (ty : TypeId) (a b : Value) : Builtin.max_ ats ty #[a, b] = (Builtin.max2 a b >>= fun s => pure s) := by simp only [Builtin.max_, List.foldlM_cons, List.foldlM_nil]
attribute [local go_sem] tm_max2 tm_max

theorem repeatL_len (l : List UInt8) (n : Nat) : (Lib.repeatL l n).length = l.length * n := by
  induction n with
  | zero => rfl
  | succ n ih => simp only [Lib.repeatL, List.length_append, ih, Nat.mul_succ]; omega
theorem repeatL_snoc (l : List UInt8) (n : Nat) : Lib.repeatL l n ++ l = Lib.repeatL l (n + 1) := by
  induction n with
  | zero => simp [Lib.repeatL]
  | succ n ih =>
    have e : Lib.repeatL l (n + 1) = l ++ Lib.repeatL l n := rfl
    show Lib.repeatL l (n + 1) ++ l = l ++ Lib.repeatL l (n + 1)
    conv => lhs; rw [e, List.append_assoc, ih]

theorem TxTimes_calls (l : List UInt8) (n : Nat) (w : World) (hl : l.length ≤ 1000000) (hn : n ≤ 1000000) : Calls Tryz.prog 23 #[.string ⟨l.toArray⟩, .int .i64 n] w fun e w' => e = .returned (.string ⟨(Lib.repeatL l n).toArray⟩) ∧ Below w.heap.size w w' := by
  obtain ⟨ib, hi, hz0, hz1, hz2⟩ := info_parts infoByte
  have hm0 : (0 : Int) ≤ (l.length : Int) * (n : Int) := Int.mul_nonneg (by omega) (by omega)
  have hmN : l.length * n ≤ 1000000000000 := by
    have h2 := Nat.mul_le_mul hl hn
    omega
  have hm1 : (l.length : Int) * (n : Int) ≤ 1000000000000 := by
    have h2 := Int.ofNat_le.2 hmN
    rw [Int.natCast_mul] at h2
    exact h2
  have hn0 : ¬ (n : Int) < 0 := by omega
  have HM := hid (show (l.length : Int) * (n : Int) = ((l.length * n : Nat) : Int) by rw [Int.natCast_mul])
  go_enter Tryz.func23, Tryz.ntmps23
  go_wp2_with (at_make; refine wpList_make_own _ rfl _ _ 61 rfl w.heap.size 5 ib (.int .u8 0) 1 Tryz.underlying61 hi hz0 hz1 _ _ _ (l.length * n) rfl rfl HM.out (by rw [hz2]; omega) (by unfold maxLen; omega) (Nat.le_refl _) ?_; intro w1 hown1 hg1; have hb1 : Below w.heap.size w w1 := grown_below hg1 (fun k hk => by cases hk); clear hg1)
  go_loopw [5, 13] (fun v u wr => ∃ k : Nat, k ≤ n ∧ u = .int .i64 k ∧ OwnB wr 5 w.heap.size v (Lib.repeatL l k) ∧ Below w.heap.size w wr) (fun _ u _ => n - (intOf u).toNat)
  case atStart => exact ⟨0, by omega, rfl, hown1, hb1⟩
  case round =>
    obtain ⟨k, hk, rfl, hown, hbw⟩ := hrel
    have hbs := hbw.size
    by_cases hlt : k < n
    · have hlt' : (k : Int) < (n : Int) := by omega
      have hrl := repeatL_len l k
      have hrk : l.length * k ≤ 1000000000000 := Nat.le_trans (Nat.mul_le_mul hl (Nat.le_of_lt (Nat.lt_of_lt_of_le hlt hn))) (by omega)
      have hS := hid (repeatL_snoc l k)
      have hRL := hid hrl
      clear hrl
      go_wp2_with (at_builtin; refine append_S _ rfl _ _ 61 9 5 rfl Tryz.underlying61 Tryz.underlying9 infoByte w.heap.size _ (Lib.repeatL l k) l rfl hown rfl (by rw [hRL.out]; omega) hbs ?_; intro v1 w2 hown2 hg2; rw [hS.out] at hown2)
      go_roundw
      case rel => exact ⟨k + 1, by omega, by go_num, hown2, hown.below_grown hbw hbs (Nat.le_refl _) hg2⟩
      case measure => simp [intOf]; omega
    · obtain rfl : k = n := by omega
      have hlt' : ¬ (k : Int) < (k : Int) := by omega
      have hcv := convert_S wr Tryz.underlying61 Tryz.underlying5 Tryz.underlying9 hown
      go_wp2_with fail
      go_ret
      exact ⟨rfl, hbw⟩
end Go.Proofs.YthjpchabeemfmaaGreatDoor

namespace Go.Proofs.YthjpchabeemfmaaGreatDoor
open Go.RowKit
set_option linter.unusedVariables false
set_option linter.unusedSimpArgs false
set_option maxHeartbeats 4000000
set_option maxRecDepth 100000
attribute [local go_sem] S_extract S_append run_cut_S run_head_S run_tail_S Nat.add_sub_cancel_left

theorem own_put {w : World} {base e n c g : Nat} {xs : List Value} (h : w.ownsRow base e 1 (.slice (some ⟨g, 0, none⟩) n c) n xs) {i : Nat} (hi : i < n) (u : Value) : (w.setCell ⟨g, i, none⟩ u).ownsRow base e 1 (.slice (some ⟨g, 0, none⟩) n c) n (xs.set i u) := by
  obtain ⟨h1, h2⟩ := h
  refine ⟨by simpa using h1, ?_⟩
  rcases h2 with ⟨h3, _⟩ | ⟨g', cap, cur, hv, hb, hg, a1, a2, a3, a4⟩
  · cases h3
  · injection hv with hv1 _ hv2
    injection hv1 with hv1
    injection hv1 with hv1
    subst hv1 hv2
    refine .inr ⟨g, c, cur.setIfInBounds i u, rfl, hb, blk_set hg i u, a1, a2, by simpa using a3, ?_⟩
    rw [Array.toList_setIfInBounds, ← a4, List.take_set]
theorem infoStr : (Tryz.prog.info? 9).map (fun i => (i.zero, i.size, i.bytes)) = some (some (.string ⟨#[]⟩), 1, 16) := by kernel_rfl
/-- the lines, cur being the one under way -/
def linesR (cur : List UInt8) : List Int → List (List UInt8)
  | [] => [cur]
  | r :: t => if r = 10 then cur :: linesR [] t else linesR (cur ++ Lib.encodeRune r) t
theorem own_iter {w : World} {base e sz n : Nat} {v : Value} {xs : List Value} (h : w.ownsRow base e sz v n xs) {k pos : Nat} {s : ByteArray} (hk : w.heap[k]? = some (.stringIter s pos)) (pos' : Nat) : (w.iterAt k s pos').ownsRow base e sz v n xs :=
  own_step h fun j hj => by
    refine Lib.iterAt_other w k j s pos' (fun e => ?_)
    subst e
    obtain ⟨C, fz, hC⟩ := own_typed h j hj
    rw [hk] at hC
    cases hC
theorem iter_grown {w w' : World} {base e sz n : Nat} {v : Value} {xs : List Value} (h : w.ownsRow base e sz v n xs) {k pos : Nat} {s : ByteArray} (hk : w.heap[k]? = some (.stringIter s pos)) (hg : w.grownBy w' v.ownBlock) : w'.heap[k]? = some (.stringIter s pos) := by
  refine (hg.block k (Array.getElem?_eq_some_iff.1 hk).1 (fun e => ?_)).trans hk
  obtain ⟨C, fz, hC⟩ := own_typed h k e.symm
  rw [hk] at hC
  cases hC
theorem iter_set {w : World} {base e sz n : Nat} {v : Value} {xs : List Value} (h : w.ownsRow base e sz v n xs) {k g i pos : Nat} {s : ByteArray} (hv : v.ownBlock = some g) (hk : w.heap[k]? = some (.stringIter s pos)) (u : Value) : (w.setCell ⟨g, i, none⟩ u).heap[k]? = some (.stringIter s pos) := by
  refine (Below.heap_setCell w ⟨g, i, none⟩ u k (fun e => ?_)).trans hk
  obtain ⟨C, fz, hC⟩ := own_typed h g hv
  simp only at e
  rw [← e, hk] at hC
  cases hC

theorem TxLines_calls (s : ByteArray) (w : World) (hs : s.size ≤ 1000000000) : Calls Tryz.prog 25 #[.string s] w fun e w' => ∃ v, e = .returned v ∧ w'.ownsRow w.heap.size 9 1 v (linesR [] (runes s)).length (strs (linesR [] (runes s))) ∧ Below w.heap.size w w' := by
  go_enter Tryz.func25, Tryz.ntmps25
  go_wp2_with fail
  go_loopw [3] (fun v wr => ∃ (pos fuel : Nat) (done : List (List UInt8)) (cur : List UInt8), wr.heap[w.heap.size + 1]? = some (.stringIter s pos) ∧ Below w.heap.size w wr ∧ done.length ≤ pos ∧ cur.length ≤ 4 * pos ∧ wr.ownsRow w.heap.size 9 1 v (done.length + 1) (strs done ++ [.string ⟨cur.toArray⟩]) ∧ Hid (done ++ linesR cur (runesFrom s fuel pos) = linesR [] (runes s)) ∧ s.size ≤ pos + fuel) (fun _ wr => s.size - wr.iterPos (w.heap.size + 1))
  case atStart =>
    refine ⟨0, s.size, [], [], by simpa using World.iter_heap (w.alloc (.cells #[.string ⟨#[]⟩] 9)) s 0, ((Below.refl _ w).alloc (Nat.le_refl _) _).alloc (by simp) _, by simp, by simp, ?_, hid rfl, by omega⟩
    exact own_below ⟨by simp [strs], .inr ⟨w.heap.size, 1, #[.string ⟨#[]⟩], rfl, Nat.le_refl _, alloc_heap_new w _, Nat.le_refl _, by simp [maxLen], by simp, by simp [strs]⟩⟩ ((Below.refl _ _).alloc (Nat.le_refl _) _)
  case round =>
    obtain ⟨pos, fuel, done, cur, hit, hbw, hdl, hcl, hown, hacc, hfu⟩ := hrel
    by_cases hp : pos < s.size
    · have hnx : ∀ ty, (Instr.next (.pointer (some ⟨w.heap.size + 1, 0, none⟩)) true ty).run Tryz.prog wr = _ := fun ty => Lib.run_next_any_at wr (w.heap.size + 1) s pos ty hit hp
      have hwd := width_pos s pos hp
      have hd1 := decode_le s pos
      have hit2 := Lib.iterAt_heap wr (w.heap.size + 1) s pos (pos + (Utf8.decode s pos).2) hit
      have hbw2 := Lib.below_iterAt hbw (k := w.heap.size + 1) (by omega) s (pos + (Utf8.decode s pos).2)
      obtain ⟨f, rfl⟩ : ∃ f, fuel = f + 1 := ⟨fuel - 1, by omega⟩
      have HA := hid (show done ++ linesR cur (((Utf8.decode s pos).1 : Int) :: runesFrom s f (pos + (Utf8.decode s pos).2)) = linesR [] (runes s) by rw [← hacc.out, runesFrom_step s f pos hp])
      have HE := encode_S (Utf8.decode s pos).1
      have henc := enc_len ((Utf8.decode s pos).1 : Int)
      have hown2 : (wr.iterAt (w.heap.size + 1) s (pos + (Utf8.decode s pos).2)).ownsRow w.heap.size 9 1 u3 (done.length + 1) (strs done ++ [.string ⟨cur.toArray⟩]) := by
        exact own_iter hown hit _
      have hbs := hbw2.size
      clear hacc hown
      by_cases hx : ((Utf8.decode s pos).1 : Int) = 10
      · have HB := hid (show done ++ (cur :: linesR [] (runesFrom s f (pos + (Utf8.decode s pos).2))) = linesR [] (runes s) by rw [← HA.out, linesR, if_pos hx])
        clear HA HE henc
        rw [hx] at hnx
        clear hx
        go_wp2_with (at_builtin; refine append_box rfl _ _ 37 9 (.string ⟨#[]⟩) 1 16 rfl Tryz.underlying37 infoStr rfl (by decide) w.heap.size u3 (done.length + 1) (strs done ++ [.string ⟨cur.toArray⟩]) rfl hown2 1 9 [.string ⟨#[]⟩] rfl rfl (by simp; rfl) (by omega) (by decide) hbs ?_; intro v1 w1 hown1 hg1)
        go_roundw
        case rel => exact ⟨_, f, done ++ [cur], [], iter_grown hown2 hit2 hg1, below_grown hbw2 hbs (Nat.le_refl _) hown2 hg1, by simp; omega, by simp, by simpa [strs] using hown1, hid (by rw [← HB.out]; simp), by omega⟩
        case measure => simp only [World.iterPos, iter_grown hown2 hit2 hg1, hit]; omega
      · have HB := hid (show done ++ linesR (cur ++ Lib.encodeRune ((Utf8.decode s pos).1 : Int)) (runesFrom s f (pos + (Utf8.decode s pos).2)) = linesR [] (runes s) by rw [← HA.out, linesR, if_neg hx])
        have e1 : (((Utf8.decode s pos).1 : Int) == 10) = false := by simpa using hx
        obtain ⟨g, c, hv, hnc, hgb, ⟨cc, hgc⟩, hcell⟩ := own_cells hown2 (by omega)
        subst hv
        have hlast := hcell done.length (Value.string ⟨cur.toArray⟩) (by simp [strs])
        have hfz := blk_free hgc done.length
        have hP := own_put hown2 (i := done.length) (by omega) (.string ⟨(cur ++ Lib.encodeRune ((Utf8.decode s pos).1 : Int)).toArray⟩)
        have hS := hid (iter_set (i := done.length) hown2 (g := g) rfl hit2 (.string ⟨(cur ++ Lib.encodeRune ((Utf8.decode s pos).1 : Int)).toArray⟩))
        have hP2 := hid (show (strs done ++ [Value.string ⟨cur.toArray⟩]).set done.length (Value.string ⟨(cur ++ Lib.encodeRune ((Utf8.decode s pos).1 : Int)).toArray⟩) = strs done ++ [Value.string ⟨(cur ++ Lib.encodeRune ((Utf8.decode s pos).1 : Int)).toArray⟩] by
          have e : (strs done).length = done.length := by simp [strs]
          rw [List.set_append_right _ _ (by omega), e, Nat.sub_self]; rfl)
        rw [hP2.out] at hP
        have hB : Below w.heap.size w ((wr.iterAt (w.heap.size + 1) s (pos + (Utf8.decode s pos).2)).setCell ⟨g, done.length, none⟩ (.string ⟨(cur ++ Lib.encodeRune ((Utf8.decode s pos).1 : Int)).toArray⟩)) := hbw2.setCell hgb _
        have hPh := hid hP
        clear HA hx hcell hgc hP hP2
        go_wp2_with fail
        exact ⟨⟨_, f, done, _, hS.out, hB, by omega, by rw [List.length_append]; omega, hPh.out, HB, by omega⟩, by simp only [World.iterPos, hS.out, hit]; omega⟩
    · have hnx : ∀ ty, (Instr.next (.pointer (some ⟨w.heap.size + 1, 0, none⟩)) true ty).run Tryz.prog wr = _ := fun ty => Lib.run_next_end_at wr (w.heap.size + 1) s pos ty hit hp
      have HF := hid (show strs done ++ [.string ⟨cur.toArray⟩] = strs (linesR [] (runes s)) ∧ done.length + 1 = (linesR [] (runes s)).length by
        have h := hacc.out
        rw [runesFrom_end s fuel pos hp, linesR] at h
        rw [← h]
        exact ⟨by simp [strs], by simp⟩)
      clear hacc
      rw [HF.out.1, HF.out.2] at hown
      go_wp2_with fail
      go_ret
      exact ⟨_, rfl, hown, hbw⟩
end Go.Proofs.YthjpchabeemfmaaGreatDoor
