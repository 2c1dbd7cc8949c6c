import Derived.Test.YthjpchabeemfmaaGreatDoorGc
import Derived.Test.YthjpchabeemfmaaGreatDoorGb
import Derived.Test.YthjpchabeemfmaaGreatDoorGa
import Derived.Deep.QuietTactic
import Derived.BigQuiet
import Derived.WalkSmall
import Derived.Deep.Cut
import Derived.Deep.CutRange
import Derived.Deep.DeepCutAuto
namespace Go.Proofs.YthjpchabeemfmaaGreatDoor
open Go.RowKit
set_option linter.unusedVariables false
set_option linter.unusedSimpArgs false
set_option maxHeartbeats 4000000
set_option maxRecDepth 100000

/-- a list stays, where a builder alone has been written on -/
theorem LAt.others {w w' : World} {base b bb : Nat} {items : List It} {lev : Nat} {cls : List UInt8} {st : Value} {ap : Int} {sp : ByteArray} {iv : Value} {ps : List Value} (H : LAt w base b items lev cls st ap sp iv ps)
    (h : Lib.OthersKept 5 (some bb) w w') {cb : Array Value} {fb : Nat × Nat} (hbb : w.heap[bb]? = some (.cells cb 72 fb)) : LAt w' base b items lev cls st ap sp iv ps := by
  have go : ∀ (g : Nat) (cs : Array Value) (t : Nat) (fz : Nat × Nat), w.heap[g]? = some (.cells cs t fz) → t ≠ 72 → t ≠ 5 → w'.heap[g]? = some (.cells cs t fz) := fun g cs t fz h0 h1 h2 => by
    refine h g _ h0 (fun e => ?_) (fun c fz' e => ?_)
    · injection e with e
      exact ty_ne h0 hbb h1 e
    · injection e with _ e2 _
      exact h2 e2
  refine ⟨go _ _ _ _ H.row (by decide) (by decide), H.le, own_step H.own fun k hk => ?_, H.items.1, fun i x hx => ?_⟩
  · obtain ⟨C, fz, hC⟩ := own_typed H.own k hk
    exact (go _ _ _ _ hC (by decide) (by decide)).trans hC.symm
  · obtain ⟨gi, h1, h2, h3⟩ := H.items.2 i x hx
    exact ⟨gi, h1, h2, go _ _ _ _ h3 (by decide) (by decide)⟩

/-! what a list of HTML is -/
def pad2 (n : Nat) : List UInt8 := Lib.repeatL [32, 32] n
def liLine (lev : Nat) (t : List UInt8) : List UInt8 := pad2 lev ++ ([32, 32, 60, 108, 105, 62] ++ (repAll [10] [60, 98, 114, 47, 62] (escH t) ++ [60, 47, 108, 105, 62, 10]))
def openUl (cls : List UInt8) (lev : Nat) : List UInt8 := pad2 lev ++ ([60, 117, 108, 32, 99, 108, 97, 115, 115, 61, 34] ++ (escH cls ++ ((if 0 < lev then 45 :: Lib.decDigits lev else []) ++ [34, 62, 10])))
def closeUl (lev : Nat) : List UInt8 := pad2 lev ++ [60, 47, 117, 108, 62]
/-- the items of a level, and what stands deeper; how many were taken -/
def hbody (cls : List UInt8) : Nat → Nat → List It → List UInt8 × Nat
  | 0, _, _ => ([], 0)
  | _ + 1, _, [] => ([], 0)
  | f + 1, lev, x :: t =>
    if x.1 = lev then (liLine lev x.2 ++ (hbody cls f lev t).1, (hbody cls f lev t).2 + 1)
    else if lev < x.1 then
      let s := hbody cls f x.1 (x :: t)
      let r := hbody cls f lev ((x :: t).drop s.2)
      (openUl cls x.1 ++ (s.1 ++ (closeUl x.1 ++ (10 :: r.1))), s.2 + r.2)
    else ([], 0)

theorem pad2_len (n : Nat) : (pad2 n).length = 2 * n := by
  unfold pad2
  induction n with
  | zero => rfl
  | succ n ih => simp only [Lib.repeatL, List.length_append, ih]; simp; omega
theorem Pad_calls (n : Nat) (w : World) (h : n ≤ 1000000) : Calls Tryz.prog 54 #[.string ⟨#[32, 32]⟩, .int .i64 n] w fun e w' => e = .returned (.string ⟨(pad2 n).toArray⟩) ∧ Below w.heap.size w w' := by
  have := Tryz.strings_Repeat ⟨#[32, 32]⟩ n w (by omega) (by simp [ByteArray.size]; omega)
  exact this

theorem hbody_pos (cls : List UInt8) (f lev : Nat) (x : It) (t : List It) (h : x.1 = lev) : 1 ≤ (hbody cls (f + 1) lev (x :: t)).2 := by
  unfold hbody
  rw [if_pos h]
  simp
theorem hbody_le (cls : List UInt8) : ∀ (f lev : Nat) (l : List It), (hbody cls f lev l).2 ≤ l.length
  | 0, _, _ => by simp [hbody]
  | f + 1, lev, [] => by simp [hbody]
  | f + 1, lev, x :: t => by
    unfold hbody
    split
    · have := hbody_le cls f lev t
      simp; omega
    · split
      · have h1 := hbody_le cls f x.1 (x :: t)
        have h2 := hbody_le cls f lev ((x :: t).drop (hbody cls f x.1 (x :: t)).2)
        rw [List.length_drop] at h2
        simp only
        omega
      · simp

def hneed (lev : Nat) : List It → Nat
  | [] => 1
  | x :: t => 2 * (t.length + 1) + (if x.1 = lev then 0 else 1)
theorem hneed_le (lev : Nat) (l : List It) : hneed lev l ≤ 2 * l.length + 1 := by
  cases l with
  | nil => simp [hneed]
  | cons x t => simp only [hneed, List.length_cons]; split <;> omega
theorem hbody_fuel (cls : List UInt8) : ∀ (f lev : Nat) (l : List It) (g : Nat), hneed lev l ≤ f → hneed lev l ≤ g → hbody cls f lev l = hbody cls g lev l
  | 0, lev, [], g, h, _ => by simp [hneed] at h
  | 0, lev, x :: t, g, h, _ => by simp [hneed] at h
  | f + 1, lev, [], g, _, h => by
    cases g with
    | zero => simp [hneed] at h
    | succ g => simp [hbody]
  | f + 1, lev, x :: t, g, hf, hg => by
    cases g with
    | zero => simp [hneed] at hg
    | succ g =>
      by_cases hx : x.1 = lev
      · have h1 := hneed_le lev t
        simp only [hneed, if_pos hx] at hf hg
        have ih := hbody_fuel cls f lev t g (by omega) (by omega)
        conv => lhs; unfold hbody
        conv => rhs; unfold hbody
        rw [if_pos hx, if_pos hx, ih]
      · simp only [hneed, if_neg hx] at hf hg
        by_cases hlt : lev < x.1
        · have ih := hbody_fuel cls f x.1 (x :: t) g (by simp [hneed]; omega) (by simp [hneed]; omega)
          obtain ⟨f', rfl⟩ : ∃ n, f = n + 1 := ⟨f - 1, by omega⟩
          have hp := hbody_pos cls f' x.1 x t rfl
          have hd := hneed_le lev ((x :: t).drop (hbody cls (f' + 1) x.1 (x :: t)).2)
          rw [List.length_drop, List.length_cons] at hd
          have ih2 := hbody_fuel cls (f' + 1) lev ((x :: t).drop (hbody cls (f' + 1) x.1 (x :: t)).2) g (by omega) (by omega)
          conv => lhs; unfold hbody
          conv => rhs; unfold hbody
          rw [if_neg hx, if_neg hx, if_pos hlt, if_pos hlt]
          simp only
          rw [← ih, ih2]
        · conv => lhs; unfold hbody
          conv => rhs; unfold hbody
          rw [if_neg hx, if_neg hx, if_neg hlt, if_neg hlt]

/-- the same with its own fuel -/
def hb (cls : List UInt8) (lev : Nat) (l : List It) : List UInt8 × Nat := hbody cls (2 * l.length + 1) lev l
theorem hb_nil (cls : List UInt8) (lev : Nat) : hb cls lev [] = ([], 0) := by simp [hb, hbody]
theorem hb_eq (cls : List UInt8) {lev : Nat} {x : It} (t : List It) (h : x.1 = lev) : hb cls lev (x :: t) = (liLine lev x.2 ++ (hb cls lev t).1, (hb cls lev t).2 + 1) := by
  unfold hb
  have e := hbody_fuel cls (2 * (t.length + 1)) lev t (2 * t.length + 1) (by have := hneed_le lev t; omega) (hneed_le lev t)
  conv => lhs; unfold hbody
  rw [if_pos h, List.length_cons, e]
theorem hb_gt (cls : List UInt8) {lev : Nat} {x : It} (t : List It) (h : lev < x.1) : hb cls lev (x :: t) = (openUl cls x.1 ++ ((hb cls x.1 (x :: t)).1 ++ (closeUl x.1 ++ (10 :: (hb cls lev ((x :: t).drop (hb cls x.1 (x :: t)).2)).1))), (hb cls x.1 (x :: t)).2 + (hb cls lev ((x :: t).drop (hb cls x.1 (x :: t)).2)).2) := by
  have e1 := hbody_fuel cls (2 * (t.length + 1)) x.1 (x :: t) (2 * (x :: t).length + 1) (by simp [hneed]) (by simp [hneed])
  have hp := hbody_pos cls (2 * t.length + 1) x.1 x t rfl
  rw [show 2 * t.length + 1 + 1 = 2 * (t.length + 1) by omega] at hp
  have hd := hneed_le lev ((x :: t).drop (hbody cls (2 * (t.length + 1)) x.1 (x :: t)).2)
  have e2 := hbody_fuel cls (2 * (t.length + 1)) lev ((x :: t).drop (hbody cls (2 * (t.length + 1)) x.1 (x :: t)).2) (2 * ((x :: t).drop (hbody cls (2 * (t.length + 1)) x.1 (x :: t)).2).length + 1) (by rw [List.length_drop, List.length_cons] at hd; omega) hd
  have hne : x.1 ≠ lev := by omega
  show hbody cls (2 * (t.length + 1) + 1) lev (x :: t) = _
  conv => lhs; unfold hbody
  rw [if_neg hne, if_pos h]
  simp only
  unfold hb
  rw [← e1, e2]
theorem hb_lt (cls : List UInt8) {lev : Nat} {x : It} (t : List It) (h : x.1 < lev) : hb cls lev (x :: t) = ([], 0) := by
  unfold hb
  conv => lhs; unfold hbody
  rw [if_neg (by omega), if_neg (by omega)]
theorem hb_pos (cls : List UInt8) (x : It) (t : List It) : 1 ≤ (hb cls x.1 (x :: t)).2 := hbody_pos cls _ x.1 x t rfl
theorem hb_le (cls : List UInt8) (lev : Nat) (l : List It) : (hb cls lev l).2 ≤ l.length := hbody_le cls _ lev l
end Go.Proofs.YthjpchabeemfmaaGreatDoor

namespace Go.Proofs.YthjpchabeemfmaaGreatDoor
open Go.RowKit
set_option linter.unusedVariables false
set_option linter.unusedSimpArgs false
set_option maxHeartbeats 4000000
set_option maxRecDepth 100000

theorem LAt.itemAt {w : World} {base b : Nat} {items : List It} {lev : Nat} {cls : List UInt8} {st : Value} {ap : Int} {sp : ByteArray} {iv : Value} {ps : List Value} (H : LAt w base b items lev cls st ap sp iv ps) {k gi : Nat} {it : It} (hk : items[k]? = some it) (hp : ps[k]? = some (.pointer (some ⟨gi, 0, none⟩))) : w.heap[gi]? = some (.cells (itemCells it) 76 (0, 0)) := by
  obtain ⟨g, h1, _, h2⟩ := H.items.2 k it hk
  rw [hp] at h1
  injection h1 with h3
  injection h3 with h4
  injection h4 with h5
  injection h5 with h6
  subst h6
  exact h2
/-- a builder's block is one of builders -/
theorem Bld.block {w : World} {B b : Nat} {l : List UInt8} (h : Bld w B b l) : ∃ cs fz, w.heap[b]? = some (.cells cs 72 fz) := by
  rcases h with ⟨_, v, hb, _⟩ | ⟨_, v, hb, _⟩
  · exact ⟨_, _, hb⟩
  · exact ⟨_, _, hb⟩
/-- a list and a builder beside it -/
structure LB (w0 w : World) (base b bb : Nat) (items : List It) (lev : Nat) (cls : List UInt8) (st : Value) (ap : Int) (sp : ByteArray) (iv : Value) (ps : List Value) (acc : List UInt8) : Prop where
  list : LAt w base b items lev cls st ap sp iv ps
  bld : Bld w base bb acc
  below : Below base w0 w
  size : base ≤ w.heap.size
theorem LB.call {w0 w w' : World} {base b bb : Nat} {items : List It} {lev : Nat} {cls : List UInt8} {st : Value} {ap : Int} {sp : ByteArray} {iv : Value} {ps : List Value} {acc : List UInt8} (h : LB w0 w base b bb items lev cls st ap sp iv ps acc) (hb : Below w.heap.size w w') : LB w0 w' base b bb items lev cls st ap sp iv ps acc :=
  ⟨h.list.below hb, h.bld.below hb, h.below.trans (hb.mono h.size), Nat.le_trans h.size hb.size⟩
theorem LB.write {w0 w w' : World} {base b bb : Nat} {items : List It} {lev : Nat} {cls : List UInt8} {st : Value} {ap : Int} {sp : ByteArray} {iv : Value} {ps : List Value} {acc acc' : List UInt8} (h : LB w0 w base b bb items lev cls st ap sp iv ps acc) (hb : Bld w' base bb acc') (hl : Below base w w') (ho : Lib.OthersKept 5 (some bb) w w') : LB w0 w' base b bb items lev cls st ap sp iv ps acc' := by
  obtain ⟨cs, fz, hbb⟩ := h.bld.block
  exact ⟨h.list.others ho hbb, hb, h.below.trans hl, Nat.le_trans h.size hl.size⟩
theorem WS_LB {w0 w : World} {base b bb : Nat} {items : List It} {lev : Nat} {cls : List UInt8} {st : Value} {ap : Int} {sp : ByteArray} {iv : Value} {ps : List Value} {acc : List UInt8} (h : LB w0 w base b bb items lev cls st ap sp iv ps acc) (s : List UInt8) (hl : acc.length + s.length ≤ 140737488355328) :
    Calls Tryz.prog 65 #[.pointer (some ⟨bb, 0, none⟩), .string ⟨s.toArray⟩] w fun e w' => e = .returned (.tuple #[.int .i64 s.length, .nilIface]) ∧ LB w0 w' base b bb items lev cls st ap sp iv ps (acc ++ s) := by
  refine (WriteString_calls base bb acc s w h.bld hl h.size).mono ?_
  rintro e w' ⟨rfl, h1, h2, h3, _⟩
  exact ⟨rfl, h.write h1 h2 h3⟩
theorem WR_LB {w0 w : World} {base b bb : Nat} {items : List It} {lev : Nat} {cls : List UInt8} {st : Value} {ap : Int} {sp : ByteArray} {iv : Value} {ps : List Value} {acc : List UInt8} (h : LB w0 w base b bb items lev cls st ap sp iv ps acc) (r : Int) (hr0 : 0 ≤ r) (hr : r < 128) (hl : acc.length + 4 ≤ 140737488355328) :
    Calls Tryz.prog 58 #[.pointer (some ⟨bb, 0, none⟩), .int .i32 r] w fun e w' => (∃ n : Nat, e = .returned (.tuple #[.int .i64 n, .nilIface])) ∧ LB w0 w' base b bb items lev cls st ap sp iv ps (acc ++ [r.toNat.toUInt8]) := by
  refine (WriteRune_calls base bb acc r (by omega) (by omega) w h.bld hl h.size).mono ?_
  rintro e w' ⟨h0, h1, h2, h3, _⟩
  rw [Lib.encodeRune, Lib.encodeRuneZ_one (by omega) (by omega)] at h1
  exact ⟨h0, h.write h1 h2 h3⟩
end Go.Proofs.YthjpchabeemfmaaGreatDoor

namespace Go.Proofs.YthjpchabeemfmaaGreatDoor
open Go.RowKit
set_option linter.unusedVariables false
set_option linter.unusedSimpArgs false
set_option maxHeartbeats 4000000
set_option maxRecDepth 100000
attribute [local go_sem] S_extract S_append run_cut_S run_head_S run_tail_S Nat.add_sub_cancel_left

theorem LAt.cellAt {w : World} {base b : Nat} {items : List It} {lev : Nat} {cls : List UInt8} {st : Value} {ap : Int} {sp : ByteArray} {gr c0 : Nat} {ps : List Value} (H : LAt w base b items lev cls st ap sp (.slice (some ⟨gr, 0, none⟩) items.length c0) ps) {k : Nat} {v : Value} (hp : ps[k]? = some v) : w.cell? ⟨gr, k, none⟩ = some v := by
  have hk : k < items.length := by have := (List.getElem?_eq_some_iff.1 hp).1; rw [H.items.1] at this; exact this
  obtain ⟨g, c, hv, _, _, _, hc⟩ := own_cells H.own (by omega)
  injection hv with hv1 _ _
  injection hv1 with hv1
  injection hv1 with hv1
  subst hv1
  exact hc k v hp

theorem html_calls (base b bb : Nat) (items : List It) (lev : Nat) (cls : List UInt8) (st : Value) (ap : Int) (sp : ByteArray) (iv : Value) (ps : List Value) (w0 : World) (hi : ∀ it ∈ items, it.1 ≤ 1000 ∧ it.2.length ≤ 1000000) (hcl : cls.length ≤ 1000000) (hn : items.length ≤ 1000000) :
    ∀ (m idx : Nat) (it : It) (gi : Nat) (acc : List UInt8) (w : World), items.length - idx ≤ m → items[idx]? = some it → ps[idx]? = some (.pointer (some ⟨gi, 0, none⟩)) →
      (acc ++ (openUl cls it.1 ++ ((hb cls it.1 (items.drop idx)).1 ++ closeUl it.1))).length ≤ 100000000000 → LB w0 w base b bb items lev cls st ap sp iv ps acc →
      Calls Tryz.prog 50 #[.pointer (some ⟨b, 0, none⟩), .pointer (some ⟨bb, 0, none⟩), .int .i64 idx, .pointer (some ⟨gi, 0, none⟩)] w fun e w' => e = .returned (.int .i64 (hb cls it.1 (items.drop idx)).2) ∧ LB w0 w' base b bb items lev cls st ap sp iv ps (acc ++ (openUl cls it.1 ++ ((hb cls it.1 (items.drop idx)).1 ++ closeUl it.1)))
  | 0, idx, it, gi, acc, w => fun h hit _ _ _ => by
    have := (List.getElem?_eq_some_iff.1 hit).1
    omega
  | m + 1, idx, it, gi, acc, w => fun hm hit hpi hlen HB => by
    have IH := hid (html_calls base b bb items lev cls st ap sp iv ps w0 hi hcl hn m)
    have hgi := HB.list.itemAt hit hpi
    obtain ⟨hl1, hl2⟩ := hi it (List.mem_of_getElem? hit)
    have hg0 : w.cell? ⟨gi, 0, none⟩ = some (.int .i64 it.1) := blk_cell hgi 0
    have hc2 : w.cell? ⟨b, 2, none⟩ = some (.string ⟨cls.toArray⟩) := blk_cell HB.list.row 2
    have KPd := hid (fun w => Pad_calls it.1 w (by omega))
    have KE := hid (fun w => zzEscape_calls cls w (by omega))
    have hpl := pad2_len it.1
    have hel := escH_len cls
    have hlen2 := hlen
    simp only [List.length_append] at hlen2
    have hA : acc.length ≤ 100000000000 := by omega
    clear hlen2
    have HIT := hid hit
    have HPI := hid hpi
    have KI := hid (fun w => Itoa_calls it.1 w (by omega))
    obtain ⟨A0, c0, rfl, _⟩ := own_slice HB.list.own
    have hdl : (Lib.decDigits it.1).length ≤ 20 := by rw [Lib.decDigits_length]; exact Lib.nDigits_le20 _ (by omega)
    clear hit hpi hgi
    go_enter Tryz.func50, Tryz.ntmps50
    go_upto_if 34 with (first
      | (go_at_call 54; (with_reducible refine (KPd.out _).mono ?_); rintro e w1 ⟨rfl, hb1⟩; have HB1 := HB.call hb1)
      | (go_at_call 67; (with_reducible refine (KE.out _).mono ?_); rintro e wn ⟨rfl, hbn⟩; replace HB1 := HB1.call hbn; clear hbn; have hq2 : World.cell? wn ⟨b, 2, none⟩ = some (.string ⟨cls.toArray⟩) := blk_cell HB1.list.row 2; have hq0 : World.cell? wn ⟨gi, 0, none⟩ = some (.int .i64 it.1) := blk_cell (HB1.list.itemAt HIT.out HPI.out) 0; have hq3 : World.cell? wn ⟨b, 3, none⟩ = some (.slice A0 items.length c0) := blk_cell HB1.list.row 3)
      | (go_at_call 65; (with_reducible refine (WS_LB HB1 _ (by first | omega | (simp; omega))).mono ?_); rintro e wn ⟨rfl, HBn⟩; replace HB1 := HBn; clear HBn; have hq2 : World.cell? wn ⟨b, 2, none⟩ = some (.string ⟨cls.toArray⟩) := blk_cell HB1.list.row 2; have hq0 : World.cell? wn ⟨gi, 0, none⟩ = some (.int .i64 it.1) := blk_cell (HB1.list.itemAt HIT.out HPI.out) 0; have hq3 : World.cell? wn ⟨b, 3, none⟩ = some (.slice A0 items.length c0) := blk_cell HB1.list.row 3))
    go_cut [34] from 35 to 43 (fun c34 wx => Hid (LB w0 wx base b bb items lev cls st ap sp (.slice A0 items.length c0) ps (acc ++ pad2 it.1 ++ [60, 117, 108, 32, 99, 108, 97, 115, 115, 61, 34] ++ escH cls ++ (if 0 < it.1 then 45 :: Lib.decDigits it.1 else []))))
    case first =>
      by_cases hlv : 0 < it.1
      · have hlv' : (0 : Int) < (it.1 : Int) := by omega
        go_wp2_with (first
          | (go_at_call 68; (with_reducible refine (KI.out _).mono ?_); rintro e wn ⟨rfl, hbn⟩; replace HB1 := HB1.call hbn; clear hbn; have hq2 : World.cell? wn ⟨b, 2, none⟩ = some (.string ⟨cls.toArray⟩) := blk_cell HB1.list.row 2; have hq0 : World.cell? wn ⟨gi, 0, none⟩ = some (.int .i64 it.1) := blk_cell (HB1.list.itemAt HIT.out HPI.out) 0; have hq3 : World.cell? wn ⟨b, 3, none⟩ = some (.slice A0 items.length c0) := blk_cell HB1.list.row 3)
          | (go_at_call 58; (with_reducible refine (WR_LB HB1 45 (by omega) (by omega) (by first | omega | (simp; omega))).mono ?_); rintro e wn ⟨⟨n, rfl⟩, HBn⟩; replace HB1 := HBn; clear HBn; have hq2 : World.cell? wn ⟨b, 2, none⟩ = some (.string ⟨cls.toArray⟩) := blk_cell HB1.list.row 2; have hq0 : World.cell? wn ⟨gi, 0, none⟩ = some (.int .i64 it.1) := blk_cell (HB1.list.itemAt HIT.out HPI.out) 0; have hq3 : World.cell? wn ⟨b, 3, none⟩ = some (.slice A0 items.length c0) := blk_cell HB1.list.row 3)
          | (go_at_call 65; (with_reducible refine (WS_LB HB1 _ (by first | omega | (simp; omega))).mono ?_); rintro e wn ⟨rfl, HBn⟩; replace HB1 := HBn; clear HBn; have hq2 : World.cell? wn ⟨b, 2, none⟩ = some (.string ⟨cls.toArray⟩) := blk_cell HB1.list.row 2; have hq0 : World.cell? wn ⟨gi, 0, none⟩ = some (.int .i64 it.1) := blk_cell (HB1.list.itemAt HIT.out HPI.out) 0; have hq3 : World.cell? wn ⟨b, 3, none⟩ = some (.slice A0 items.length c0) := blk_cell HB1.list.row 3))
        go_meet
        rw [if_pos hlv]
        exact hid (by simpa using HB1)
      · have hlv' : ¬ (0 : Int) < (it.1 : Int) := by omega
        go_wp2_with fail
        go_meet
        rw [if_neg hlv]
        exact hid (by simpa using HB1)
    case rest =>
      have HB1 := hcut.out
      clear hcut
      have HX := hid (show acc ++ pad2 it.1 ++ [60, 117, 108, 32, 99, 108, 97, 115, 115, 61, 34] ++ escH cls ++ (if 0 < it.1 then 45 :: Lib.decDigits it.1 else []) ++ [34, 62, 10] = acc ++ openUl cls it.1 by simp [openUl])
      have hX : (acc ++ pad2 it.1 ++ [60, 117, 108, 32, 99, 108, 97, 115, 115, 61, 34] ++ escH cls ++ (if 0 < it.1 then 45 :: Lib.decDigits it.1 else [])).length ≤ 200000000000 := by
        have e := congrArg List.length HX.out
        have h2 := hlen
        rw [List.length_append] at e
        simp only [List.length_append] at e h2 ⊢
        omega
      generalize acc ++ pad2 it.1 ++ [60, 117, 108, 32, 99, 108, 97, 115, 115, 61, 34] ++ escH cls ++ (if 0 < it.1 then 45 :: Lib.decDigits it.1 else []) = acc1 at *
      go_wp2_with (go_at_call 65; (with_reducible refine (WS_LB HB1 [34, 62, 10] (by simp; omega)).mono ?_); rintro e wn ⟨rfl, HBn⟩; rw [HX.out] at HBn)
      go_loopw [10, 11] (fun vn vi wr => ∃ (n k : Nat) (acc2 : List UInt8), vn = .int .i64 n ∧ vi = .int .i64 k ∧ k ≤ items.length ∧ LB w0 wr base b bb items lev cls st ap sp (.slice A0 items.length c0) ps acc2 ∧ Hid (acc2 ++ (hb cls it.1 (items.drop k)).1 = acc ++ (openUl cls it.1 ++ (hb cls it.1 (items.drop idx)).1) ∧ n + (hb cls it.1 (items.drop k)).2 = (hb cls it.1 (items.drop idx)).2) ∧ Hid (k = idx + n)) (fun _ vi _ => items.length - (intOf vi).toNat)
      case atStart => exact ⟨0, idx, _, rfl, rfl, by have := (List.getElem?_eq_some_iff.1 HIT.out).1; omega, HBn, hid ⟨by simp, by simp⟩, hid (by simp)⟩
      case round =>
        obtain ⟨n, k, acc2, rfl, rfl, hkl, HL, hT, hK⟩ := hrel
        clear HBn HX hX
        have hnk : n ≤ 1000000 := by have := hK.out; omega
        by_cases hlt : k < items.length
        · have hlt' : (k : Int) < (items.length : Int) := by omega
          obtain ⟨x, hx⟩ : ∃ x, items[k]? = some x := ⟨_, List.getElem?_eq_getElem hlt⟩
          obtain ⟨gx, hpx, _, _⟩ := HL.list.items.2 k x hx
          obtain ⟨gr, cr, hv, _, _, _, _⟩ := own_cells HL.list.own (by omega)
          injection hv with hv1 hv2 hv3
          subst hv1 hv3
          have HDR := hid (show items.drop k = x :: items.drop (k + 1) by rw [List.drop_eq_getElem_cons hlt, (List.getElem?_eq_some_iff.1 hx).2])
          obtain ⟨hx1, hx2⟩ := hi x (List.mem_of_getElem? hx)
          have HXT := hid hx
          have HPX := hid hpx
          have HB1 := HL
          clear hx hpx HL
          have q3 : World.cell? wr ⟨b, 3, none⟩ = some (.slice (some ⟨gr, 0, none⟩) items.length c0) := blk_cell HB1.list.row 3; have q0 : World.cell? wr ⟨gi, 0, none⟩ = some (.int .i64 it.1) := blk_cell (HB1.list.itemAt HIT.out HPI.out) 0; have qp : World.cell? wr ⟨gr, k, none⟩ = some (.pointer (some ⟨gx, 0, none⟩)) := HB1.list.cellAt HPX.out; have qx0 : World.cell? wr ⟨gx, 0, none⟩ = some (.int .i64 x.1) := blk_cell (HB1.list.itemAt HXT.out HPX.out) 0; have qx1 : World.cell? wr ⟨gx, 1, none⟩ = some (.string ⟨x.2.toArray⟩) := blk_cell (HB1.list.itemAt HXT.out HPX.out) 1
          by_cases heq : x.1 = it.1
          · have e1 : ((x.1 : Int) == (it.1 : Int)) = true := by simp [heq]
            have HT2 := hid (show acc2 ++ liLine it.1 x.2 ++ (hb cls it.1 (items.drop (k + 1))).1 = acc ++ (openUl cls it.1 ++ (hb cls it.1 (items.drop idx)).1) ∧ n + 1 + (hb cls it.1 (items.drop (k + 1))).2 = (hb cls it.1 (items.drop idx)).2 by
              have h := hT.out
              rw [HDR.out, hb_eq cls _ heq] at h
              refine ⟨by rw [← h.1]; simp, by rw [← h.2]; simp only; omega⟩)
            have HLen : acc2.length + (liLine it.1 x.2).length ≤ 100000000000 := by
              have h := congrArg List.length HT2.out.1
              have h2 := hlen
              simp only [List.length_append] at h h2
              omega
            have HLL := hid (show liLine it.1 x.2 = pad2 it.1 ++ ([32, 32, 60, 108, 105, 62] ++ (repAll [10] [60, 98, 114, 47, 62] (escH x.2) ++ [60, 47, 108, 105, 62, 10])) from rfl)
            have HRl : (repAll [10] [60, 98, 114, 47, 62] (escH x.2)).length ≤ 100000000000 := by
              have h := congrArg List.length HLL.out
              simp only [List.length_append] at h
              omega
            have HRl2 : acc2.length + 2 * it.1 + (repAll [10] [60, 98, 114, 47, 62] (escH x.2)).length ≤ 100000000000 := by
              have h := congrArg List.length HLL.out
              simp only [List.length_append] at h
              omega
            have hel2 := escH_len x.2
            have KE2 := hid (fun w => zzEscape_calls x.2 w (by omega))
            have KRp := hid (fun w => lzzReplaceAll_calls (escH x.2) [10] [60, 98, 114, 47, 62] w (by simp) (by omega) (by simp) (by omega))
            generalize HG : repAll [10] [60, 98, 114, 47, 62] (escH x.2) = rp at *
            clear HG
            clear hT heq
            go_wp2_with fail
            go_quiet (fail)
            replace HB1 := HB1.call (bdrew (Below.refl _ _) nq)
            go_wp2_with (first
              | (go_at_call 65; (with_reducible refine (WS_LB HB1 _ (by first | omega | (simp only [List.length_append, List.length_cons, List.length_nil]; omega))).mono ?_); rintro e wn ⟨rfl, HBn⟩; replace HB1 := HBn; clear HBn; have q3 : World.cell? wn ⟨b, 3, none⟩ = some (.slice (some ⟨gr, 0, none⟩) items.length c0) := blk_cell HB1.list.row 3; have q0 : World.cell? wn ⟨gi, 0, none⟩ = some (.int .i64 it.1) := blk_cell (HB1.list.itemAt HIT.out HPI.out) 0; have qp : World.cell? wn ⟨gr, k, none⟩ = some (.pointer (some ⟨gx, 0, none⟩)) := HB1.list.cellAt HPX.out; have qx0 : World.cell? wn ⟨gx, 0, none⟩ = some (.int .i64 x.1) := blk_cell (HB1.list.itemAt HXT.out HPX.out) 0; have qx1 : World.cell? wn ⟨gx, 1, none⟩ = some (.string ⟨x.2.toArray⟩) := blk_cell (HB1.list.itemAt HXT.out HPX.out) 1)
              | (go_at_call 67; (with_reducible refine (KE2.out _).mono ?_); rintro e wn ⟨rfl, hbn⟩; replace HB1 := HB1.call hbn; clear hbn; have q3 : World.cell? wn ⟨b, 3, none⟩ = some (.slice (some ⟨gr, 0, none⟩) items.length c0) := blk_cell HB1.list.row 3; have q0 : World.cell? wn ⟨gi, 0, none⟩ = some (.int .i64 it.1) := blk_cell (HB1.list.itemAt HIT.out HPI.out) 0; have qp : World.cell? wn ⟨gr, k, none⟩ = some (.pointer (some ⟨gx, 0, none⟩)) := HB1.list.cellAt HPX.out; have qx0 : World.cell? wn ⟨gx, 0, none⟩ = some (.int .i64 x.1) := blk_cell (HB1.list.itemAt HXT.out HPX.out) 0; have qx1 : World.cell? wn ⟨gx, 1, none⟩ = some (.string ⟨x.2.toArray⟩) := blk_cell (HB1.list.itemAt HXT.out HPX.out) 1)
              | (go_at_call 61; (with_reducible refine (KRp.out _).mono ?_); rintro e wn ⟨rfl, hbn⟩; replace HB1 := HB1.call hbn; clear hbn; have q3 : World.cell? wn ⟨b, 3, none⟩ = some (.slice (some ⟨gr, 0, none⟩) items.length c0) := blk_cell HB1.list.row 3; have q0 : World.cell? wn ⟨gi, 0, none⟩ = some (.int .i64 it.1) := blk_cell (HB1.list.itemAt HIT.out HPI.out) 0; have qp : World.cell? wn ⟨gr, k, none⟩ = some (.pointer (some ⟨gx, 0, none⟩)) := HB1.list.cellAt HPX.out; have qx0 : World.cell? wn ⟨gx, 0, none⟩ = some (.int .i64 x.1) := blk_cell (HB1.list.itemAt HXT.out HPX.out) 0; have qx1 : World.cell? wn ⟨gx, 1, none⟩ = some (.string ⟨x.2.toArray⟩) := blk_cell (HB1.list.itemAt HXT.out HPX.out) 1))
            go_roundw
            case rel => exact ⟨n + 1, k + 1, acc2 ++ liLine it.1 x.2, by go_num, by go_num, by omega, by rw [HLL.out]; simpa using HB1, hid HT2.out, hid (by rw [hK.out]; omega)⟩
            case measure => simp [intOf]; omega
          · have e1 : ((x.1 : Int) == (it.1 : Int)) = false := by rw [beq_eq_false_iff_ne]; omega
            by_cases hgt : it.1 < x.1
            · have hgt' : (it.1 : Int) < (x.1 : Int) := by omega
              have hn1 : 1 ≤ n := by
                rcases Nat.eq_zero_or_pos n with h0 | h0
                · exfalso
                  have h1 := HXT.out
                  rw [hK.out, h0, Nat.add_zero, HIT.out] at h1
                  injection h1 with h1
                  subst h1
                  omega
                · exact h0
              have hr1 : 1 ≤ (hb cls x.1 (items.drop k)).2 := by rw [HDR.out]; exact hb_pos cls x _
              have hr2 : (hb cls x.1 (items.drop k)).2 ≤ items.length - k := by have := hb_le cls x.1 (items.drop k); rw [List.length_drop] at this; exact this
              have hd2 : (items.drop k).drop (hb cls x.1 (items.drop k)).2 = items.drop (k + (hb cls x.1 (items.drop k)).2) := by rw [List.drop_drop]
              have HT2 : acc2 ++ (openUl cls x.1 ++ ((hb cls x.1 (items.drop k)).1 ++ closeUl x.1)) ++ [10] ++ (hb cls it.1 (items.drop (k + (hb cls x.1 (items.drop k)).2))).1 = acc ++ (openUl cls it.1 ++ (hb cls it.1 (items.drop idx)).1) ∧ n + (hb cls x.1 (items.drop k)).2 + (hb cls it.1 (items.drop (k + (hb cls x.1 (items.drop k)).2))).2 = (hb cls it.1 (items.drop idx)).2 := by
                have h := hT.out
                have h3 := hb_gt cls (items.drop (k + 1)) hgt
                rw [← HDR.out, hd2] at h3
                rw [h3] at h
                exact ⟨by rw [← h.1]; simp, by rw [← h.2]; simp only; omega⟩
              have HLen : (acc2 ++ (openUl cls x.1 ++ ((hb cls x.1 (items.drop k)).1 ++ closeUl x.1))).length ≤ 100000000000 := by
                have h := congrArg List.length HT2.1
                have h2 := hlen
                simp only [List.length_append] at h h2 ⊢
                omega
              have hkI : items.length - k ≤ m := by have := hK.out; omega
              have KI2 := hid (fun (w1 : World) H => IH.out k x gx acc2 w1 hkI HXT.out HPX.out HLen H)
              clear hT hd2 hkI IH
              generalize hr : (hb cls x.1 (items.drop k)).2 = r at *
              generalize hU : openUl cls x.1 ++ ((hb cls x.1 (items.drop k)).1 ++ closeUl x.1) = U at *
              have HT3 := hid HT2
              have HUL : (acc2 ++ U).length ≤ 100000000000 := HLen
              clear hr hU HT2 HLen heq
              have hnr : (0 : Int) < (n : Int) + (r : Int) := by omega
              go_wp2_with fail
              go_quiet (fail)
              go_wp2_with fail
              go_quiet (fail)
              have HD := hid (fun m => HB1.call (bdrew (Below.refl wr.heap.size wr) m))
              clear HB1
              go_wp2_with (first
                | (go_at_call 50; (with_reducible refine (KI2.out _ (HD.out _)).mono ?_); rintro e wn ⟨rfl, HB1⟩)
                | (go_at_call 58; (with_reducible refine (WR_LB HB1 10 (by omega) (by omega) (by omega)).mono ?_); rintro e wn ⟨⟨nb, rfl⟩, HB2⟩))
              go_roundw
              case rel => exact ⟨n + r, k + r, acc2 ++ U ++ [10], by go_num, by go_num, by omega, by simpa using HB2, hid HT3.out, hid (by rw [hK.out]; omega)⟩
              case measure => simp [intOf]; omega
            · have hgt' : ¬ (it.1 : Int) < (x.1 : Int) := by omega
              have HF := hid (show acc2 ++ closeUl it.1 = acc ++ (openUl cls it.1 ++ ((hb cls it.1 (items.drop idx)).1 ++ closeUl it.1)) ∧ (n : Int) = ((hb cls it.1 (items.drop idx)).2 : Int) by
                have h := hT.out
                rw [HDR.out, hb_lt cls _ (by omega)] at h
                simp only [List.append_nil, Nat.add_zero] at h
                rw [h.1, ← h.2]
                exact ⟨by simp, rfl⟩)
              have hA2 : acc2.length ≤ 100000000000 := by
                have h := congrArg List.length HF.out.1
                have h2 := hlen
                rw [List.length_append] at h
                omega
              clear hT heq
              go_wp2_with fail
              go_quiet (fail)
              go_wp2_with fail
              go_quiet (fail)
              have HD := hid (fun m => HB1.call (bdrew (Below.refl wr.heap.size wr) m))
              clear HB1
              go_wp2_with (first
                | (go_at_call 65; (with_reducible refine (WS_LB (HD.out _) _ (by first | omega | (simp only [List.length_append, List.length_cons, List.length_nil]; omega))).mono ?_); rintro e wn ⟨rfl, HB1⟩)
                | (go_at_call 65; (with_reducible refine (WS_LB HB1 _ (by first | omega | (simp only [List.length_append, List.length_cons, List.length_nil]; omega))).mono ?_); rintro e wn ⟨rfl, HBn⟩; replace HB1 := HBn; clear HBn))
              go_ret
              refine ⟨ret_int HF.out.2, ?_⟩
              rw [← HF.out.1]
              simpa [closeUl] using HB1
        · have hlt' : ¬ (k : Int) < (items.length : Int) := by omega
          have hc3 : World.cell? wr ⟨b, 3, none⟩ = some (.slice A0 items.length c0) := blk_cell HL.list.row 3
          have HB1 := HL
          have HF := hid (show acc2 ++ closeUl it.1 = acc ++ (openUl cls it.1 ++ ((hb cls it.1 (items.drop idx)).1 ++ closeUl it.1)) ∧ (n : Int) = ((hb cls it.1 (items.drop idx)).2 : Int) by
            have h := hT.out
            rw [List.drop_eq_nil_of_le (show items.length ≤ k by omega), hb_nil] at h
            simp only [List.append_nil, Nat.add_zero] at h
            rw [h.1, ← h.2]
            exact ⟨by simp, rfl⟩)
          have hA2 : acc2.length ≤ 100000000000 := by
            have h := congrArg List.length HF.out.1
            have h2 := hlen
            rw [List.length_append] at h
            omega
          clear hT HL
          go_wp2_with (go_at_call 65; (with_reducible refine (WS_LB HB1 _ (by first | omega | (simp only [List.length_append, List.length_cons, List.length_nil]; omega))).mono ?_); rintro e wn ⟨rfl, HBn⟩; replace HB1 := HBn; clear HBn)
          go_ret
          refine ⟨ret_int HF.out.2, ?_⟩
          rw [← HF.out.1]
          simpa [closeUl] using HB1
end Go.Proofs.YthjpchabeemfmaaGreatDoor

namespace Go.Proofs.YthjpchabeemfmaaGreatDoor

/-- a list of HTML -/
def htmlOf (cls : List UInt8) (items : List It) : List UInt8 := match items with
  | [] => []
  | it :: t => openUl cls it.1 ++ ((hb cls it.1 (it :: t)).1 ++ closeUl it.1)
end Go.Proofs.YthjpchabeemfmaaGreatDoor
