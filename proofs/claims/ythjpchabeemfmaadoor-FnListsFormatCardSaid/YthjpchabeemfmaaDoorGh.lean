import Derived.Test.YthjpchabeemfmaaDoorGc
import Derived.Test.YthjpchabeemfmaaDoorGb
import Derived.Test.YthjpchabeemfmaaDoorGa
import Derived.Deep.QuietTactic
import Derived.BigQuiet
import Derived.WalkSmall
import Derived.Deep.Cut
import Derived.Deep.CutRange
import Derived.Deep.DeepCutAuto
namespace Go.Proofs.YthjpchabeemfmaaDoor
open Go.RowKit
set_option linter.unusedVariables false
set_option linter.unusedSimpArgs false
set_option maxHeartbeats 4000000
set_option maxRecDepth 100000

/-- a list stays, where a builder alone has been written on -/
theorem LAt.others {w w' : World} {base b bb : Nat} {items : List It} {lev : Nat} {cls : List UInt8} {st : Value} {ap : Int} {sp : ByteArray} {iv : Value} {ps : List Value} (H : LAt w base b items lev cls st ap sp iv ps)
    (h : Lib.OthersKept 5 (some bb) w w') {cb : Array Value} {fb : Nat × Nat} (hbb : w.heap[bb]? = some (.cells cb 58 fb)) : LAt w' base b items lev cls st ap sp iv ps := by
  have go : ∀ (g : Nat) (cs : Array Value) (t : Nat) (fz : Nat × Nat), w.heap[g]? = some (.cells cs t fz) → t ≠ 58 → t ≠ 5 → w'.heap[g]? = some (.cells cs t fz) := fun g cs t fz h0 h1 h2 => by
    refine h g _ h0 (fun e => ?_) (fun c fz' e => ?_)
    · injection e with e
      exact ty_ne h0 hbb h1 e
    · injection e with _ e2 _
      exact h2 e2
  refine ⟨go _ _ _ _ H.row (by decide) (by decide), H.le, own_step H.own fun k hk => ?_, H.items.1, fun i x hx => ?_⟩
  · obtain ⟨C, fz, hC⟩ := own_typed H.own k hk
    exact (go _ _ _ _ hC (by decide) (by decide)).trans hC.symm
  · obtain ⟨gi, h1, h2, h3⟩ := H.items.2 i x hx
    exact ⟨gi, h1, h2, go _ _ _ _ h3 (by decide) (by decide)⟩

/-! what a list of HTML is -/
def pad2 (n : Nat) : List UInt8 := Lib.repeatL [32, 32] n
def liLine (lev : Nat) (t : List UInt8) : List UInt8 := pad2 lev ++ ([32, 32, 60, 108, 105, 62] ++ (repAll [10] [60, 98, 114, 47, 62] (escH t) ++ [60, 47, 108, 105, 62, 10]))
def openUl (cls : List UInt8) (lev : Nat) : List UInt8 := pad2 lev ++ ([60, 117, 108, 32, 99, 108, 97, 115, 115, 61, 34] ++ (escH cls ++ ((if 0 < lev then 45 :: Lib.decDigits lev else []) ++ [34, 62, 10])))
def closeUl (lev : Nat) : List UInt8 := pad2 lev ++ [60, 47, 117, 108, 62]
/-- the items of a level, and what stands deeper; how many were taken -/
def hbody (cls : List UInt8) : Nat → Nat → List It → List UInt8 × Nat
  | 0, _, _ => ([], 0)
  | _ + 1, _, [] => ([], 0)
  | f + 1, lev, x :: t =>
    if x.1 = lev then (liLine lev x.2 ++ (hbody cls f lev t).1, (hbody cls f lev t).2 + 1)
    else if lev < x.1 then
      let s := hbody cls f x.1 (x :: t)
      let r := hbody cls f lev ((x :: t).drop s.2)
      (openUl cls x.1 ++ (s.1 ++ (closeUl x.1 ++ (10 :: r.1))), s.2 + r.2)
    else ([], 0)

theorem pad2_len (n : Nat) : (pad2 n).length = 2 * n := by
  unfold pad2
  induction n with
  | zero => rfl
  | succ n ih => simp only [Lib.repeatL, List.length_append, ih]; simp; omega
theorem Pad_calls (n : Nat) (w : World) (h : n ≤ 1000000) : Calls Tryd.prog 53 #[.string ⟨#[32, 32]⟩, .int .i64 n] w fun e w' => e = .returned (.string ⟨(pad2 n).toArray⟩) ∧ Below w.heap.size w w' := by
  have := Tryd.strings_Repeat ⟨#[32, 32]⟩ n w (by omega) (by simp [ByteArray.size]; omega)
  exact this

theorem hbody_pos (cls : List UInt8) (f lev : Nat) (x : It) (t : List It) (h : x.1 = lev) : 1 ≤ (hbody cls (f + 1) lev (x :: t)).2 := by
  unfold hbody
  rw [if_pos h]
  simp
theorem hbody_le (cls : List UInt8) : ∀ (f lev : Nat) (l : List It), (hbody cls f lev l).2 ≤ l.length
  | 0, _, _ => by simp [hbody]
  | f + 1, lev, [] => by simp [hbody]
  | f + 1, lev, x :: t => by
    unfold hbody
    split
    · have := hbody_le cls f lev t
      simp; omega
    · split
      · have h1 := hbody_le cls f x.1 (x :: t)
        have h2 := hbody_le cls f lev ((x :: t).drop (hbody cls f x.1 (x :: t)).2)
        rw [List.length_drop] at h2
        simp only
        omega
      · simp

def hneed (lev : Nat) : List It → Nat
  | [] => 1
  | x :: t => 2 * (t.length + 1) + (if x.1 = lev then 0 else 1)
theorem hneed_le (lev : Nat) (l : List It) : hneed lev l ≤ 2 * l.length + 1 := by
  cases l with
  | nil => simp [hneed]
  | cons x t => simp only [hneed, List.length_cons]; split <;> omega
theorem hbody_fuel (cls : List UInt8) : ∀ (f lev : Nat) (l : List It) (g : Nat), hneed lev l ≤ f → hneed lev l ≤ g → hbody cls f lev l = hbody cls g lev l
  | 0, lev, [], g, h, _ => by simp [hneed] at h
  | 0, lev, x :: t, g, h, _ => by simp [hneed] at h
  | f + 1, lev, [], g, _, h => by
    cases g with
    | zero => simp [hneed] at h
    | succ g => simp [hbody]
  | f + 1, lev, x :: t, g, hf, hg => by
    cases g with
    | zero => simp [hneed] at hg
    | succ g =>
      by_cases hx : x.1 = lev
      · have h1 := hneed_le lev t
        simp only [hneed, if_pos hx] at hf hg
        have ih := hbody_fuel cls f lev t g (by omega) (by omega)
        conv => lhs; unfold hbody
        conv => rhs; unfold hbody
        rw [if_pos hx, if_pos hx, ih]
      · simp only [hneed, if_neg hx] at hf hg
        by_cases hlt : lev < x.1
        · have ih := hbody_fuel cls f x.1 (x :: t) g (by simp [hneed]; omega) (by simp [hneed]; omega)
          obtain ⟨f', rfl⟩ : ∃ n, f = n + 1 := ⟨f - 1, by omega⟩
          have hp := hbody_pos cls f' x.1 x t rfl
          have hd := hneed_le lev ((x :: t).drop (hbody cls (f' + 1) x.1 (x :: t)).2)
          rw [List.length_drop, List.length_cons] at hd
          have ih2 := hbody_fuel cls (f' + 1) lev ((x :: t).drop (hbody cls (f' + 1) x.1 (x :: t)).2) g (by omega) (by omega)
          conv => lhs; unfold hbody
          conv => rhs; unfold hbody
          rw [if_neg hx, if_neg hx, if_pos hlt, if_pos hlt]
          simp only
          rw [← ih, ih2]
        · conv => lhs; unfold hbody
          conv => rhs; unfold hbody
          rw [if_neg hx, if_neg hx, if_neg hlt, if_neg hlt]

/-- the same with its own fuel -/
def hb (cls : List UInt8) (lev : Nat) (l : List It) : List UInt8 × Nat := hbody cls (2 * l.length + 1) lev l
theorem hb_nil (cls : List UInt8) (lev : Nat) : hb cls lev [] = ([], 0) := by simp [hb, hbody]
theorem hb_eq (cls : List UInt8) {lev : Nat} {x : It} (t : List It) (h : x.1 = lev) : hb cls lev (x :: t) = (liLine lev x.2 ++ (hb cls lev t).1, (hb cls lev t).2 + 1) := by
  unfold hb
  have e := hbody_fuel cls (2 * (t.length + 1)) lev t (2 * t.length + 1) (by have := hneed_le lev t; omega) (hneed_le lev t)
  conv => lhs; unfold hbody
  rw [if_pos h, List.length_cons, e]
theorem hb_gt (cls : List UInt8) {lev : Nat} {x : It} (t : List It) (h : lev < x.1) : hb cls lev (x :: t) = (openUl cls x.1 ++ ((hb cls x.1 (x :: t)).1 ++ (closeUl x.1 ++ (10 :: (hb cls lev ((x :: t).drop (hb cls x.1 (x :: t)).2)).1))), (hb cls x.1 (x :: t)).2 + (hb cls lev ((x :: t).drop (hb cls x.1 (x :: t)).2)).2) := by
  have e1 := hbody_fuel cls (2 * (t.length + 1)) x.1 (x :: t) (2 * (x :: t).length + 1) (by simp [hneed]) (by simp [hneed])
  have hp := hbody_pos cls (2 * t.length + 1) x.1 x t rfl
  rw [show 2 * t.length + 1 + 1 = 2 * (t.length + 1) by omega] at hp
  have hd := hneed_le lev ((x :: t).drop (hbody cls (2 * (t.length + 1)) x.1 (x :: t)).2)
  have e2 := hbody_fuel cls (2 * (t.length + 1)) lev ((x :: t).drop (hbody cls (2 * (t.length + 1)) x.1 (x :: t)).2) (2 * ((x :: t).drop (hbody cls (2 * (t.length + 1)) x.1 (x :: t)).2).length + 1) (by rw [List.length_drop, List.length_cons] at hd; omega) hd
  have hne : x.1 ≠ lev := by omega
  show hbody cls (2 * (t.length + 1) + 1) lev (x :: t) = _
  conv => lhs; unfold hbody
  rw [if_neg hne, if_pos h]
  simp only
  unfold hb
  rw [← e1, e2]
theorem hb_lt (cls : List UInt8) {lev : Nat} {x : It} (t : List It) (h : x.1 < lev) : hb cls lev (x :: t) = ([], 0) := by
  unfold hb
  conv => lhs; unfold hbody
  rw [if_neg (by omega), if_neg (by omega)]
theorem hb_pos (cls : List UInt8) (x : It) (t : List It) : 1 ≤ (hb cls x.1 (x :: t)).2 := hbody_pos cls _ x.1 x t rfl
theorem hb_le (cls : List UInt8) (lev : Nat) (l : List It) : (hb cls lev l).2 ≤ l.length := hbody_le cls _ lev l
end Go.Proofs.YthjpchabeemfmaaDoor

namespace Go.Proofs.YthjpchabeemfmaaDoor
open Go.RowKit
set_option linter.unusedVariables false
set_option linter.unusedSimpArgs false
set_option maxHeartbeats 4000000
set_option maxRecDepth 100000

theorem LAt.itemAt {w : World} {base b : Nat} {items : List It} {lev : Nat} {cls : List UInt8} {st : Value} {ap : Int} {sp : ByteArray} {iv : Value} {ps : List Value} (H : LAt w base b items lev cls st ap sp iv ps) {k gi : Nat} {it : It} (hk : items[k]? = some it) (hp : ps[k]? = some (.pointer (some ⟨gi, 0, none⟩))) : w.heap[gi]? = some (.cells (itemCells it) 62 (0, 0)) := by
  obtain ⟨g, h1, _, h2⟩ := H.items.2 k it hk
  rw [hp] at h1
  injection h1 with h3
  injection h3 with h4
  injection h4 with h5
  injection h5 with h6
  subst h6
  exact h2
/-- a builder's block is one of builders -/
theorem Bld.block {w : World} {B b : Nat} {l : List UInt8} (h : Bld w B b l) : ∃ cs fz, w.heap[b]? = some (.cells cs 58 fz) := by
  rcases h with ⟨_, v, hb, _⟩ | ⟨_, v, hb, _⟩
  · exact ⟨_, _, hb⟩
  · exact ⟨_, _, hb⟩
/-- a list and a builder beside it -/
structure LB (w0 w : World) (base b bb : Nat) (items : List It) (lev : Nat) (cls : List UInt8) (st : Value) (ap : Int) (sp : ByteArray) (iv : Value) (ps : List Value) (acc : List UInt8) : Prop where
  list : LAt w base b items lev cls st ap sp iv ps
  bld : Bld w base bb acc
  below : Below base w0 w
  size : base ≤ w.heap.size
theorem LB.call {w0 w w' : World} {base b bb : Nat} {items : List It} {lev : Nat} {cls : List UInt8} {st : Value} {ap : Int} {sp : ByteArray} {iv : Value} {ps : List Value} {acc : List UInt8} (h : LB w0 w base b bb items lev cls st ap sp iv ps acc) (hb : Below w.heap.size w w') : LB w0 w' base b bb items lev cls st ap sp iv ps acc :=
  ⟨h.list.below hb, h.bld.below hb, h.below.trans (hb.mono h.size), Nat.le_trans h.size hb.size⟩
theorem LB.write {w0 w w' : World} {base b bb : Nat} {items : List It} {lev : Nat} {cls : List UInt8} {st : Value} {ap : Int} {sp : ByteArray} {iv : Value} {ps : List Value} {acc acc' : List UInt8} (h : LB w0 w base b bb items lev cls st ap sp iv ps acc) (hb : Bld w' base bb acc') (hl : Below base w w') (ho : Lib.OthersKept 5 (some bb) w w') : LB w0 w' base b bb items lev cls st ap sp iv ps acc' := by
  obtain ⟨cs, fz, hbb⟩ := h.bld.block
  exact ⟨h.list.others ho hbb, hb, h.below.trans hl, Nat.le_trans h.size hl.size⟩
theorem WS_LB {w0 w : World} {base b bb : Nat} {items : List It} {lev : Nat} {cls : List UInt8} {st : Value} {ap : Int} {sp : ByteArray} {iv : Value} {ps : List Value} {acc : List UInt8} (h : LB w0 w base b bb items lev cls st ap sp iv ps acc) (s : List UInt8) (hl : acc.length + s.length ≤ 140737488355328) :
    Calls Tryd.prog 42 #[.pointer (some ⟨bb, 0, none⟩), .string ⟨s.toArray⟩] w fun e w' => e = .returned (.tuple #[.int .i64 s.length, .nilIface]) ∧ LB w0 w' base b bb items lev cls st ap sp iv ps (acc ++ s) := by
  refine (WriteString_calls base bb acc s w h.bld hl h.size).mono ?_
  rintro e w' ⟨rfl, h1, h2, h3, _⟩
  exact ⟨rfl, h.write h1 h2 h3⟩
theorem WR_LB {w0 w : World} {base b bb : Nat} {items : List It} {lev : Nat} {cls : List UInt8} {st : Value} {ap : Int} {sp : ByteArray} {iv : Value} {ps : List Value} {acc : List UInt8} (h : LB w0 w base b bb items lev cls st ap sp iv ps acc) (r : Int) (hr0 : 0 ≤ r) (hr : r < 128) (hl : acc.length + 4 ≤ 140737488355328) :
    Calls Tryd.prog 57 #[.pointer (some ⟨bb, 0, none⟩), .int .i32 r] w fun e w' => (∃ n : Nat, e = .returned (.tuple #[.int .i64 n, .nilIface])) ∧ LB w0 w' base b bb items lev cls st ap sp iv ps (acc ++ [r.toNat.toUInt8]) := by
  refine (WriteRune_calls base bb acc r (by omega) (by omega) w h.bld hl h.size).mono ?_
  rintro e w' ⟨h0, h1, h2, h3, _⟩
  rw [Lib.encodeRune, Lib.encodeRuneZ_one (by omega) (by omega)] at h1
  exact ⟨h0, h.write h1 h2 h3⟩
end Go.Proofs.YthjpchabeemfmaaDoor

namespace Go.Proofs.YthjpchabeemfmaaDoor
open Go.RowKit
set_option linter.unusedVariables false
set_option linter.unusedSimpArgs false
set_option maxHeartbeats 4000000
set_option maxRecDepth 100000
attribute [local go_sem] S_extract S_append run_cut_S run_head_S run_tail_S Nat.add_sub_cancel_left

theorem LAt.cellAt {w : World} {base b : Nat} {items : List It} {lev : Nat} {cls : List UInt8} {st : Value} {ap : Int} {sp : ByteArray} {gr c0 : Nat} {ps : List Value} (H : LAt w base b items lev cls st ap sp (.slice (some ⟨gr, 0, none⟩) items.length c0) ps) {k : Nat} {v : Value} (hp : ps[k]? = some v) : w.cell? ⟨gr, k, none⟩ = some v := by
  have hk : k < items.length := by have := (List.getElem?_eq_some_iff.1 hp).1; rw [H.items.1] at this; exact this
  obtain ⟨g, c, hv, _, _, _, hc⟩ := own_cells H.own (by omega)
  injection hv with hv1 _ _
  injection hv1 with hv1
  injection hv1 with hv1
  subst hv1
  exact hc k v hp

end Go.Proofs.YthjpchabeemfmaaDoor

namespace Go.Proofs.YthjpchabeemfmaaDoor

/-- a list of HTML -/
def htmlOf (cls : List UInt8) (items : List It) : List UInt8 := match items with
  | [] => []
  | it :: t => openUl cls it.1 ++ ((hb cls it.1 (it :: t)).1 ++ closeUl it.1)
end Go.Proofs.YthjpchabeemfmaaDoor
