import Derived.Test.YtmljkiohekogbaaGreatDoorMn
import Derived.Lib.SlBytesConst
namespace Go.Proofs.YtmljkiohekogbaaGreatDoor
open Go.RowKit Go.Maps
set_option linter.unusedVariables false
set_option linter.unusedSimpArgs false
set_option maxHeartbeats 4000000
set_option maxRecDepth 100000
attribute [local go_sem] S_extract S_append run_cut_S run_head_S run_tail_S Nat.add_sub_cancel_left

theorem bytesOf_nums (l : List UInt8) : Lib.bytesOf (l.map fun b => (b.toNat : Int)) = l := by
  unfold Lib.bytesOf
  rw [List.map_map]
  have : ((fun n : Int => UInt8.ofNat n.toNat) ∘ fun b : UInt8 => (b.toNat : Int)) = id := by funext b; simp
  rw [this, List.map_id]
theorem bytesIn_own {w : World} {base : Nat} {A : Option Addr} {c : Nat} {l : List UInt8} (h : OwnB w 5 base (.slice A l.length c) l) : Lib.BytesIn w A l.length (l.map fun b => (b.toNat : Int)) := by
  intro hn
  obtain ⟨g, c', hv, _, _, _, hc⟩ := own_cells h hn
  injection hv with h1 _ _
  refine ⟨g, 0, h1, fun i hi => ?_⟩
  rw [Nat.zero_add, hc i (.int .u8 (l[i].toNat : Int)) (by unfold Lib.byteCells; rw [List.getElem?_map, List.getElem?_eq_getElem hi]; rfl)]
  simp [hi]
theorem bytesIn_blk {w : World} {g : Nat} {ys : List UInt8} (h : ∀ (i : Nat) b, ys[i]? = some b → w.cell? ⟨g, i, none⟩ = some (.int .u8 (b.toNat : Int))) : Lib.BytesIn w (some ⟨g, 0, none⟩) ys.length (ys.map fun b => (b.toNat : Int)) := by
  intro hn
  refine ⟨g, 0, rfl, fun i hi => ?_⟩
  rw [Nat.zero_add, h i ys[i] (List.getElem?_eq_getElem hi)]
  simp [hi]
theorem HasPre_at (W : World) (base g d : Nat) (ev : Value) (l ys : List UInt8) (h : OwnB W 5 base ev l) (hg : ∀ (i : Nat) b, ys[i]? = some b → W.cell? ⟨g, i, none⟩ = some (.int .u8 (b.toNat : Int))) :
    Calls Tryz.prog 29 #[ev, .slice (some ⟨g, 0, none⟩) ys.length d] W fun e w' => e = .returned (.bool (ys.isPrefixOf l)) ∧ W = w' := by
  obtain ⟨A, c, rfl, hc, _⟩ := own_slice h
  refine (Tryz.bytes_HasPrefix_all A (some ⟨g, 0, none⟩) l.length c ys.length d (l.map fun b => (b.toNat : Int)) (ys.map fun b => (b.toNat : Int)) W (by rw [List.length_map]) (by rw [List.length_map]) hc (bytesIn_own h) (bytesIn_blk hg)).mono ?_
  rintro e w' ⟨rfl, rfl⟩
  rw [bytesOf_nums, bytesOf_nums]
  exact ⟨rfl, rfl⟩
theorem HasSuf_at (W : World) (base g d : Nat) (ev : Value) (l ys : List UInt8) (hl : l.length ≤ 1000000000) (h : OwnB W 5 base ev l) (hg : ∀ (i : Nat) b, ys[i]? = some b → W.cell? ⟨g, i, none⟩ = some (.int .u8 (b.toNat : Int))) :
    Calls Tryz.prog 44 #[ev, .slice (some ⟨g, 0, none⟩) ys.length d] W fun e w' => e = .returned (.bool (ys.isSuffixOf l)) ∧ W = w' := by
  obtain ⟨A, c, rfl, hc, _⟩ := own_slice h
  refine (Tryz.bytes_HasSuffix_all A (some ⟨g, 0, none⟩) l.length c ys.length d (l.map fun b => (b.toNat : Int)) (ys.map fun b => (b.toNat : Int)) W (by rw [List.length_map]) (by rw [List.length_map]) hc (by omega) (bytesIn_own h) (bytesIn_blk hg)).mono ?_
  rintro e w' ⟨rfl, rfl⟩
  rw [bytesOf_nums, bytesOf_nums]
  exact ⟨rfl, rfl⟩
theorem const4 (w : World) (fz : Nat × Nat) : ∀ (i : Nat) b, conceal[i]? = some b → (w.alloc (.cells #[.int .u8 27, .int .u8 93, .int .u8 56, .int .u8 59] 5 fz)).cell? ⟨w.heap.size, i, none⟩ = some (.int .u8 (b.toNat : Int)) := by
  intro i b hi
  rw [blk_cell (alloc_heap_new w _) i]
  have : (#[.int .u8 27, .int .u8 93, .int .u8 56, .int .u8 59] : Array Value)[i]? = (conceal.map fun b => (.int .u8 (b.toNat : Int) : Value))[i]? := by simp [conceal]
  rw [this, List.getElem?_map, hi]
  rfl
theorem const2 (w : World) (fz : Nat × Nat) : ∀ (i : Nat) b, ([27, 92] : List UInt8)[i]? = some b → (w.alloc (.cells #[.int .u8 27, .int .u8 92] 5 fz)).cell? ⟨w.heap.size, i, none⟩ = some (.int .u8 (b.toNat : Int)) := by
  intro i b hi
  rw [blk_cell (alloc_heap_new w _) i]
  have : (#[.int .u8 27, .int .u8 92] : Array Value)[i]? = (([27, 92] : List UInt8).map fun b => (.int .u8 (b.toNat : Int) : Value))[i]? := by simp
  rw [this, List.getElem?_map, hi]
  rfl
theorem conceal_calls (w : World) (base : Nat) (ev : Value) (l : List UInt8) (h : OwnB w 5 base ev l) (fz : Nat × Nat) : Calls Tryz.prog 29 #[ev, .slice (some ⟨w.heap.size, 0, none⟩) 4 4] (w.alloc (.cells #[.int .u8 27, .int .u8 93, .int .u8 56, .int .u8 59] 5 fz)) fun e w' => e = .returned (.bool (conceal.isPrefixOf l)) ∧ Below w.heap.size w w' := by
  refine (HasPre_at (w.alloc (.cells #[.int .u8 27, .int .u8 93, .int .u8 56, .int .u8 59] 5 fz)) base w.heap.size 4 ev l conceal (own_below h ((Below.refl _ _).alloc (Nat.le_refl _) _)) (const4 w fz)).mono ?_
  rintro e w' ⟨rfl, rfl⟩
  exact ⟨rfl, (Below.refl _ _).alloc (Nat.le_refl _) _⟩
theorem ended_calls (w : World) (base : Nat) (ev : Value) (l : List UInt8) (hl : l.length ≤ 1000000000) (h : OwnB w 5 base ev l) (fz : Nat × Nat) : Calls Tryz.prog 44 #[ev, .slice (some ⟨w.heap.size, 0, none⟩) 2 2] (w.alloc (.cells #[.int .u8 27, .int .u8 92] 5 fz)) fun e w' => e = .returned (.bool (([27, 92] : List UInt8).isSuffixOf l)) ∧ Below w.heap.size w w' := by
  refine (HasSuf_at (w.alloc (.cells #[.int .u8 27, .int .u8 92] 5 fz)) base w.heap.size 2 ev l [27, 92] hl (own_below h ((Below.refl _ _).alloc (Nat.le_refl _) _)) (const2 w fz)).mono ?_
  rintro e w' ⟨rfl, rfl⟩
  exact ⟨rfl, (Below.refl _ _).alloc (Nat.le_refl _) _⟩
theorem stopRune_calls (base p : Nat) (cm ev : Value) (st : PSt) (r : Int) (w : World) (H : PA w base p cm ev st) (hl : st.esc.length ≤ 1000000000) :
    Calls Tryz.prog 31 #[.pointer (some ⟨p, 0, none⟩), .int .i32 r] w fun e w' => e = .returned (.bool (stopRune st.esc st.kind r)) ∧ Below w.heap.size w w' := by
  have z2 : w.cell? ⟨p, 2, none⟩ = some (.int .i64 st.kind) := H.facts.2.2.1
  have z3 : w.cell? ⟨p, 3, none⟩ = some ev := H.facts.2.2.2.1
  have kc := fun (w : World) (C : Array Value) (n c : Nat) => Lib.run_convert_bytes_const (P := Tryz.prog) w 49 5 C n c Tryz.underlying49 Tryz.underlying5
  have KH := hid (fun (fz : Nat × Nat) => conceal_calls w base ev st.esc H.own fz)
  have HH := hid H
  have HL := hid hl
  obtain ⟨A0, c0, hev, _, _⟩ := own_slice H.own
  subst hev
  clear H hl
  cases hp : conceal.isPrefixOf st.esc with
  | true =>
    rw [hp] at KH
    have HS := hid (show stopRune st.esc st.kind r = ([27, 92] : List UInt8).isSuffixOf st.esc by unfold stopRune; rw [hp]; rfl)
    have KE := hid (fun (w1 : World) (hb : Below w.heap.size w w1) (fz : Nat × Nat) => ended_calls w1 base (.slice A0 st.esc.length c0) st.esc HL.out (own_below HH.out.own hb) fz)
    clear hp
    cases hq : ([27, 92] : List UInt8).isSuffixOf st.esc
    all_goals
      rw [hq] at KE HS
      clear hq
      go_enter Tryz.func31, Tryz.ntmps31
      go_wp2_with (first
        | (go_at_call 29; (with_reducible refine (KH.out _).mono ?_); rintro e w1 ⟨rfl, hb1⟩; have y2 := cell_keep hb1 z2; have y3 := cell_keep hb1 z3; have HB1 := hid hb1; clear hb1)
        | (go_at_call 44; (with_reducible refine (KE.out _ HB1.out _).mono ?_); rintro e w2 ⟨rfl, hb2⟩; have HB2 := hid (HB1.out.trans (hb2.mono HB1.out.size)); clear hb2))
      go_ret
      exact ⟨ret_bool HS.out.symm, HB2.out⟩
  | false =>
    rw [hp] at KH
    have HS := hid (show stopRune st.esc st.kind r = ((decide (st.kind = 1) && decide (r = 109)) || (decide (st.kind = 2) && decide (r = 92))) by unfold stopRune; rw [hp]; rfl)
    clear hp
    cases k1 : (st.kind == 1)
    all_goals cases k2 : (st.kind == 2)
    all_goals cases r1 : (r == 109)
    all_goals cases r2 : (r == 92)
    all_goals
      have HF := hid (show ((decide (st.kind = 1) && decide (r = 109)) || (decide (st.kind = 2) && decide (r = 92))) = (((st.kind == 1) && (r == 109)) || ((st.kind == 2) && (r == 92))) by rfl)
      go_enter Tryz.func31, Tryz.ntmps31
      go_wp2_with (go_at_call 29; (with_reducible refine (KH.out _).mono ?_); rintro e w1 ⟨rfl, hb1⟩; have y2 := cell_keep hb1 z2; have y3 := cell_keep hb1 z3; have HB1 := hid hb1; clear hb1)
    all_goals go_ret
    all_goals exact ⟨ret_bool (by rw [HS.out, HF.out]; simp [k1, k2, r1, r2]), HB1.out⟩
end Go.Proofs.YtmljkiohekogbaaGreatDoor
