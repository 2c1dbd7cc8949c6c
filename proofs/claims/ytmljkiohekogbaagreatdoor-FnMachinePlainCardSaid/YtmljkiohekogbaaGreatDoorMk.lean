import Derived.Test.YtmljkiohekogbaaGreatDoorMj
import Derived.Test.YtmljkiohekogbaaGreatDoorMh
import Derived.Test.YtmljkiohekogbaaGreatDoorShelf
namespace Go.Proofs.YtmljkiohekogbaaGreatDoor
open Go.RowKit
set_option linter.unusedVariables false
set_option linter.unusedSimpArgs false
set_option maxHeartbeats 4000000
set_option maxRecDepth 100000
attribute [local go_sem] S_extract S_append run_cut_S run_head_S run_tail_S Nat.add_sub_cancel_left

/-! ### the listed tables -/
def TabsRaw (w : World) : Prop := Lib.TabIs Tryz.prog w "strings.asciiSpace" .u8 Lib.asciiSpaceTab ∧ Lib.Utf8Tabs 5 6 w ∧ Lib.WhiteTab 2 w
/-- the tables lie below base -/
def Tabs (base : Nat) (w : World) : Prop := ∃ w0 : World, TabsRaw w0 ∧ w0.heap.size ≤ base ∧ ∀ k, k < w0.heap.size → w.heap[k]? = w0.heap[k]?
theorem Tabs.below {base : Nat} {w w' : World} (h : Tabs base w) (hb : Below base w w') : Tabs base w' := by
  obtain ⟨w0, h1, h2, h3⟩ := h
  exact ⟨w0, h1, h2, fun k hk => (hb.block k (by omega)).trans (h3 k hk)⟩
theorem Tabs.mono {base base' : Nat} {w : World} (h : Tabs base w) (hb : base ≤ base') : Tabs base' w := by
  obtain ⟨w0, h1, h2, h3⟩ := h
  exact ⟨w0, h1, by omega, h3⟩
theorem Tabs.start {w : World} (h : TabsRaw w) : Tabs w.heap.size w := ⟨w, h, Nat.le_refl _, fun _ _ => rfl⟩
theorem same_cell {w w0 : World} (h : ∀ k, k < w0.heap.size → w.heap[k]? = w0.heap[k]?) {a : Addr} {v : Value} (hc : w0.cell? a = some v) : w.cell? a = some v :=
  (World.cell?_of_block (w := w0) (h a.block (cell_lt hc))).trans hc
theorem Tabs.raw {base : Nat} {w : World} (h : Tabs base w) : TabsRaw w := by
  obtain ⟨w0, ⟨t1, t2, t3⟩, _, h3⟩ := h
  refine ⟨?_, ⟨fun c hc => same_cell h3 (t2.1 c hc), fun i hi => ⟨same_cell h3 (t2.2 i hi).1, same_cell h3 (t2.2 i hi).2⟩⟩, ?_⟩
  · unfold Lib.TabIs World.var? at t1 ⊢
    cases hg : Tryz.prog.globalNamed "strings.asciiSpace" with
    | none => simp [hg] at t1
    | some g =>
      simp only [hg, Option.bind_some] at t1 ⊢
      have hlt : g < w0.heap.size := by
        rcases Nat.lt_or_ge g w0.heap.size with h' | h'
        · exact h'
        · simp [Array.getElem?_eq_none h'] at t1
      rw [h3 g hlt]
      exact t1
  · obtain ⟨T, oT, R, oR, a1, a2, a3, a4, a5⟩ := t3
    exact ⟨T, oT, R, oR, same_cell h3 a1, same_cell h3 a2, same_cell h3 a3, same_cell h3 a4, fun i hi => same_cell h3 (a5 i hi)⟩
theorem trimLeft_len : ∀ (f : Nat) (l : List UInt8), (Lib.trimLeftD f l).length ≤ l.length
  | 0, l => Nat.le_refl _
  | f + 1, l => by
    unfold Lib.trimLeftD
    split
    · simp
    · split
      · exact Nat.le_trans (trimLeft_len f _) (by simp)
      · exact Nat.le_refl _
theorem trimRight_len : ∀ (f : Nat) (l : List UInt8), (Lib.trimRightD f l).length ≤ l.length
  | 0, l => Nat.le_refl _
  | f + 1, l => by
    unfold Lib.trimRightD
    split
    · simp
    · split
      · exact Nat.le_trans (trimRight_len f _) (by simp)
      · exact Nat.le_refl _
theorem trim_len (l : List UInt8) : (Lib.trimSpaceD l).length ≤ l.length := Nat.le_trans (trimRight_len _ _) (trimLeft_len _ _)
theorem Trim_calls (base : Nat) (l : List UInt8) (w : World) (hl : l.length ≤ 1000000000) (ht : Tabs base w) :
    Calls Tryz.prog 54 #[.string ⟨l.toArray⟩] w fun e w' => e = .returned (.string ⟨(Lib.trimSpaceD l).toArray⟩) ∧ Below w.heap.size w w' := by
  obtain ⟨h1, h2, h3⟩ := ht.raw
  exact Tryz.strings_TrimSpace_any ⟨l.toArray⟩ w (by rw [S_size]; omega) h1 h2 h3
/-- an element of a row of one's own is written -/
theorem own_put {w : World} {base e n i : Nat} {v : Value} {xs : List Value} (h : w.ownsRow base e 1 v n xs) (hi : i < n) (u : Value) :
    ∃ g c, v = .slice (some ⟨g, 0, none⟩) n c ∧ base ≤ g ∧ n ≤ c ∧ w.frozen? ⟨g, i, none⟩ = false ∧ (∀ j y, xs[j]? = some y → w.cell? ⟨g, j, none⟩ = some y) ∧ (w.setCell ⟨g, i, none⟩ u).ownsRow base e 1 v n (xs.set i u) := by
  obtain ⟨hlen, h⟩ := h
  rcases h with ⟨_, h0⟩ | ⟨g, cap, cur, rfl, hg, hrow, hnc, hcm, hsz, htk⟩
  · omega
  · refine ⟨g, cap, rfl, hg, hnc, blk_free hrow i, fun j y hj => ?_, by rw [List.length_set]; exact hlen, .inr ⟨g, cap, cur.setIfInBounds i u, rfl, hg, blk_set hrow i u, hnc, hcm, by rw [Array.size_setIfInBounds]; exact hsz, ?_⟩⟩
    · rw [blk_cell hrow j]
      rw [← htk, List.getElem?_take] at hj
      split at hj
      · rw [← hj, Array.getElem?_toList]
      · cases hj
    · rw [← htk, Array.toList_setIfInBounds, List.take_set]
theorem splitTrim_calls (base p : Nat) (s : List UInt8) (w : World) (hs : s.length ≤ 100000000) (hbw : base ≤ w.heap.size) (ht : Tabs base w) :
    Calls Tryz.prog 41 #[.pointer (some ⟨p, 0, none⟩), .string ⟨s.toArray⟩] w fun e w' => ∃ v, e = .returned v ∧ w'.ownsRow w.heap.size 9 1 v (splitX 59 s).length (strs ((splitX 59 s).map Lib.trimSpaceD)) ∧ Below w.heap.size w w' := by
  have KS := hid (zzSplit_calls s w (by omega))
  obtain ⟨L, hL⟩ : ∃ L, L = splitX 59 s := ⟨_, rfl⟩
  have hn := (splitX_len 59 s).1
  have hE := splitX_each 59 s
  rw [← hL] at KS hn hE ⊢
  have HE := hid hE
  have HT := hid ht
  clear hL hE ht
  go_enter Tryz.func41, Tryz.ntmps41
  go_wp2_with (go_at_call 53; (with_reducible refine KS.out.mono ?_); rintro e w1 ⟨v, rfl, hown1, hb1⟩; obtain ⟨A0, c0, rfl, _⟩ := own_slice hown1; have HO1 := hid hown1; have HB1 := hid hb1; clear hown1 hb1)
  go_loopw [11] (fun u wr => ∃ k : Nat, k ≤ L.length ∧ u = .int .i64 k ∧ wr.ownsRow w.heap.size 9 1 (.slice A0 L.length c0) L.length (strs ((L.take k).map Lib.trimSpaceD ++ L.drop k)) ∧ Below w.heap.size w wr) (fun u _ => L.length - (intOf u).toNat)
  case atStart => exact ⟨0, Nat.zero_le _, rfl, by simpa using HO1.out, HB1.out⟩
  case round =>
    obtain ⟨k, hk, rfl, hown, hbr⟩ := hrel
    by_cases hlt : k < L.length
    · obtain ⟨x, hx⟩ : ∃ x, L[k]? = some x := ⟨_, List.getElem?_eq_getElem hlt⟩
      have hlt' : (k : Int) < (L.length : Int) := by omega
      obtain ⟨g, c, hv, hg, hnc, hfz, hcell, hset⟩ := own_put hown hlt (.string ⟨(Lib.trimSpaceD x).toArray⟩)
      injection hv with hv1 hv2 hv3
      subst hv1 hv3
      have hdk : L.drop k = x :: L.drop (k + 1) := by
        obtain ⟨h1, h2⟩ := List.getElem?_eq_some_iff.1 hx
        rw [List.drop_eq_getElem_cons h1, h2]
      have hlk : ((L.take k).map Lib.trimSpaceD).length = k := by simp; omega
      have hc : wr.cell? ⟨g, k, none⟩ = some (.string ⟨x.toArray⟩) := hcell k _ (by
        unfold strs
        rw [List.getElem?_map, List.getElem?_append_right (by omega), hlk, hdk]
        simp)
      have HX := hid (HE.out x (List.mem_of_getElem? hx))
      have KT := hid (Trim_calls base x wr (by have := HX.out; omega) (HT.out.below (hbr.mono hbw)))
      have HN := hid (fun (w2 : World) (hb2 : Below wr.heap.size wr w2) => (by
        have ho2 := own_below hown hb2
        obtain ⟨g', c', hv', hg', _, hfz', hcell', hset'⟩ := own_put ho2 hlt (.string ⟨(Lib.trimSpaceD x).toArray⟩)
        injection hv' with hv1' hv2' hv3'
        injection hv1' with hv1'
        injection hv1' with hv1' _ _
        subst hv1'
        refine ⟨hfz', hcell' k _ (by
          unfold strs
          rw [List.getElem?_map, List.getElem?_append_right (by omega), hlk, hdk]
          simp), ?_, (hbr.trans (hb2.mono hbr.size)).setCell hg _⟩
        have e : (strs ((L.take k).map Lib.trimSpaceD ++ L.drop k)).set k (.string ⟨(Lib.trimSpaceD x).toArray⟩) = strs ((L.take (k + 1)).map Lib.trimSpaceD ++ L.drop (k + 1)) := by
          unfold strs
          rw [List.map_append, List.set_append_right _ _ (by simp; omega)]
          simp only [List.length_map, List.length_take, Nat.min_eq_left (show k ≤ L.length by omega), Nat.sub_self]
          rw [hdk, List.take_add_one, hx]
          simp
        rw [← e]
        exact hset' : w2.frozen? ⟨g, k, none⟩ = false ∧ w2.cell? ⟨g, k, none⟩ = some (.string ⟨x.toArray⟩) ∧ (w2.setCell ⟨g, k, none⟩ (.string ⟨(Lib.trimSpaceD x).toArray⟩)).ownsRow w.heap.size 9 1 (.slice (some ⟨g, 0, none⟩) L.length c0) L.length (strs ((L.take (k + 1)).map Lib.trimSpaceD ++ L.drop (k + 1))) ∧ Below w.heap.size w (w2.setCell ⟨g, k, none⟩ (.string ⟨(Lib.trimSpaceD x).toArray⟩))))
      clear hown hset hcell hdk hlk hx hbr hfz
      go_wp2_with (go_at_call 54; (with_reducible refine KT.out.mono ?_); rintro e w2 ⟨rfl, hb2⟩; obtain ⟨hfz2, hc2, hown2, hbw2⟩ := HN.out w2 hb2; have HO2 := hid hown2; have HB2 := hid hbw2; clear hown2 hbw2 hb2)
      go_roundw
      case rel => exact ⟨k + 1, by omega, by go_num, HO2.out, HB2.out⟩
      case measure => simp [intOf]; omega
    · have hlt' : ¬ (k : Int) < (L.length : Int) := by omega
      have hkl : k = L.length := by omega
      subst hkl
      have HO := hid hown
      have HB := hid hbr
      clear hown hbr
      go_wp2_with fail
      go_ret
      refine ⟨_, rfl, ?_, HB.out⟩
      have := HO.out
      simpa using this
end Go.Proofs.YtmljkiohekogbaaGreatDoor
