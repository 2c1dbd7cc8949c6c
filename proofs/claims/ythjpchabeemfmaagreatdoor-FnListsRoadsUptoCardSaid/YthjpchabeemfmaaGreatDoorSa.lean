import Derived.Test.YthjpchabeemfmaaGreatDoorDg
namespace Go.Proofs.YthjpchabeemfmaaGreatDoor
open Go.RowKit
set_option linter.unusedVariables false
set_option linter.unusedSimpArgs false
set_option maxHeartbeats 4000000
set_option maxRecDepth 100000
attribute [local go_sem] S_extract S_append run_cut_S run_head_S run_tail_S Nat.add_sub_cancel_left

def fits14B (s : Sty) : Bool := [s.single, s.top, s.first, s.middle, s.vert, s.bottom, s.newline, s.pre].all fun t => decide (t.length ≤ 2147483647)
theorem zzFits14_calls (s : Sty) (w : World) : Calls Tryz.prog 5 #[.agg #[.int .i64 s.fmt, .string ⟨s.single.toArray⟩, .string ⟨s.top.toArray⟩, .string ⟨s.first.toArray⟩, .string ⟨s.middle.toArray⟩, .string ⟨s.vert.toArray⟩, .string ⟨s.bottom.toArray⟩, .string ⟨s.newline.toArray⟩, .string ⟨s.pre.toArray⟩]] w fun e w' => e = .returned (.bool (fits14B s)) ∧ Below w.heap.size w w' := by
  go_enter Tryz.func5, Tryz.ntmps5
  go_wp2_with fail
  all_goals go_ret
  all_goals exact ⟨ret_bool (by simp [fits14B]; omega), (Below.refl _ w).alloc (Nat.le_refl _) _⟩
def sty7 (s : Sty) : List (List UInt8) := [s.single, s.top, s.first, s.middle, s.vert, s.bottom, s.pre]
def okT (t : List UInt8) : Bool := decide (t.length ≤ 20) && txSimple ⟨t.toArray⟩ false
def lsStyledB (s : Sty) : Bool := (sty7 s).all okT && (!((runes ⟨s.vert.toArray⟩).any fun r => txWide r) && (decide (s.fmt = 0) && (s.newline == [10])))
theorem LsStyled_calls (s : Sty) (w : World) : Calls Tryz.prog 9 #[.agg #[.int .i64 s.fmt, .string ⟨s.single.toArray⟩, .string ⟨s.top.toArray⟩, .string ⟨s.first.toArray⟩, .string ⟨s.middle.toArray⟩, .string ⟨s.vert.toArray⟩, .string ⟨s.bottom.toArray⟩, .string ⟨s.newline.toArray⟩, .string ⟨s.pre.toArray⟩]] w fun e w' => e = .returned (.bool (lsStyledB s)) ∧ Below w.heap.size w w' := by
  go_enter Tryz.func9, Tryz.ntmps9
  go_wp2_with fail
  go_loopw [23] (fun u wr => ∃ k : Nat, k ≤ 7 ∧ u = .int .i64 k ∧ Below w.heap.size w wr ∧ w.heap.size + 1 < wr.heap.size ∧ wr.heap[w.heap.size]? = some (.cells #[.int .i64 s.fmt, .string ⟨s.single.toArray⟩, .string ⟨s.top.toArray⟩, .string ⟨s.first.toArray⟩, .string ⟨s.middle.toArray⟩, .string ⟨s.vert.toArray⟩, .string ⟨s.bottom.toArray⟩, .string ⟨s.newline.toArray⟩, .string ⟨s.pre.toArray⟩] 24 (0, 0)) ∧ wr.heap[w.heap.size + 1]? = some (.cells #[.string ⟨s.single.toArray⟩, .string ⟨s.top.toArray⟩, .string ⟨s.first.toArray⟩, .string ⟨s.middle.toArray⟩, .string ⟨s.vert.toArray⟩, .string ⟨s.bottom.toArray⟩, .string ⟨s.pre.toArray⟩] 9 (0, 0)) ∧ Hid (((sty7 s).drop k).all okT = (sty7 s).all okT)) (fun u _ => 7 - (intOf u).toNat)
  case atStart => exact ⟨0, by omega, rfl, ((Below.refl _ w).alloc (Nat.le_refl _) _).alloc (by simp) _, by simp, heap_keep (alloc_heap_new w _) ((Below.refl _ _).alloc (Nat.le_refl _) _), by simpa using alloc_heap_new (w.alloc (.cells #[.int .i64 s.fmt, .string ⟨s.single.toArray⟩, .string ⟨s.top.toArray⟩, .string ⟨s.first.toArray⟩, .string ⟨s.middle.toArray⟩, .string ⟨s.vert.toArray⟩, .string ⟨s.bottom.toArray⟩, .string ⟨s.newline.toArray⟩, .string ⟨s.pre.toArray⟩] 24)) (.cells #[.string ⟨s.single.toArray⟩, .string ⟨s.top.toArray⟩, .string ⟨s.first.toArray⟩, .string ⟨s.middle.toArray⟩, .string ⟨s.vert.toArray⟩, .string ⟨s.bottom.toArray⟩, .string ⟨s.pre.toArray⟩] 9), hid (by simp)⟩
  case round =>
    obtain ⟨k, hk, rfl, hbw, hsz, h9, h7, hacc⟩ := hrel
    by_cases hlt : k < 7
    · obtain ⟨t, ht⟩ : ∃ t, (sty7 s)[k]? = some t := ⟨_, List.getElem?_eq_getElem (by simpa [sty7] using hlt)⟩
      have hc : wr.cell? ⟨w.heap.size + 1, k, none⟩ = some (.string ⟨t.toArray⟩) := by
        rw [blk_cell h7 k]
        have : (#[.string ⟨s.single.toArray⟩, .string ⟨s.top.toArray⟩, .string ⟨s.first.toArray⟩, .string ⟨s.middle.toArray⟩, .string ⟨s.vert.toArray⟩, .string ⟨s.bottom.toArray⟩, .string ⟨s.pre.toArray⟩] : Array Value)[k]? = ((sty7 s).map fun t => (.string ⟨t.toArray⟩ : Value))[k]? := by simp [sty7]
        rw [this, List.getElem?_map, ht]
        rfl
      have hlt' : (k : Int) < 7 := by omega
      have hlt0 : (0 : Int) ≤ (k : Int) := by omega
      have hd : (sty7 s).drop k = t :: (sty7 s).drop (k + 1) := by
        obtain ⟨h1, h2⟩ := List.getElem?_eq_some_iff.1 ht
        rw [List.drop_eq_getElem_cons h1, h2]
      have HA := hid (show (okT t && ((sty7 s).drop (k + 1)).all okT) = (sty7 s).all okT by rw [← hacc.out, hd]; rfl)
      clear hd ht hacc
      have H9 := hid h9
      have H7 := hid h7
      clear h9 h7
      by_cases h20 : 20 < t.length
      · have e20 : decide (20 < (t.length : Int)) = true := decide_eq_true (by omega)
        have HB := hid (show lsStyledB s = false by unfold lsStyledB; rw [← HA.out]; simp [okT]; intro h; omega)
        go_wp2_with fail
        go_ret
        exact ⟨ret_bool HB.out.symm, hbw⟩
      · have e20 : decide (20 < (t.length : Int)) = false := decide_eq_false (by omega)
        have KT := hid (fun (w' : World) => TxSimple_calls ⟨t.toArray⟩ false w' (by rw [S_size]; omega))
        cases hs : txSimple ⟨t.toArray⟩ false
        all_goals rw [hs] at KT
        all_goals go_wp2_with (go_at_call 19; (with_reducible refine (KT.out _).mono ?_); rintro e w1 ⟨rfl, hb1⟩)
        · go_ret
          exact ⟨ret_bool (by unfold lsStyledB; rw [← HA.out]; simp [okT, hs]), hbw.trans (hb1.mono hbw.size)⟩
        · go_roundw
          case rel => exact ⟨k + 1, by omega, by go_num, hbw.trans (hb1.mono hbw.size), Nat.lt_of_lt_of_le hsz hb1.size, heap_keep H9.out hb1, heap_keep H7.out hb1, hid (by rw [← HA.out]; simp [okT, hs]; omega)⟩
          case measure => simp [intOf]; omega
    · have hk7 : k = 7 := by omega
      have hlt7 : ¬ (k : Int) < 7 := by omega
      have HA := hid (show (sty7 s).all okT = true by rw [← hacc.out, hk7]; simp [sty7])
      clear hacc h7 hlt hk hk7
      have hc5 : wr.cell? ⟨w.heap.size, 5, none⟩ = some (.string ⟨s.vert.toArray⟩) := blk_cell h9 5
      have H9 := hid h9
      clear h9
      go_wp2_with fail
      generalize hb0 : wr.heap.size = B at *
      have hbB : Below w.heap.size w (wr.iter ⟨s.vert.toArray⟩ 0) := hbw.alloc (by omega) _
      have h9B : (wr.iter ⟨s.vert.toArray⟩ 0).heap[w.heap.size]? = some (.cells #[.int .i64 s.fmt, .string ⟨s.single.toArray⟩, .string ⟨s.top.toArray⟩, .string ⟨s.first.toArray⟩, .string ⟨s.middle.toArray⟩, .string ⟨s.vert.toArray⟩, .string ⟨s.bottom.toArray⟩, .string ⟨s.newline.toArray⟩, .string ⟨s.pre.toArray⟩] 24 (0, 0)) := heap_keep H9.out ((Below.refl _ wr).alloc (Nat.le_refl _) _)
      have hit0 : (wr.iter ⟨s.vert.toArray⟩ 0).heap[B]? = some (.stringIter ⟨s.vert.toArray⟩ 0) := by rw [← hb0]; exact World.iter_heap wr ⟨s.vert.toArray⟩ 0
      generalize wr.iter ⟨s.vert.toArray⟩ 0 = W at *
      clear hb0 H9 hbw
      have hsB : w.heap.size + 1 < B := by omega
      clear hsz
      go_loopw [] (fun ws => ∃ (pos fuel : Nat), ws.heap[B]? = some (.stringIter ⟨s.vert.toArray⟩ pos) ∧ Below (w.heap.size + 1) W ws ∧ Hid ((runesFrom ⟨s.vert.toArray⟩ fuel pos).any (fun r => txWide r) = (runes ⟨s.vert.toArray⟩).any fun r => txWide r) ∧ (⟨s.vert.toArray⟩ : ByteArray).size ≤ pos + fuel) (fun ws => (⟨s.vert.toArray⟩ : ByteArray).size - ws.iterPos B)
      case atStart => exact ⟨0, (⟨s.vert.toArray⟩ : ByteArray).size, hit0, Below.refl _ W, hid rfl, by omega⟩
      case round =>
        obtain ⟨pos, fuel, hit, hbs, hacc, hfu⟩ := hrel
        by_cases hp : pos < (⟨s.vert.toArray⟩ : ByteArray).size
        · have hnx : ∀ ty, (Instr.next (.pointer (some ⟨B, 0, none⟩)) true ty).run Tryz.prog wr = _ := fun ty => Lib.run_next_any_at wr B (⟨s.vert.toArray⟩ : ByteArray) pos ty hit hp
          have hwd := width_pos (⟨s.vert.toArray⟩ : ByteArray) pos hp
          have hd1 := decode_le (⟨s.vert.toArray⟩ : ByteArray) pos
          have hit2 := Lib.iterAt_heap wr B (⟨s.vert.toArray⟩ : ByteArray) pos (pos + (Utf8.decode (⟨s.vert.toArray⟩ : ByteArray) pos).2) hit
          have hbs2 := Lib.below_iterAt hbs (k := B) (by omega) (⟨s.vert.toArray⟩ : ByteArray) (pos + (Utf8.decode (⟨s.vert.toArray⟩ : ByteArray) pos).2)
          obtain ⟨f, rfl⟩ : ∃ f, fuel = f + 1 := ⟨fuel - 1, by omega⟩
          have HA2 := hid (hacc.out.symm.trans (congrArg (fun l => l.any fun r => txWide r) (runesFrom_step (⟨s.vert.toArray⟩ : ByteArray) f pos hp)))
          clear hacc
          cases hw : txWide ((Utf8.decode (⟨s.vert.toArray⟩ : ByteArray) pos).1 : Int)
          all_goals go_wp2_with (go_at_call 21; (with_reducible refine (TxWide_calls _ _).mono ?_); rintro e w' ⟨rfl, rfl⟩; rw [hw])
          · go_roundw
            case rel => exact ⟨pos + (Utf8.decode (⟨s.vert.toArray⟩ : ByteArray) pos).2, f, hit2, hbs2, hid (by rw [HA2.out]; simp [hw]), by omega⟩
            case measure => simp only [World.iterPos, hit2, hit]; omega
          · go_ret
            exact ⟨ret_bool (by unfold lsStyledB; rw [HA2.out]; simp [hw]), hbB.trans (hbs2.mono (by omega))⟩
        · have hnx : ∀ ty, (Instr.next (.pointer (some ⟨B, 0, none⟩)) true ty).run Tryz.prog wr = _ := fun ty => Lib.run_next_end_at wr B (⟨s.vert.toArray⟩ : ByteArray) pos ty hit hp
          have h9w : wr.heap[w.heap.size]? = some (.cells #[.int .i64 s.fmt, .string ⟨s.single.toArray⟩, .string ⟨s.top.toArray⟩, .string ⟨s.first.toArray⟩, .string ⟨s.middle.toArray⟩, .string ⟨s.vert.toArray⟩, .string ⟨s.bottom.toArray⟩, .string ⟨s.newline.toArray⟩, .string ⟨s.pre.toArray⟩] 24 (0, 0)) := (hbs.block w.heap.size (by omega)).trans h9B
          have z0 : wr.cell? ⟨w.heap.size, 0, none⟩ = some (.int .i64 s.fmt) := blk_cell h9w 0
          have z7 : wr.cell? ⟨w.heap.size, 7, none⟩ = some (.string ⟨s.newline.toArray⟩) := blk_cell h9w 7
          have hno : ((runes (⟨s.vert.toArray⟩ : ByteArray)).any fun r => txWide r) = false := by
            have := hacc.out
            rw [runesFrom_end (⟨s.vert.toArray⟩ : ByteArray) fuel pos hp] at this
            exact this.symm
          have HB := hid (show lsStyledB s = (decide (s.fmt = 0) && (s.newline == [10])) by unfold lsStyledB; rw [HA.out, hno]; simp)
          have hbF := hid (hbB.trans (hbs.mono (by omega)))
          clear hacc hno h9w h9B hbB hbs HA
          cases e0 : (s.fmt == 0) <;> cases e1 : (s.newline == [10])
          all_goals go_wp2_with fail
          all_goals go_ret
          all_goals exact ⟨ret_bool (by rw [HB.out]; simp_all), hbF.out⟩
theorem below_nx {w w1 w2 : World} (h : Below w.heap.size w w1) (k : Below w1.heap.size w1 w2) : Below w.heap.size w w2 := h.trans (k.mono h.size)
def nlS (s : Sty) : Sty := { s with newline := [10] }
def ltStyledB (s : Sty) : Bool := lsStyledB (nlS s) && (!(s.newline == []) && (decide (s.newline.length ≤ 20) && ((s.newline == [10]) || txSimple ⟨s.newline.toArray⟩ false)))
theorem ltStyled_facts {s : Sty} (h : ltStyledB s = true) : ShortSt s ∧ s.fmt = 0 := by
  unfold ltStyledB lsStyledB at h
  simp only [Bool.and_eq_true, List.all_eq_true, decide_eq_true_eq] at h
  obtain ⟨⟨h1, h2, h3, h4⟩, h5, h6, h7⟩ := h
  have g : ∀ t ∈ sty7 (nlS s), t.length ≤ 20 := fun t ht => by
    have := h1 t ht
    unfold okT at this
    simp only [Bool.and_eq_true, decide_eq_true_eq] at this
    exact this.1
  exact ⟨⟨g s.single (by simp [sty7, nlS]), g s.top (by simp [sty7, nlS]), g s.first (by simp [sty7, nlS]), g s.middle (by simp [sty7, nlS]), g s.vert (by simp [sty7, nlS]), g s.bottom (by simp [sty7, nlS]), h6, g s.pre (by simp [sty7, nlS])⟩, h3⟩
end Go.Proofs.YthjpchabeemfmaaGreatDoor
