import Derived.Test.YtmljkiohekogbaaGreatDoorMv
import Derived.Lib.TrimU
namespace Go.Proofs.YtmljkiohekogbaaGreatDoor
open Go.RowKit Go.Maps
set_option linter.unusedVariables false
set_option linter.unusedSimpArgs false
set_option maxHeartbeats 8000000
set_option maxRecDepth 100000
attribute [local go_sem] S_extract S_append run_cut_S run_head_S run_tail_S Nat.add_sub_cancel_left

theorem PA.ne_iter {w : World} {base p B : Nat} {cm ev : Value} {st : PSt} {s : ByteArray} {pos : Nat} (H : PA w base p cm ev st) (h : w.heap[B]? = some (.stringIter s pos)) : cm ≠ .map (some B) := by
  intro e
  rcases H.codes with ⟨h1, _⟩ | ⟨b, h1, _, hc⟩
  · rw [h1] at e; cases e
  · rw [h1] at e
    injection e with e
    injection e with e
    subst e
    obtain ⟨es, ck, h2⟩ := hc.obj
    rw [h] at h2
    injection h2 with h2
    cases h2
theorem PA.iter {w : World} {base p B : Nat} {cm ev : Value} {st : PSt} {s : ByteArray} {pos : Nat} (H : PA w base p cm ev st) (h : w.heap[B]? = some (.stringIter s pos)) (pos' : Nat) : PA (w.iterAt B s pos') base p cm ev st := by
  have ne : ∀ {k : Nat} {o : Obj}, w.heap[k]? = some o → (∀ x y, o ≠ .stringIter x y) → (w.iterAt B s pos').heap[k]? = w.heap[k]? := fun {k o} hk hn => Lib.iterAt_other w B k s pos' fun e => by
    subst e
    rw [h] at hk
    injection hk with hk
    exact hn _ _ hk.symm
  refine ⟨(ne H.row (fun _ _ e => by cases e)).trans H.row, H.le, own_step H.own fun k hk => ?_, ?_⟩
  · obtain ⟨C, fz, hC⟩ := own_typed H.own k hk
    exact ne hC (fun _ _ e => by cases e)
  · refine H.codes.imp id fun ⟨b, h1, h2, h3⟩ => ⟨b, h1, h2, ?_⟩
    obtain ⟨es, ck, h4⟩ := h3.obj
    exact h3.heap (ne h4 (fun _ _ e => by cases e))
theorem MF.iter {w wr : World} {base B : Nat} {cm cm' : Value} (h : MF w wr base cm cm') (hB : w.heap.size ≤ B) (hb : base ≤ B) (s : ByteArray) (pos : Nat) : MF w (wr.iterAt B s pos) base cm cm' :=
  ⟨Lib.below_iterAt h.below hb s pos, fun g o h0 h1 h2 => (Lib.iterAt_other wr B g s pos (by have := heap_lt h0; omega)).trans (h.keep g o h0 h1 h2), h.next⟩
theorem MF.iterKept {w w' : World} {base p B : Nat} {cm cm' ev : Value} {st : PSt} {s : ByteArray} {pos : Nat} (h : MF w w' base cm cm') (H : PA w base p cm ev st) (hi : w.heap[B]? = some (.stringIter s pos)) : w'.heap[B]? = some (.stringIter s pos) :=
  h.keep B _ hi (fun _ _ _ e => by cases e) (H.ne_iter hi)
/-- what parsing a text leaves -/
def StrPost (w : World) (base p : Nat) (cm : Value) (st' : PSt) (e : Ending) (w' : World) : Prop :=
  ∃ cm' ev', e = .returned (.string ⟨(seqOf itoaF st'.codes).toArray⟩) ∧ PA w' base p cm' ev' st' ∧ MF w w' base cm cm'
theorem ParseString_calls (base p n : Nat) (cm ev : Value) (st : PSt) (l : List UInt8) (w : World) (hbw : base ≤ w.heap.size) (ht : Tabs base w) (H : PA w base p cm ev st) (hp : PB st n) (hl : l.length ≤ 1000000000) (hn : n + 4 * (encs (runesL l)).length ≤ 4000000000000) :
    Calls Tryz.prog 17 #[.pointer (some ⟨p, 0, none⟩), .string ⟨l.toArray⟩] w (StrPost w base p cm (st.parse atoiF Lib.trimSpaceD (runesL l))) := by
  obtain ⟨z0, z1, z2, z3, f0, f1, f2, f3⟩ := H.facts
  obtain ⟨A, c, rfl, hc, hA⟩ := own_slice H.own
  have H1 := H.setEsc (OwnB.cut0 H.own)
  have H2 := H1.set (st' := { st with inn := false, esc := [] }) 1 (.bool false) rfl rfl (.inl ⟨rfl, rfl⟩)
  have H3 := H2.set (st' := st.reset) 2 (.int .i64 0) rfl rfl (.inl ⟨rfl, rfl⟩)
  have m1 := MF.of_set cm H.row H.le 3 (.slice A 0 c)
  have m2 := MF.of_set cm H1.row H.le 1 (.bool false)
  have m3 := MF.of_set cm H2.row H.le 2 (.int .i64 0)
  have HPA := hid H3
  have HMF := hid ((m1.trans m2).trans m3)
  have HT := hid ht
  have HBW := hid hbw
  have HPB := hid hp.resets
  have hsz : (⟨l.toArray⟩ : ByteArray).size = l.length := S_size l
  have hrs := runes_L l
  have hpar : st.parse atoiF Lib.trimSpaceD (runesL l) = (runesL l).foldl (PSt.consume atoiF Lib.trimSpaceD) st.reset := rfl
  rw [hpar]
  clear H H1 H2 H3 m1 m2 m3 ht hbw hp hpar
  generalize (⟨l.toArray⟩ : ByteArray) = s at *
  generalize runesL l = rs at *
  have HRS := hid hrs
  have HN := hid hn
  clear hrs hn
  cases A with
  | none =>
    have hc0 := hA rfl
    subst hc0
    clear hA hc
    go_enter Tryz.func17, Tryz.ntmps17
    go_wp2_with fail
    clear z0 z1 z2 z3 f0 f1 f2 f3
    generalize hw1 : ((w.setCell ⟨p, 3, none⟩ (.slice none 0 0)).setCell ⟨p, 1, none⟩ (.bool false)).setCell ⟨p, 2, none⟩ (.int .i64 0) = w1 at *
    have hsw : w1.heap.size = w.heap.size := by rw [← hw1]; simp [World.setCell]
    have hpa1 : PA (w1.iter s 0) base p cm (.slice none 0 0) st.reset := HPA.out.below ((Below.refl _ w1).alloc (Nat.le_refl _) _)
    have hit0 : (w1.iter s 0).heap[w.heap.size]? = some (.stringIter s 0) := by rw [← hsw]; exact World.iter_heap w1 s 0
    have hmf1 : MF w (w1.iter s 0) base cm cm := HMF.out.trans (.of_below cm ((Below.refl _ w1).alloc (Nat.le_refl _) _) (by rw [hsw]; exact HBW.out))
    generalize w1.iter s 0 = w2 at *
    clear hw1 HPA HMF hsw w1
    go_loopw [] (fun wr => ∃ (pos f : Nat) (q : PSt) (cm' ev' : Value) (m : Nat), wr.heap[w.heap.size]? = some (.stringIter s pos) ∧ PA wr base p cm' ev' q ∧ MF w wr base cm cm' ∧ PB q m ∧ m + 4 * (encs (runesFrom s f pos)).length ≤ 4000000000000 ∧ Hid (rs.foldl (PSt.consume atoiF Lib.trimSpaceD) st.reset = (runesFrom s f pos).foldl (PSt.consume atoiF Lib.trimSpaceD) q) ∧ s.size ≤ pos + f) (fun wr => s.size - wr.iterPos (w.heap.size))
    case atStart => exact ⟨0, s.size, st.reset, cm, _, n, hit0, hpa1, hmf1, HPB.out, by
        have := HN.out
        rw [← HRS.out] at this
        exact this, hid (by rw [← HRS.out]; rfl), by omega⟩
    case round =>
      obtain ⟨pos, f, q, cm', ev', m, hit, hpa, hmf, hpb, hm, hacc, hfu⟩ := hrel
      by_cases hp : pos < s.size
      · have hnx : ∀ ty, (Instr.next (.pointer (some ⟨w.heap.size, 0, none⟩)) true ty).run Tryz.prog wr = _ := fun ty => Lib.run_next_any_at wr (w.heap.size) s pos ty hit hp
        have hwd := width_pos s pos hp
        have hd1 := decode_le s pos
        have hrl := Lib.rune_le s pos
        have hit2 := Lib.iterAt_heap wr (w.heap.size) s pos (pos + (Utf8.decode s pos).2) hit
        have HPA := hid (hpa.iter hit (pos + (Utf8.decode s pos).2))
        have HMF := hid (hmf.iter (Nat.le_refl _) HBW.out s (pos + (Utf8.decode s pos).2))
        obtain ⟨f, rfl⟩ : ∃ g, f = g + 1 := ⟨f - 1, by omega⟩
        have HA := hid (hacc.out.trans (congrArg (fun l => List.foldl (PSt.consume atoiF Lib.trimSpaceD) q l) (runesFrom_step s f pos hp)))
        rw [runesFrom_step s f pos hp, encs_cons, List.length_append] at hm
        have HM := hid hm
        have hfew := hpb.few
        have HC := hid (Consume_calls base p cm' ev' q ((Utf8.decode s pos).1 : Int) _ (Nat.le_trans HBW.out HMF.out.below.size) (HT.out.below HMF.out.below) HPA.out (by omega) (by omega) (by omega) hpb.short)
        have HPB := hid hpb
        have HIT := hid hit2
        clear hacc hpa hmf hm hpb hfew hit2
        go_wp2_with (go_at_call 16; (with_reducible refine HC.out.mono ?_); rintro e w3 ⟨rfl, cm3, ev3, hpa3, hmf3⟩)
        have hit3 := MF.iterKept hmf3 HPA.out HIT.out
        go_roundw
        case rel => exact ⟨pos + (Utf8.decode s pos).2, f, _, cm3, ev3, _, hit3, hpa3, HMF.out.trans hmf3, HPB.out.consume atoiF Lib.trimSpaceD _, by have := HM.out; omega, hid HA.out, by omega⟩
        case measure => simp only [World.iterPos, hit3, hit]; omega
      · have hnx : ∀ ty, (Instr.next (.pointer (some ⟨w.heap.size, 0, none⟩)) true ty).run Tryz.prog wr = _ := fun ty => Lib.run_next_end_at wr (w.heap.size) s pos ty hit hp
        have HA := hid (show rs.foldl (PSt.consume atoiF Lib.trimSpaceD) st.reset = q by rw [hacc.out, runesFrom_end s f pos hp]; rfl)
        have hfew := hpb.few
        have HS := hid (Sequence_calls base p cm' ev' q wr hpa hpb.rise (by omega))
        have HPA := hid hpa
        have HMF := hid hmf
        clear hacc hpa hmf hpb hm hfew
        go_wp2_with (go_at_call 22; (with_reducible refine HS.out.mono ?_); rintro e w3 ⟨rfl, hb3⟩)
        go_ret
        rw [HA.out]
        exact ⟨cm', ev', rfl, HPA.out.below hb3, HMF.out.trans (.of_below cm' hb3 (Nat.le_trans HBW.out HMF.out.below.size))⟩
  | some a =>
    clear hA hc
    go_enter Tryz.func17, Tryz.ntmps17
    go_wp2_with fail
    clear z0 z1 z2 z3 f0 f1 f2 f3
    generalize hw1 : ((w.setCell ⟨p, 3, none⟩ (.slice (some a) 0 c)).setCell ⟨p, 1, none⟩ (.bool false)).setCell ⟨p, 2, none⟩ (.int .i64 0) = w1 at *
    have hsw : w1.heap.size = w.heap.size := by rw [← hw1]; simp [World.setCell]
    have hpa1 : PA (w1.iter s 0) base p cm (.slice (some a) 0 c) st.reset := HPA.out.below ((Below.refl _ w1).alloc (Nat.le_refl _) _)
    have hit0 : (w1.iter s 0).heap[w.heap.size]? = some (.stringIter s 0) := by rw [← hsw]; exact World.iter_heap w1 s 0
    have hmf1 : MF w (w1.iter s 0) base cm cm := HMF.out.trans (.of_below cm ((Below.refl _ w1).alloc (Nat.le_refl _) _) (by rw [hsw]; exact HBW.out))
    generalize w1.iter s 0 = w2 at *
    clear hw1 HPA HMF hsw w1
    go_loopw [] (fun wr => ∃ (pos f : Nat) (q : PSt) (cm' ev' : Value) (m : Nat), wr.heap[w.heap.size]? = some (.stringIter s pos) ∧ PA wr base p cm' ev' q ∧ MF w wr base cm cm' ∧ PB q m ∧ m + 4 * (encs (runesFrom s f pos)).length ≤ 4000000000000 ∧ Hid (rs.foldl (PSt.consume atoiF Lib.trimSpaceD) st.reset = (runesFrom s f pos).foldl (PSt.consume atoiF Lib.trimSpaceD) q) ∧ s.size ≤ pos + f) (fun wr => s.size - wr.iterPos (w.heap.size))
    case atStart => exact ⟨0, s.size, st.reset, cm, _, n, hit0, hpa1, hmf1, HPB.out, by
        have := HN.out
        rw [← HRS.out] at this
        exact this, hid (by rw [← HRS.out]; rfl), by omega⟩
    case round =>
      obtain ⟨pos, f, q, cm', ev', m, hit, hpa, hmf, hpb, hm, hacc, hfu⟩ := hrel
      by_cases hp : pos < s.size
      · have hnx : ∀ ty, (Instr.next (.pointer (some ⟨w.heap.size, 0, none⟩)) true ty).run Tryz.prog wr = _ := fun ty => Lib.run_next_any_at wr (w.heap.size) s pos ty hit hp
        have hwd := width_pos s pos hp
        have hd1 := decode_le s pos
        have hrl := Lib.rune_le s pos
        have hit2 := Lib.iterAt_heap wr (w.heap.size) s pos (pos + (Utf8.decode s pos).2) hit
        have HPA := hid (hpa.iter hit (pos + (Utf8.decode s pos).2))
        have HMF := hid (hmf.iter (Nat.le_refl _) HBW.out s (pos + (Utf8.decode s pos).2))
        obtain ⟨f, rfl⟩ : ∃ g, f = g + 1 := ⟨f - 1, by omega⟩
        have HA := hid (hacc.out.trans (congrArg (fun l => List.foldl (PSt.consume atoiF Lib.trimSpaceD) q l) (runesFrom_step s f pos hp)))
        rw [runesFrom_step s f pos hp, encs_cons, List.length_append] at hm
        have HM := hid hm
        have hfew := hpb.few
        have HC := hid (Consume_calls base p cm' ev' q ((Utf8.decode s pos).1 : Int) _ (Nat.le_trans HBW.out HMF.out.below.size) (HT.out.below HMF.out.below) HPA.out (by omega) (by omega) (by omega) hpb.short)
        have HPB := hid hpb
        have HIT := hid hit2
        clear hacc hpa hmf hm hpb hfew hit2
        go_wp2_with (go_at_call 16; (with_reducible refine HC.out.mono ?_); rintro e w3 ⟨rfl, cm3, ev3, hpa3, hmf3⟩)
        have hit3 := MF.iterKept hmf3 HPA.out HIT.out
        go_roundw
        case rel => exact ⟨pos + (Utf8.decode s pos).2, f, _, cm3, ev3, _, hit3, hpa3, HMF.out.trans hmf3, HPB.out.consume atoiF Lib.trimSpaceD _, by have := HM.out; omega, hid HA.out, by omega⟩
        case measure => simp only [World.iterPos, hit3, hit]; omega
      · have hnx : ∀ ty, (Instr.next (.pointer (some ⟨w.heap.size, 0, none⟩)) true ty).run Tryz.prog wr = _ := fun ty => Lib.run_next_end_at wr (w.heap.size) s pos ty hit hp
        have HA := hid (show rs.foldl (PSt.consume atoiF Lib.trimSpaceD) st.reset = q by rw [hacc.out, runesFrom_end s f pos hp]; rfl)
        have hfew := hpb.few
        have HS := hid (Sequence_calls base p cm' ev' q wr hpa hpb.rise (by omega))
        have HPA := hid hpa
        have HMF := hid hmf
        clear hacc hpa hmf hpb hm hfew
        go_wp2_with (go_at_call 22; (with_reducible refine HS.out.mono ?_); rintro e w3 ⟨rfl, hb3⟩)
        go_ret
        rw [HA.out]
        exact ⟨cm', ev', rfl, HPA.out.below hb3, HMF.out.trans (.of_below cm' hb3 (Nat.le_trans HBW.out HMF.out.below.size))⟩
end Go.Proofs.YtmljkiohekogbaaGreatDoor
