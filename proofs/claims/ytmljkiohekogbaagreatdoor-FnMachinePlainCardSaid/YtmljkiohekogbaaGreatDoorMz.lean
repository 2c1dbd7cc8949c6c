import Derived.Test.YtmljkiohekogbaaGreatDoorMy
import Derived.Test.YtmljkiohekogbaaGreatDoorXb
import Derived.Laws.IdiomRangeMap
namespace Go.Proofs.YtmljkiohekogbaaGreatDoor
open Go.RowKit Go.Maps
set_option linter.unusedVariables false
set_option linter.unusedSimpArgs false
set_option maxHeartbeats 8000000
set_option maxRecDepth 100000
attribute [local go_sem] S_extract S_append run_cut_S run_head_S run_tail_S Nat.add_sub_cancel_left

theorem grown_others {w w1 : World} {base e sz n : Nat} {u : Value} {xs : List Value} (ho : w.ownsRow base e sz u n xs) (hg : w.grownBy w1 u.ownBlock) : Lib.OthersKept e none w w1 := by
  intro k o hk _ hne
  refine (hg.block k (heap_lt hk) fun ek => ?_).trans hk
  obtain ⟨C, fz, hC⟩ := own_typed ho k ek.symm
  rw [hk] at hC
  injection hC with hC
  exact hne _ _ hC
theorem own_others {w w1 : World} {base e e' sz n : Nat} {u : Value} {xs : List Value} (ho : w.ownsRow base e' sz u n xs) (hne : e' ≠ e) (hk : Lib.OthersKept e none w w1) : w1.ownsRow base e' sz u n xs :=
  own_step ho fun k hk' => by
    obtain ⟨C, fz, hC⟩ := own_typed ho k hk'
    refine (hk k _ hC (fun x => by cases x) (fun c fz x => ?_)).trans hC.symm
    injection x with _ x _
    exact hne x
theorem PA.others {w w1 : World} {base p e : Nat} {cm ev : Value} {st : PSt} (H : PA w base p cm ev st) (h1 : 51 ≠ e) (h2 : 5 ≠ e) (hk : Lib.OthersKept e none w w1) : PA w1 base p cm ev st := by
  refine ⟨hk p _ H.row (fun x => by cases x) (fun c fz x => ?_), H.le, own_others H.own h2 hk, H.codes.imp id fun ⟨b, a1, a2, a3⟩ => ⟨b, a1, a2, ?_⟩⟩
  · injection x with _ x _
    exact h1 x
  · obtain ⟨es, ck, h4⟩ := a3.obj
    exact a3.heap ((hk b _ h4 (fun x => by cases x) (fun c fz x => by cases x)).trans h4.symm)
theorem PA.ne_cells {w : World} {base p g t : Nat} {cm ev : Value} {st : PSt} {cs : Array Value} {fz : Nat × Nat} (H : PA w base p cm ev st) (h : w.heap[g]? = some (.cells cs t fz)) : cm ≠ .map (some g) := by
  intro e
  rcases H.codes with ⟨h1, _⟩ | ⟨b, h1, _, hc⟩
  · rw [h1] at e; cases e
  · rw [h1] at e
    injection e with e
    injection e with e
    subst e
    obtain ⟨es, ck, h2⟩ := hc.obj
    rw [h] at h2
    injection h2 with h2
    cases h2
theorem MF.own {w w' : World} {base b2 p e sz n : Nat} {cm cm' ev : Value} {st : PSt} {u : Value} {xs : List Value} (F : MF w w' base cm cm') (H : PA w base p cm ev st) (ho : w.ownsRow b2 e sz u n xs) (h1 : e ≠ 51) (h2 : e ≠ 5) : w'.ownsRow b2 e sz u n xs :=
  own_step ho fun k hk => by
    obtain ⟨C, fz, hC⟩ := own_typed ho k hk
    exact (F.keep k _ hC (fun cs t fz x => by injection x with _ x _; subst x; exact ⟨h1, h2⟩) (H.ne_cells hC)).trans hC.symm

/-! ### what is told behind a step -/
structure EV where
  st : PSt
  told : List UInt8
  val : Value
def evRow (e : EV) : List Value := [.bool e.st.inn, .bool (!e.st.codes.isEmpty), e.val, .string ⟨(seqOf itoaF e.st.codes).toArray⟩, .string ⟨e.told.toArray⟩]
def evCells (l : List EV) : List Value := l.flatMap evRow
theorem evCells_app (a b : List EV) : evCells (a ++ b) = evCells a ++ evCells b := by simp [evCells]
theorem evCells_len (l : List EV) : (evCells l).length = l.length * 5 := by
  induction l with
  | nil => rfl
  | cons x t ih =>
    have : evCells (x :: t) = evRow x ++ evCells t := rfl
    rw [this, List.length_append, ih]
    simp [evRow]; omega
theorem ev_get : ∀ {l : List EV} {i : Nat} {x : EV}, l[i]? = some x → (evCells l)[i * 5]? = some (.bool x.st.inn) ∧ (evCells l)[i * 5 + 1]? = some (.bool (!x.st.codes.isEmpty)) ∧ (evCells l)[i * 5 + 2]? = some x.val ∧ (evCells l)[i * 5 + 3]? = some (.string ⟨(seqOf itoaF x.st.codes).toArray⟩) ∧ (evCells l)[i * 5 + 4]? = some (.string ⟨x.told.toArray⟩)
  | [], i, q, h => by simp at h
  | p :: t, 0, q, h => by simp at h; subst h; simp [evCells, evRow]
  | p :: t, i + 1, q, h => by
    have := ev_get (l := t) (i := i) (x := q) (by simpa using h)
    rw [show (i + 1) * 5 = i * 5 + 1 + 1 + 1 + 1 + 1 by omega]
    simpa [evCells, evRow] using this
/-- v is what is told -/
def RdEv (w : World) (v : Value) (l : List EV) : Prop := RdF w v 5 l.length (evCells l) ∧ ∀ e ∈ l, RdI w e.val e.st.codes
theorem RdEv.below {w w1 : World} {v : Value} {l : List EV} (h : RdEv w v l) (hb : Below w.heap.size w w1) : RdEv w1 v l := ⟨h.1.below hb, fun e he => (h.2 e he).below hb⟩
theorem evRow_one (e : EV) (A : Option Addr) (n c : Nat) (h : e.val = .slice A n c) : ∀ u ∈ evRow e, u.oneCell' = true := by
  intro u hu
  simp only [evRow, List.mem_cons, List.not_mem_nil, or_false] at hu
  rcases hu with rfl | rfl | rfl | rfl | rfl
  · rfl
  · rfl
  · rw [h]; rfl
  · rfl
  · rfl
structure TP (w wr : World) (out : Value) (L : List EV) (cm ev : Value) (st : PSt) : Prop where
  pa : PA wr w.heap.size w.heap.size cm ev st
  below : Below w.heap.size w wr
  own : wr.ownsRow w.heap.size 35 5 out L.length (evCells L)
  codes : ∀ e ∈ L, wr.ownsRow w.heap.size 3 1 e.val e.st.codes.length (nums e.st.codes)
theorem TP.call {w wr w2 : World} {out : Value} {L : List EV} {cm ev : Value} {st : PSt} (h : TP w wr out L cm ev st) (hb : Below wr.heap.size wr w2) : TP w w2 out L cm ev st :=
  ⟨h.pa.below hb, h.below.trans (hb.mono h.below.size), own_below h.own hb, fun e he => own_below (h.codes e he) hb⟩
theorem TP.step {w wr w2 : World} {out : Value} {L : List EV} {cm ev cm2 ev2 : Value} {st st2 : PSt} (h : TP w wr out L cm ev st) (F : MF wr w2 w.heap.size cm cm2) (H : PA w2 w.heap.size w.heap.size cm2 ev2 st2) : TP w w2 out L cm2 ev2 st2 :=
  ⟨H, h.below.trans F.below, F.own h.pa h.own (by decide) (by decide), fun e he => F.own h.pa (h.codes e he) (by decide) (by decide)⟩
theorem TP.add {w wr w2 : World} {out out2 : Value} {L : List EV} {cm ev : Value} {st : PSt} (h : TP w wr out L cm ev st) (e : EV) (he : wr.ownsRow w.heap.size 3 1 e.val e.st.codes.length (nums e.st.codes)) (ho : w2.ownsRow w.heap.size 35 5 out2 (L.length + 1) (evCells L ++ evRow e)) (hg : wr.grownBy w2 out.ownBlock) : TP w w2 out2 (L ++ [e]) cm ev st := by
  have hk := grown_others h.own hg
  refine ⟨h.pa.others (by decide) (by decide) hk, h.below.grown hg h.below.size (fun k hk' => (own_lt h.own k hk').2), ?_, fun x hx => ?_⟩
  · rw [evCells_app, List.length_append]
    simpa [evCells] using ho
  · rcases List.mem_append.1 hx with hx | hx
    · exact own_others (h.codes x hx) (by decide) hk
    · simp only [List.mem_singleton] at hx
      subst hx
      exact own_others he (by decide) hk
theorem infoEscState : (Tryz.prog.info? 35).map (fun i => (i.zero, i.size, i.bytes)) = some (some (.agg #[.bool false, .bool false, .slice none 0 0, .string ⟨#[]⟩, .string ⟨#[]⟩]), 5, 64) := by kernel_rfl
theorem PA.zero (w : World) : PA (w.alloc (.cells #[.map none, .bool false, .int .i64 0, .slice none 0 0] 51)) w.heap.size w.heap.size (.map none) (.slice none 0 0) p0 :=
  ⟨alloc_heap_new w _, Nat.le_refl _, ⟨by simp [p0, Lib.byteCells], .inl ⟨rfl, rfl⟩⟩, .inl ⟨rfl, rfl⟩⟩
attribute [local go_sem] mk0I
theorem CodesNone_calls (base p : Nat) (ev : Value) (st : PSt) (w : World) (H : PA w base p (.map none) ev st) :
    Calls Tryz.prog 21 #[.pointer (some ⟨p, 0, none⟩)] w fun e w' => ∃ v, e = .returned v ∧ w'.ownsRow w.heap.size 3 1 v 0 [] ∧ Below w.heap.size w w' := by
  have z0 := H.facts.1
  have HB0 := hid ((Below.refl w.heap.size w).alloc (Nat.le_refl _) (.cells #[] 3))
  have z0' := cell_keep HB0.out z0
  have hrg := run_range_nilMap (P := Tryz.prog) (w.alloc (.cells #[] 3)) 47 3 4 Tryz.underlying47
  have hnx : ∀ ty, (Instr.next (.pointer (some ⟨(w.alloc (.cells #[] 3)).heap.size, 0, none⟩)) false ty).run Tryz.prog ((w.alloc (.cells #[] 3)).alloc (.mapIter none 0 #[] 0)) = _ := fun ty => run_next_nilMap _ ty 0 0 #[]
  have hsz : (w.alloc (.cells #[] 3)).heap.size = w.heap.size + 1 := by show (w.heap.push _).size = _; rw [Array.size_push]
  rw [hsz] at hnx
  have hb2 : Below w.heap.size w ((w.alloc (.cells #[] 3)).alloc (.mapIter none 0 #[] 0)) := HB0.out.alloc HB0.out.size _
  have ho2 : ((w.alloc (.cells #[] 3)).alloc (.mapIter none 0 #[] 0)).ownsRow w.heap.size 3 1 (.slice (some ⟨w.heap.size, 0, none⟩) 0 0) ([] : List Int).length (nums []) := own_below (own_made w 3) ((Below.refl _ _).alloc (Nat.le_refl _) _)
  have HKS := hid (sort_own ho2 (by simp))
  have HB2 := hid hb2
  have HO2 := hid ho2
  clear H hb2 ho2
  go_enter Tryz.func21, Tryz.ntmps21
  go_wp2_with fail
  refine wp_loop_rounds 1 ?_
  rw [rounds_succ]
  go_wp2_with (go_at_call 32; (with_reducible refine HKS.out.mono ?_); rintro e w3 ⟨rfl, hown3, hgr3⟩)
  rw [List.mergeSort_nil] at hown3
  go_ret
  exact ⟨_, rfl, hown3, HB2.out.grown hgr3 HB2.out.size (fun k hk => (own_lt HO2.out k hk).2)⟩
theorem CodesAny_calls (base p : Nat) (cm ev : Value) (st : PSt) (w : World) (H : PA w base p cm ev st) (hr : Rise st.codes) (hl : st.codes.length ≤ 4000000000000) :
    Calls Tryz.prog 21 #[.pointer (some ⟨p, 0, none⟩)] w fun e w' => ∃ A c, e = .returned (.slice A st.codes.length c) ∧ w'.ownsRow w.heap.size 3 1 (.slice A st.codes.length c) st.codes.length (nums st.codes) ∧ Below w.heap.size w w' := by
  have fin : ∀ {e : Ending} {w' : World}, (∃ v, e = .returned v ∧ w'.ownsRow w.heap.size 3 1 v st.codes.length (nums st.codes) ∧ Below w.heap.size w w') → ∃ A c, e = .returned (.slice A st.codes.length c) ∧ w'.ownsRow w.heap.size 3 1 (.slice A st.codes.length c) st.codes.length (nums st.codes) ∧ Below w.heap.size w w' := by
    rintro e w' ⟨v, rfl, h1, h2⟩
    obtain ⟨A, c, rfl, _⟩ := own_slice h1
    exact ⟨A, c, rfl, h1, h2⟩
  rcases H.codes with ⟨rfl, hc0⟩ | ⟨b, rfl, hb, hc⟩
  · refine (CodesNone_calls base p ev st w H).mono fun e w' h => fin ?_
    rw [hc0]
    exact h
  · exact (Codes_calls base p b ev st w H hc hr hl).mono fun e w' h => fin h
theorem runQ_PB (m : Nat) (hm : 4 ≤ m) : ∀ (l : List Stq) (p : PSt) (n : Nat), PB p n → (∀ x ∈ l, SqOk m x) → ∀ q ∈ runQ l p, PB q.1 (n + 4 * m * l.length)
  | [], _, _, _, _, q, hq => by cases hq
  | x :: t, p, n, hp, h, q, hq => by
    have h1 := PB.stq hm hp (h x (by simp))
    rw [List.length_cons, Nat.mul_succ]
    rcases List.mem_cons.1 hq with rfl | hq
    · exact h1.more (by omega)
    · exact (runQ_PB m hm t _ _ h1 (fun y hy => h y (List.mem_cons_of_mem _ hy)) q hq).more (by omega)
theorem TextParse_calls (m : Nat) (hm : 4 ≤ m) (l : List Stq) (v : Value) (w : World) (hv : RdF w v 3 l.length (stqCells l)) (hok : ∀ x ∈ l, SqOk m x) (hlm : 4 * m * l.length ≤ 4000000000000) (ht : Tabs w.heap.size w) :
    Calls Tryz.prog 8 #[v] w fun e w' => ∃ u L, e = .returned u ∧ L.map (fun x => (x.st, x.told)) = runQ l p0 ∧ RdEv w' u L ∧ Below w.heap.size w w' := by
  have hl : l.length ≤ 250000000000 := by
    have := Nat.mul_le_mul_right l.length (show 16 ≤ 4 * m by omega)
    omega
  have HLM := hid hlm
  have HM := hid hm
  clear hlm hm
  obtain ⟨A, c, rfl, hc, _⟩ := hv.form
  have HV := hid hv
  have HT := hid ht
  have HOK := hid hok
  have hb1 : Below w.heap.size w (w.alloc (.cells #[.map none, .bool false, .int .i64 0, .slice none 0 0] 51)) := (Below.refl _ w).alloc (Nat.le_refl _) _
  have hsz1 : (w.alloc (.cells #[.map none, .bool false, .int .i64 0, .slice none 0 0] 51)).heap.size = w.heap.size + 1 := by show (w.heap.push _).size = _; rw [Array.size_push]
  have HTP := hid (show TP w ((w.alloc (.cells #[.map none, .bool false, .int .i64 0, .slice none 0 0] 51)).alloc (.cells #[] 35)) (.slice (some ⟨w.heap.size + 1, 0, none⟩) 0 0) [] (.map none) (.slice none 0 0) p0 from
    ⟨(PA.zero w).below ((Below.refl _ _).alloc (Nat.le_refl _) _), hb1.alloc hb1.size _, by have := own_empty (w.alloc (.cells #[.map none, .bool false, .int .i64 0, .slice none 0 0] 51)) 35 5; rw [hsz1] at this; exact own_base this (by omega), fun e he => by cases he⟩)
  clear hv ht hok hb1 hsz1
  go_enter Tryz.func8, Tryz.ntmps8
  go_wp2_with fail
  generalize (w.alloc (.cells #[.map none, .bool false, .int .i64 0, .slice none 0 0] 51)).alloc (.cells #[] 35) = w1 at *
  go_loopw [4, 6, 7, 11] (fun vo _ _ u wr => ∃ (k : Nat) (L : List EV) (st : PSt) (cm ev : Value), k ≤ l.length ∧ u = .int .i64 k ∧ TP w wr vo L cm ev st ∧ PB st (4 * m * k) ∧ Hid (L.map (fun x => (x.st, x.told)) ++ runQ (l.drop k) st = runQ l p0) ∧ L.length = k) (fun _ _ _ u _ => l.length - (intOf u).toNat)
  case atStart => exact ⟨0, [], p0, _, _, by omega, rfl, HTP.out, PB.zero.more (Nat.zero_le _), hid rfl, rfl⟩
  case round =>
    obtain ⟨k, L, st, cm, ev, hk, rfl, htp, hpb, hacc, hLk⟩ := hrel
    by_cases hlt : k < l.length
    · obtain ⟨x, hx⟩ : ∃ x, l[k]? = some x := ⟨_, List.getElem?_eq_getElem hlt⟩
      obtain ⟨g, o, rfl, hcl⟩ := (HV.out.below htp.below).at (by omega)
      obtain ⟨q0, q1, q2⟩ := stq_get hx
      have hc0 := hcl _ _ q0
      have hc1 := hcl _ _ q1
      have hc2 := hcl _ _ q2
      rw [← Nat.add_assoc] at hc1 hc2
      have hxo := HOK.out x (List.mem_of_getElem? hx)
      have hlt' : (k : Int) < (l.length : Int) := by omega
      have HACC := hid (show L.map (fun x => (x.st, x.told)) ++ (stq st x, toldQ (stq st x) x) :: runQ (l.drop (k + 1)) (stq st x) = runQ l p0 by
        rw [← hacc.out, List.drop_eq_getElem_cons hlt, (List.getElem?_eq_some_iff.1 hx).2]
        rfl)
      have HPB := hid hpb
      have hpb2 := PB.stq HM.out hpb hxo
      have HKL := hid (show 4 * m * k + 4 * m ≤ 4000000000000 by
        have h1 := Nat.mul_le_mul_left (4 * m) (show k + 1 ≤ l.length from hlt)
        have h2 := HLM.out
        rw [Nat.mul_succ] at h1
        omega)
      have HPB2 := hid hpb2
      have hT2 : TP w (wr.alloc (.cells #[.int .i64 x.kind, .int .i32 x.rune, .string ⟨x.text.toArray⟩] 29)) u4 L cm ev st := htp.call ((Below.refl _ wr).alloc (Nat.le_refl _) _)
      have HT2 := hid hT2
      have HTB := hid (HT.out.below hT2.below)
      have HLO := hid hxo.lo
      have HHI := hid hxo.hi
      have HTX := hid hxo.text
      have HSZ := hid hxo.size
      clear hacc hcl q0 q1 q2 hx hxo hpb hpb2 hT2 htp
      obtain ⟨xk, xr, xt⟩ := x
      simp only at HLO HHI HTX HSZ HT2 HTB hc0 hc1 hc2
      by_cases h0 : xk = 0
      · subst h0
        have hst : stq st ⟨0, xr, xt⟩ = st.consume atoiF Lib.trimSpaceD xr := if_pos rfl
        have htd : toldQ (stq st ⟨0, xr, xt⟩) ⟨0, xr, xt⟩ = [] := if_neg (by simp)
        rw [htd, hst] at HACC
        rw [hst] at HPB2
        have KX := hid (Consume_calls w.heap.size w.heap.size cm ev st xr _ HT2.out.below.size HTB.out HT2.out.pa HLO.out HHI.out (by have := HPB.out.few; have := HKL.out; omega) HPB.out.short)
        go_upto_region 14 with (go_at_call 16; (with_reducible refine KX.out.mono ?_); rintro e w3 ⟨rfl, cm3, ev3, hpa3, hmf3⟩; have HT3 := hid (HT2.out.step hmf3 hpa3); clear hpa3 hmf3)
        clear KX hst htd
        have HFEW := hid HPB2.out.few
        have KI := hid (fun (w' : World) (h : PA w' w.heap.size w.heap.size cm3 ev3 (st.consume atoiF Lib.trimSpaceD xr)) => InSequence_calls w.heap.size w.heap.size cm3 ev3 (st.consume atoiF Lib.trimSpaceD xr) w' h)
        have KO := hid (fun (w' : World) (h : PA w' w.heap.size w.heap.size cm3 ev3 (st.consume atoiF Lib.trimSpaceD xr)) => IsOpen_calls w.heap.size w.heap.size cm3 ev3 (st.consume atoiF Lib.trimSpaceD xr) w' h)
        have KC := hid (fun (w' : World) (h : PA w' w.heap.size w.heap.size cm3 ev3 (st.consume atoiF Lib.trimSpaceD xr)) => CodesAny_calls w.heap.size w.heap.size cm3 ev3 (st.consume atoiF Lib.trimSpaceD xr) w' h HPB2.out.rise (by have := HFEW.out; have := HKL.out; omega))
        have KS := hid (fun (w' : World) (h : PA w' w.heap.size w.heap.size cm3 ev3 (st.consume atoiF Lib.trimSpaceD xr)) => Sequence_calls w.heap.size w.heap.size cm3 ev3 (st.consume atoiF Lib.trimSpaceD xr) w' h HPB2.out.rise (by have := HFEW.out; have := HKL.out; omega))
        clear hc0 hc1 hc2 HT2 HTB HLO HHI HTX HSZ HPB
        go_wp2_with (first
          | (go_at_call 19; (with_reducible refine (KI.out _ HT3.out.pa).mono ?_); rintro e w4 ⟨rfl, rfl⟩)
          | (go_at_call 20; (with_reducible refine (KO.out _ HT3.out.pa).mono ?_); rintro e w4 ⟨rfl, rfl⟩)
          | (go_at_call 21; (with_reducible refine (KC.out _ HT3.out.pa).mono ?_); rintro e w4 ⟨A4, c4, rfl, hown4, hb4⟩; have HT4 := hid (HT3.out.call hb4))
          | (go_at_call 22; (with_reducible refine (KS.out _ HT4.out.pa).mono ?_); rintro e w5 ⟨rfl, hb5⟩; have HT5 := hid (HT4.out.call hb5); have hown5 := own_base (own_below hown4 hb5) HT3.out.below.size; clear hown4 hb4 hb5)
          | (at_builtin; refine append_box rfl _ _ 30 35 (.agg #[.bool false, .bool false, .slice none 0 0, .string ⟨#[]⟩, .string ⟨#[]⟩]) 5 64 rfl Tryz.underlying30 infoEscState rfl (by decide) w.heap.size u4 L.length (evCells L) rfl HT5.out.own 1 35 (evRow ⟨st.consume atoiF Lib.trimSpaceD xr, [], .slice A4 (st.consume atoiF Lib.trimSpaceD xr).codes.length c4⟩) rfl rfl (evRow_one _ A4 _ c4 rfl) (by omega) (by decide) HT5.out.below.size ?_; intro v6 w6 hown6 hg6))
        go_roundw
        case rel => exact ⟨k + 1, L ++ [⟨st.consume atoiF Lib.trimSpaceD xr, [], .slice A4 (st.consume atoiF Lib.trimSpaceD xr).codes.length c4⟩], st.consume atoiF Lib.trimSpaceD xr, cm3, ev3, by omega, by go_num, HT5.out.add _ hown5 hown6 hg6, HPB2.out.more (Nat.le_of_eq (Nat.mul_succ _ _).symm), hid (by rw [← HACC.out]; simp), by simp; omega⟩
        case measure => simp [intOf]; omega
      · have e0 : (xk == 0) = false := by simpa using h0
        by_cases h1 : xk = 1
        · subst h1
          have hst : stq st ⟨1, xr, xt⟩ = st.parse atoiF Lib.trimSpaceD (runesL xt) := by unfold stq; rw [if_neg (by simp), if_pos rfl]
          have htd : toldQ (stq st ⟨1, xr, xt⟩) ⟨1, xr, xt⟩ = seqOf itoaF (st.parse atoiF Lib.trimSpaceD (runesL xt)).codes := by rw [hst]; exact if_pos rfl
          rw [htd, hst] at HACC
          rw [hst] at HPB2
          have KX := hid (ParseString_calls w.heap.size w.heap.size (4 * m * k) cm ev st xt _ HT2.out.below.size HTB.out HT2.out.pa HPB.out HSZ.out (by have := HTX.out; have := HKL.out; omega))
          go_upto_region 14 with (go_at_call 17; (with_reducible refine KX.out.mono ?_); rintro e w3 ⟨cm3, ev3, rfl, hpa3, hmf3⟩; have HT3 := hid (HT2.out.step hmf3 hpa3); clear hpa3 hmf3)
          clear KX hst htd
          have HFEW := hid HPB2.out.few
          have KI := hid (fun (w' : World) (h : PA w' w.heap.size w.heap.size cm3 ev3 (st.parse atoiF Lib.trimSpaceD (runesL xt))) => InSequence_calls w.heap.size w.heap.size cm3 ev3 (st.parse atoiF Lib.trimSpaceD (runesL xt)) w' h)
          have KO := hid (fun (w' : World) (h : PA w' w.heap.size w.heap.size cm3 ev3 (st.parse atoiF Lib.trimSpaceD (runesL xt))) => IsOpen_calls w.heap.size w.heap.size cm3 ev3 (st.parse atoiF Lib.trimSpaceD (runesL xt)) w' h)
          have KC := hid (fun (w' : World) (h : PA w' w.heap.size w.heap.size cm3 ev3 (st.parse atoiF Lib.trimSpaceD (runesL xt))) => CodesAny_calls w.heap.size w.heap.size cm3 ev3 (st.parse atoiF Lib.trimSpaceD (runesL xt)) w' h HPB2.out.rise (by have := HFEW.out; have := HKL.out; omega))
          have KS := hid (fun (w' : World) (h : PA w' w.heap.size w.heap.size cm3 ev3 (st.parse atoiF Lib.trimSpaceD (runesL xt))) => Sequence_calls w.heap.size w.heap.size cm3 ev3 (st.parse atoiF Lib.trimSpaceD (runesL xt)) w' h HPB2.out.rise (by have := HFEW.out; have := HKL.out; omega))
          clear hc0 hc1 hc2 HT2 HTB HLO HHI HTX HSZ HPB
          go_wp2_with (first
            | (go_at_call 19; (with_reducible refine (KI.out _ HT3.out.pa).mono ?_); rintro e w4 ⟨rfl, rfl⟩)
            | (go_at_call 20; (with_reducible refine (KO.out _ HT3.out.pa).mono ?_); rintro e w4 ⟨rfl, rfl⟩)
            | (go_at_call 21; (with_reducible refine (KC.out _ HT3.out.pa).mono ?_); rintro e w4 ⟨A4, c4, rfl, hown4, hb4⟩; have HT4 := hid (HT3.out.call hb4))
            | (go_at_call 22; (with_reducible refine (KS.out _ HT4.out.pa).mono ?_); rintro e w5 ⟨rfl, hb5⟩; have HT5 := hid (HT4.out.call hb5); have hown5 := own_base (own_below hown4 hb5) HT3.out.below.size; clear hown4 hb4 hb5)
            | (at_builtin; refine append_box rfl _ _ 30 35 (.agg #[.bool false, .bool false, .slice none 0 0, .string ⟨#[]⟩, .string ⟨#[]⟩]) 5 64 rfl Tryz.underlying30 infoEscState rfl (by decide) w.heap.size u4 L.length (evCells L) rfl HT5.out.own 1 35 (evRow ⟨st.parse atoiF Lib.trimSpaceD (runesL xt), seqOf itoaF (st.parse atoiF Lib.trimSpaceD (runesL xt)).codes, .slice A4 (st.parse atoiF Lib.trimSpaceD (runesL xt)).codes.length c4⟩) rfl rfl (evRow_one _ A4 _ c4 rfl) (by omega) (by decide) HT5.out.below.size ?_; intro v6 w6 hown6 hg6))
          go_roundw
          case rel => exact ⟨k + 1, L ++ [⟨st.parse atoiF Lib.trimSpaceD (runesL xt), seqOf itoaF (st.parse atoiF Lib.trimSpaceD (runesL xt)).codes, .slice A4 (st.parse atoiF Lib.trimSpaceD (runesL xt)).codes.length c4⟩], st.parse atoiF Lib.trimSpaceD (runesL xt), cm3, ev3, by omega, by go_num, HT5.out.add _ hown5 hown6 hg6, HPB2.out.more (Nat.le_of_eq (Nat.mul_succ _ _).symm), hid (by rw [← HACC.out]; simp), by simp; omega⟩
          case measure => simp [intOf]; omega
        · have e1 : (xk == 1) = false := by simpa using h1
          by_cases h2 : xk = 2
          · subst h2
            have hst : stq st ⟨2, xr, xt⟩ = st.reset := by unfold stq; rw [if_neg (by simp), if_neg (by simp), if_pos rfl]
            have htd : toldQ (stq st ⟨2, xr, xt⟩) ⟨2, xr, xt⟩ = [] := if_neg (by simp)
            rw [htd, hst] at HACC
            rw [hst] at HPB2
            have KX := hid (Reset_calls w.heap.size w.heap.size cm ev st _ HT2.out.pa)
            go_upto_region 14 with (go_at_call 18; (with_reducible refine KX.out.mono ?_); rintro e w3 ⟨rfl, cm3, ev3, hpa3, hmf3⟩; have HT3 := hid (HT2.out.step hmf3 hpa3); clear hpa3 hmf3)
            clear KX hst htd
            have HFEW := hid HPB2.out.few
            have KI := hid (fun (w' : World) (h : PA w' w.heap.size w.heap.size cm3 ev3 (st.reset)) => InSequence_calls w.heap.size w.heap.size cm3 ev3 st.reset w' h)
            have KO := hid (fun (w' : World) (h : PA w' w.heap.size w.heap.size cm3 ev3 (st.reset)) => IsOpen_calls w.heap.size w.heap.size cm3 ev3 st.reset w' h)
            have KC := hid (fun (w' : World) (h : PA w' w.heap.size w.heap.size cm3 ev3 (st.reset)) => CodesAny_calls w.heap.size w.heap.size cm3 ev3 st.reset w' h HPB2.out.rise (by have := HFEW.out; have := HKL.out; omega))
            have KS := hid (fun (w' : World) (h : PA w' w.heap.size w.heap.size cm3 ev3 (st.reset)) => Sequence_calls w.heap.size w.heap.size cm3 ev3 st.reset w' h HPB2.out.rise (by have := HFEW.out; have := HKL.out; omega))
            clear hc0 hc1 hc2 HT2 HTB HLO HHI HTX HSZ HPB
            go_wp2_with (first
              | (go_at_call 19; (with_reducible refine (KI.out _ HT3.out.pa).mono ?_); rintro e w4 ⟨rfl, rfl⟩)
              | (go_at_call 20; (with_reducible refine (KO.out _ HT3.out.pa).mono ?_); rintro e w4 ⟨rfl, rfl⟩)
              | (go_at_call 21; (with_reducible refine (KC.out _ HT3.out.pa).mono ?_); rintro e w4 ⟨A4, c4, rfl, hown4, hb4⟩; have HT4 := hid (HT3.out.call hb4))
              | (go_at_call 22; (with_reducible refine (KS.out _ HT4.out.pa).mono ?_); rintro e w5 ⟨rfl, hb5⟩; have HT5 := hid (HT4.out.call hb5); have hown5 := own_base (own_below hown4 hb5) HT3.out.below.size; clear hown4 hb4 hb5)
              | (at_builtin; refine append_box rfl _ _ 30 35 (.agg #[.bool false, .bool false, .slice none 0 0, .string ⟨#[]⟩, .string ⟨#[]⟩]) 5 64 rfl Tryz.underlying30 infoEscState rfl (by decide) w.heap.size u4 L.length (evCells L) rfl HT5.out.own 1 35 (evRow ⟨st.reset, [], .slice A4 st.reset.codes.length c4⟩) rfl rfl (evRow_one _ A4 _ c4 rfl) (by omega) (by decide) HT5.out.below.size ?_; intro v6 w6 hown6 hg6))
            go_roundw
            case rel => exact ⟨k + 1, L ++ [⟨st.reset, [], .slice A4 st.reset.codes.length c4⟩], st.reset, cm3, ev3, by omega, by go_num, HT5.out.add _ hown5 hown6 hg6, HPB2.out.more (Nat.le_of_eq (Nat.mul_succ _ _).symm), hid (by rw [← HACC.out]; simp), by simp; omega⟩
            case measure => simp [intOf]; omega
          · have e2 : (xk == 2) = false := by simpa using h2
            have hst : stq st ⟨xk, xr, xt⟩ = st := by unfold stq; rw [if_neg h0, if_neg h1, if_neg h2]
            have htd : toldQ (stq st ⟨xk, xr, xt⟩) ⟨xk, xr, xt⟩ = [] := if_neg h1
            rw [htd, hst] at HACC
            rw [hst] at HPB2
            go_upto_region 14 with (fail)
            obtain ⟨cm3, rfl⟩ : ∃ c, c = cm := ⟨_, rfl⟩
            obtain ⟨ev3, rfl⟩ : ∃ c, c = ev := ⟨_, rfl⟩
            have HT3 := HT2
            generalize wr.alloc (.cells #[.int .i64 xk, .int .i32 xr, .string ⟨xt.toArray⟩] 29) = w3 at *
            clear hst htd
            have HFEW := hid HPB2.out.few
            have KI := hid (fun (w' : World) (h : PA w' w.heap.size w.heap.size cm3 ev3 (st)) => InSequence_calls w.heap.size w.heap.size cm3 ev3 st w' h)
            have KO := hid (fun (w' : World) (h : PA w' w.heap.size w.heap.size cm3 ev3 (st)) => IsOpen_calls w.heap.size w.heap.size cm3 ev3 st w' h)
            have KC := hid (fun (w' : World) (h : PA w' w.heap.size w.heap.size cm3 ev3 (st)) => CodesAny_calls w.heap.size w.heap.size cm3 ev3 st w' h HPB2.out.rise (by have := HFEW.out; have := HKL.out; omega))
            have KS := hid (fun (w' : World) (h : PA w' w.heap.size w.heap.size cm3 ev3 (st)) => Sequence_calls w.heap.size w.heap.size cm3 ev3 st w' h HPB2.out.rise (by have := HFEW.out; have := HKL.out; omega))
            clear hc0 hc1 hc2 HT2 HTB HLO HHI HTX HSZ HPB
            go_wp2_with (first
              | (go_at_call 19; (with_reducible refine (KI.out _ HT3.out.pa).mono ?_); rintro e w4 ⟨rfl, rfl⟩)
              | (go_at_call 20; (with_reducible refine (KO.out _ HT3.out.pa).mono ?_); rintro e w4 ⟨rfl, rfl⟩)
              | (go_at_call 21; (with_reducible refine (KC.out _ HT3.out.pa).mono ?_); rintro e w4 ⟨A4, c4, rfl, hown4, hb4⟩; have HT4 := hid (HT3.out.call hb4))
              | (go_at_call 22; (with_reducible refine (KS.out _ HT4.out.pa).mono ?_); rintro e w5 ⟨rfl, hb5⟩; have HT5 := hid (HT4.out.call hb5); have hown5 := own_base (own_below hown4 hb5) HT3.out.below.size; clear hown4 hb4 hb5)
              | (at_builtin; refine append_box rfl _ _ 30 35 (.agg #[.bool false, .bool false, .slice none 0 0, .string ⟨#[]⟩, .string ⟨#[]⟩]) 5 64 rfl Tryz.underlying30 infoEscState rfl (by decide) w.heap.size u4 L.length (evCells L) rfl HT5.out.own 1 35 (evRow ⟨st, [], .slice A4 st.codes.length c4⟩) rfl rfl (evRow_one _ A4 _ c4 rfl) (by omega) (by decide) HT5.out.below.size ?_; intro v6 w6 hown6 hg6))
            go_roundw
            case rel => exact ⟨k + 1, L ++ [⟨st, [], .slice A4 st.codes.length c4⟩], st, cm3, ev3, by omega, by go_num, HT5.out.add _ hown5 hown6 hg6, HPB2.out.more (Nat.le_of_eq (Nat.mul_succ _ _).symm), hid (by rw [← HACC.out]; simp), by simp; omega⟩
            case measure => simp [intOf]; omega
    · have hk2 : k = l.length := by omega
      have hlt' : ¬ (k : Int) < (l.length : Int) := by omega
      have HA := hid (show L.map (fun x => (x.st, x.told)) = runQ l p0 by rw [← hacc.out, List.drop_of_length_le (by omega)]; simp [runQ])
      have HTP := hid htp
      clear hacc htp
      go_wp2_with fail
      go_ret
      refine ⟨_, rfl, L, HA.out, ⟨RdF.of_own HTP.out.own (by omega), fun e he => RdI.of_own (HTP.out.codes e he) ?_⟩, HTP.out.below⟩
      obtain ⟨q, hq, hqe⟩ : ∃ q ∈ runQ l p0, q.1 = e.st := ⟨(e.st, e.told), by rw [← HA.out]; exact List.mem_map.2 ⟨e, he, rfl⟩, rfl⟩
      rw [← hqe]
      have := (runQ_PB m HM.out l p0 0 PB.zero HOK.out q hq).few
      have := HLM.out
      omega
end Go.Proofs.YtmljkiohekogbaaGreatDoor
