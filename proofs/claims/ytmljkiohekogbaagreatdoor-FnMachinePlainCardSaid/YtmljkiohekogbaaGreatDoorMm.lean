import Derived.Test.YtmljkiohekogbaaGreatDoorMl
namespace Go.Proofs.YtmljkiohekogbaaGreatDoor
open Go.RowKit Go.Maps
set_option linter.unusedVariables false
set_option linter.unusedSimpArgs false
set_option maxHeartbeats 4000000
set_option maxRecDepth 100000
attribute [local go_sem] S_extract S_append run_cut_S run_head_S run_tail_S Nat.add_sub_cancel_left

theorem par256_ok {at_ : List UInt8 → Option Int} {l : List (List UInt8)} {k b : Int} (h : par256 at_ l = some (k, b)) : (0 ≤ k ∧ k ≤ 255) ∧ (b = 1000 ∨ b = 2000) ∧ 3 ≤ l.length := by
  have h3 := par256_three at_ h
  match l, h with
  | [], h => simp [par256] at h
  | [_], h => simp [par256] at h
  | [_, _], h => simp [par256] at h
  | x :: y :: z :: t, h =>
    have e : par256 at_ (x :: y :: z :: t) = match at_ x with
      | none => none
      | some n => if n = 38 ∨ n = 48 then (match at_ y with
        | none => none
        | some m => if m = 5 then (match at_ z with
          | none => none
          | some k => if 0 ≤ k ∧ k ≤ 255 then some (k, if n = 38 then 1000 else 2000) else none) else none) else none := rfl
    rw [e] at h
    cases hx : at_ x with
    | none => rw [hx] at h; cases h
    | some n =>
      rw [hx] at h
      simp only at h
      by_cases hn : n = 38 ∨ n = 48
      · rw [if_pos hn] at h
        cases hy : at_ y with
        | none => rw [hy] at h; cases h
        | some m =>
          rw [hy] at h
          simp only at h
          by_cases hm : m = 5
          · rw [if_pos hm] at h
            cases hz : at_ z with
            | none => rw [hz] at h; cases h
            | some k' =>
              rw [hz] at h
              simp only at h
              by_cases hk : 0 ≤ k' ∧ k' ≤ 255
              · rw [if_pos hk] at h
                simp only [Option.some.injEq, Prod.mk.injEq] at h
                obtain ⟨rfl, rfl⟩ := h
                refine ⟨hk, ?_, h3⟩
                by_cases h38 : n = 38
                · rw [if_pos h38]; exact .inl rfl
                · rw [if_neg h38]; exact .inr rfl
              · rw [if_neg hk] at h; cases h
          · rw [if_neg hm] at h; cases h
      · rw [if_neg hn] at h; cases h
theorem grown_of {w w' : World} (b : Nat) (h : Below w.heap.size w w') : w.grownBy w' (some b) := ⟨h.os, h.tape, h.output, h.size, fun i hi _ => h.block i hi⟩
theorem grown_trans {w w1 w2 : World} {b : Nat} (h : w.grownBy w1 (some b)) (k : w1.grownBy w2 (some b)) : w.grownBy w2 (some b) := h.andThen k (fun j hj => by cases hj; exact Or.inr rfl)
theorem grown_heap {w w' : World} {b g : Nat} {o : Obj} (h : w.grownBy w' (some b)) (h0 : w.heap[g]? = some o) (hne : g ≠ b) : w'.heap[g]? = some o :=
  (h.block g (heap_lt h0) (fun e => by cases e; exact hne rfl)).trans h0
theorem TxtAt.grown {w w' : World} {g b : Nat} {L : List (List UInt8)} (h : TxtAt w g L) (hg : w.grownBy w' (some b)) (hne : g ≠ b) : TxtAt w' g L := by
  obtain ⟨cur, h1, h2⟩ := h
  exact ⟨cur, grown_heap hg h1 hne, h2⟩
theorem MapAt.grown {w w' : World} {p b : Nat} (h : MapAt w p b) (hg : w.grownBy w' (some b)) : MapAt w' p b := by
  obtain ⟨h1, i, kk, ev, h2⟩ := h
  exact ⟨h1, i, kk, ev, grown_heap hg h2 h1⟩
theorem TxtAt.ne_map {w : World} {g b : Nat} {L : List (List UInt8)} {c : List Int} (h : TxtAt w g L) (hc : CM w b c) : g ≠ b := by
  obtain ⟨cur, h1, h2⟩ := h
  obtain ⟨es, ck, h3⟩ := hc.obj
  intro e
  subst e
  rw [h1] at h3
  injection h3 with h3
  cases h3
/-- which pieces are marked, in what is left from i on -/
def Marks (ms0 : List Bool) (mk : List Int) (i : Nat) (ms : List Bool) : Prop := ∀ j : Nat, ms0[j]? = some true ↔ ((j : Int) ∈ mk ∨ (i ≤ j ∧ ms[j - i]? = some true))
theorem Marks.skip {ms0 : List Bool} {mk : List Int} {i : Nat} {ms : List Bool} (h : Marks ms0 mk i (false :: ms)) : Marks ms0 mk (i + 1) ms := fun j => by
  rw [h j]
  constructor
  · rintro (h1 | ⟨h1, h2⟩)
    · exact .inl h1
    · right
      by_cases e : j = i
      · subst e; simp at h2
      · obtain ⟨d, rfl⟩ : ∃ d, j = i + 1 + d := ⟨j - i - 1, by omega⟩
        refine ⟨by omega, ?_⟩
        rw [show i + 1 + d - i = d + 1 by omega, List.getElem?_cons_succ] at h2
        rw [show i + 1 + d - (i + 1) = d by omega]
        exact h2
  · rintro (h1 | ⟨h1, h2⟩)
    · exact .inl h1
    · right
      obtain ⟨d, rfl⟩ : ∃ d, j = i + 1 + d := ⟨j - i - 1, by omega⟩
      refine ⟨by omega, ?_⟩
      rw [show i + 1 + d - (i + 1) = d by omega] at h2
      rw [show i + 1 + d - i = d + 1 by omega, List.getElem?_cons_succ]
      exact h2
theorem Marks.three {ms0 : List Bool} {mk : List Int} {i : Nat} {ms : List Bool} (h : Marks ms0 mk i (true :: true :: true :: ms)) : Marks ms0 (insC ((i : Int) + 2) (insC ((i : Int) + 1) (insC (i : Int) mk))) (i + 3) ms := fun j => by
  rw [h j]
  simp only [mem_insC]
  constructor
  · rintro (h1 | ⟨h1, h2⟩)
    · exact .inl (.inr (.inr (.inr h1)))
    · by_cases e0 : j = i
      · exact .inl (.inr (.inr (.inl (by omega))))
      · by_cases e1 : j = i + 1
        · exact .inl (.inr (.inl (by omega)))
        · by_cases e2 : j = i + 2
          · exact .inl (.inl (by omega))
          · right
            obtain ⟨d, rfl⟩ : ∃ d, j = i + 3 + d := ⟨j - i - 3, by omega⟩
            refine ⟨by omega, ?_⟩
            rw [show i + 3 + d - i = d + 3 by omega] at h2
            rw [show i + 3 + d - (i + 3) = d by omega]
            simpa using h2
  · rintro ((h1 | h1 | h1 | h1) | ⟨h1, h2⟩)
    · right
      have e : j = i + 2 := by omega
      subst e
      exact ⟨by omega, by rw [show i + 2 - i = 2 by omega]; rfl⟩
    · right
      have e : j = i + 1 := by omega
      subst e
      exact ⟨by omega, by rw [show i + 1 - i = 1 by omega]; rfl⟩
    · right
      have e : j = i := by omega
      subst e
      exact ⟨by omega, by rw [Nat.sub_self]; rfl⟩
    · exact .inl h1
    · right
      obtain ⟨d, rfl⟩ : ∃ d, j = i + 3 + d := ⟨j - i - 3, by omega⟩
      refine ⟨by omega, ?_⟩
      rw [show i + 3 + d - (i + 3) = d by omega] at h2
      rw [show i + 3 + d - i = d + 3 by omega]
      simpa using h2
/-- what the search for colors of 256 leaves -/
def P256 (w : World) (b : Nat) (L : List (List UInt8)) (c0 : List Int) (e : Ending) (w' : World) : Prop :=
  ∃ m mk, e = .returned (.map (some m)) ∧ w.heap.size ≤ m ∧ CM w' b (all256 atoiF L.length L c0).1 ∧ CM w' m mk ∧ (∀ j : Nat, (all256 atoiF L.length L c0).2[j]? = some true ↔ (j : Int) ∈ mk) ∧ w.grownBy w' (some b)
theorem process256_calls (p b g cp : Nat) (L : List (List UInt8)) (c0 : List Int) (w : World) (hL : L.length ≤ 100000000) (hE : ∀ x ∈ L, x.length ≤ 1000000000) (hcp : L.length ≤ cp) (ht : TxtAt w g L) (hp : MapAt w p b) (hc : CM w b c0) (hl : c0.length ≤ 9000000000000000) :
    Calls Tryz.prog 42 #[.pointer (some ⟨p, 0, none⟩), .slice (some ⟨g, 0, none⟩) L.length cp] w (P256 w b L c0) := by
  have hbs := hc.lt
  have hgb := ht.ne_map hc
  have hmm := @run_makeMap Tryz.prog
  obtain ⟨C, hC⟩ : ∃ C, C = (all256 atoiF L.length L c0).1 := ⟨_, rfl⟩
  obtain ⟨ms0, hms⟩ : ∃ C, C = (all256 atoiF L.length L c0).2 := ⟨_, rfl⟩
  have HPOST : Hid (∀ w', (∃ mk, CM w' b C ∧ CM w' w.heap.size mk ∧ (∀ j : Nat, ms0[j]? = some true ↔ (j : Int) ∈ mk) ∧ w.grownBy w' (some b)) → P256 w b L c0 (.returned (.map (some w.heap.size))) w') := hid (fun w' ⟨mk, h1, h2, h3, h4⟩ => ⟨w.heap.size, mk, rfl, Nat.le_refl _, by rw [← hC]; exact h1, h2, by rw [← hms]; exact h3, h4⟩)
  have HC0 := hid hC
  have HM0 := hid hms
  have hA : Below w.heap.size w (w.alloc (.map #[] 0)) := (Below.refl _ _).alloc (Nat.le_refl _) _
  have HT := hid ht
  have HP := hid hp
  have HEE := hid hE
  have HST := hid (⟨hc.alloc _, CM.made w, grown_of b hA⟩ : CM (w.alloc (.map #[] 0)) b c0 ∧ CM (w.alloc (.map #[] 0)) w.heap.size [] ∧ w.grownBy (w.alloc (.map #[] 0)) (some b))
  have hmb : w.heap.size ≠ b := by omega
  clear hC hms ht hp hc hE hA
  go_enter Tryz.func42, Tryz.ntmps42
  go_wp2_with fail
  go_loopw [6] (fun u wr => ∃ (i f : Nat) (c mk : List Int), i ≤ L.length ∧ u = .int .i64 i ∧ CM wr b c ∧ CM wr w.heap.size mk ∧ w.grownBy wr (some b) ∧ L.length - i ≤ f ∧ mk.length ≤ i ∧ c.length + (L.length - i) ≤ c0.length + L.length ∧ Hid ((all256 atoiF f (L.drop i) c).1 = C ∧ Marks ms0 mk i (all256 atoiF f (L.drop i) c).2)) (fun u _ => L.length - (intOf u).toNat)
  case atStart =>
    refine ⟨0, L.length, c0, [], by omega, rfl, HST.out.1, HST.out.2.1, HST.out.2.2, by omega, by simp, by omega, hid ⟨by rw [List.drop_zero]; exact HC0.out.symm, fun j => ?_⟩⟩
    rw [List.drop_zero, ← HM0.out]
    simp
  case round =>
    obtain ⟨i, f, c, mk, hi, rfl, hcb, hcm, hgr, hf, hmk, hcl, hT⟩ := hrel
    by_cases hlt : i < L.length
    · have hlt' : (i : Int) < (L.length : Int) := by omega
      have KP := hid (parse256_calls p g cp i L wr hL HEE.out hcp hi (HT.out.grown hgr hgb))
      obtain ⟨f', rfl⟩ : ∃ f', f = f' + 1 := ⟨f - 1, by omega⟩
      obtain ⟨x, t, hd⟩ : ∃ x t, L.drop i = x :: t := by
        cases h : L.drop i with
        | nil => have := congrArg List.length h; simp at this; omega
        | cons x t => exact ⟨x, t, rfl⟩
      have hd1 : L.drop (i + 1) = t := by rw [← List.drop_drop, hd]; rfl
      have hd3 : L.drop (i + 3) = t.drop 2 := by rw [show i + 3 = i + 1 + 2 by omega, ← List.drop_drop, hd1]
      have HCB := hid hcb
      have HCM := hid hcm
      have HGR := hid hgr
      have HPA := hid (HP.out.grown hgr)
      rw [hd] at KP hT
      cases hpar : par256 atoiF (x :: t) with
      | none =>
        rw [hpar] at KP
        have KP2 := hid (show Calls _ _ _ _ (fun e w' => e = .returned (.tuple #[.int .i64 0, .int .i64 0, .bool false]) ∧ Below wr.heap.size wr w') from KP.out)
        have HT2 := hid (show (all256 atoiF f' (L.drop (i + 1)) c).1 = C ∧ Marks ms0 mk (i + 1) (all256 atoiF f' (L.drop (i + 1)) c).2 by
          have := hT.out
          unfold all256 at this
          rw [hpar] at this
          rw [hd1]
          exact ⟨this.1, this.2.skip⟩)
        clear hT hpar hd hd1 hd3 KP hcb hcm hgr
        go_wp2_with (go_at_call 55; (with_reducible refine KP2.out.mono ?_); rintro e w1 ⟨rfl, hb1⟩; have HB1 := hid hb1; clear hb1)
        go_roundw
        case rel => exact ⟨i + 1, f', c, mk, by omega, by go_num, HCB.out.heap (HB1.out.block b HCB.out.lt), HCM.out.heap (HB1.out.block _ HCM.out.lt), grown_trans HGR.out (grown_of b HB1.out), by omega, by omega, by omega, HT2⟩
        case measure => simp [intOf]; omega
      | some q =>
        obtain ⟨k, bs⟩ := q
        obtain ⟨hk, hbs2, h3⟩ := par256_ok hpar
        have h3' : i + 3 ≤ L.length := by
          have := congrArg List.length hd
          simp only [List.length_drop, List.length_cons] at this h3
          omega
        rw [hpar] at KP
        have KP2 := hid (show Calls _ _ _ _ (fun e w' => e = .returned (.tuple #[.int .i64 k, .int .i64 bs, .bool true]) ∧ Below wr.heap.size wr w') from KP.out)
        have l1 := set256_len bs k c
        have l2 := clear_len (bs == 1000) (set256 bs k c)
        have KS := hid (fun (w1 : World) (h1 : MapAt w1 p b) (h2 : CM w1 b c) => set256_calls p b bs k c w1 h1 h2 (by omega) hbs2 hk)
        have HT2 := hid (show (all256 atoiF f' (L.drop (i + 3)) (clearRange (bs == 1000) (set256 bs k c))).1 = C ∧ Marks ms0 (insC ((i : Int) + 2) (insC ((i : Int) + 1) (insC (i : Int) mk))) (i + 3) (all256 atoiF f' (L.drop (i + 3)) (clearRange (bs == 1000) (set256 bs k c))).2 by
          have := hT.out
          unfold all256 at this
          rw [hpar] at this
          rw [hd3]
          exact ⟨this.1, this.2.three⟩)
        have m1 := insC_le (i : Int) mk
        have m2 := insC_le ((i : Int) + 1) (insC (i : Int) mk)
        have m3 := insC_le ((i : Int) + 2) (insC ((i : Int) + 1) (insC (i : Int) mk))
        have lq : (clearRange (bs == 1000) (set256 bs k c)).length ≤ c.length + 1 := by omega
        clear hT hpar hd hd1 hd3 KP hcb hcm hgr l1 l2 h3 hk
        rcases hbs2 with rfl | rfl
        · have KR := hid (fun (w1 : World) (h1 : MapAt w1 p b) (h2 : CM w1 b (set256 1000 k c)) => clearRangeF_calls p b (set256 1000 k c) w1 h1 h2)
          go_wp2_with (first
            | (go_at_call 55; (with_reducible refine KP2.out.mono ?_); rintro e w1 ⟨rfl, hb1⟩; have C1 := hid (HCB.out.heap (hb1.block b HCB.out.lt)); have M1 := hid (HCM.out.heap (hb1.block _ HCM.out.lt)); have G1 := hid (grown_trans HGR.out (grown_of b hb1)); clear hb1)
            | (go_at_call 56; (with_reducible refine (KS.out _ (HP.out.grown G1.out) C1.out).mono ?_); rintro e w2 ⟨rfl, hc2, hm2⟩; have C2 := hid hc2; have M2 := hid (M1.out.heap (hm2.heap hmb)); have G2 := hid (grown_trans G1.out hm2.grown); clear hc2 hm2)
            | (go_at_call 57; (with_reducible refine (KR.out _ (HP.out.grown G2.out) C2.out).mono ?_); rintro e w3 ⟨rfl, hc3, hm3⟩; have C3 := hid hc3; have M3 := hid (M2.out.heap (hm3.heap hmb)); have G3 := hid (grown_trans G2.out hm3.grown); have tok1 : True := trivial; clear hc3 hm3)
            | (at_mapUpdate; have _t := tok1; refine wpList_putC _ rfl _ _ _ rfl w.heap.size _ rfl M3.out (by unfold maxLen; omega) _ rfl rfl (wf64 (by omega) (by omega)) ?_; intro w4 hc4 hm4; clear tok1; have C4 := hid (C3.out.heap (hm4.heap hmb.symm)); have M4 := hid hc4; have G4 := hid (G3.out.andThen hm4.grown (fun j hj => by cases hj; exact Or.inl (Nat.le_refl _))); have tok2 : True := trivial; clear hc4 hm4)
            | (at_mapUpdate; have _t := tok2; refine wpList_putC _ rfl _ _ _ rfl w.heap.size _ rfl M4.out (by unfold maxLen; omega) _ rfl rfl (wf64 (by omega) (by omega)) ?_; intro w5 hc5 hm5; clear tok2; have C5 := hid (C4.out.heap (hm5.heap hmb.symm)); have M5 := hid hc5; have G5 := hid (G4.out.andThen hm5.grown (fun j hj => by cases hj; exact Or.inl (Nat.le_refl _))); have tok3 : True := trivial; clear hc5 hm5)
            | (at_mapUpdate; have _t := tok3; refine wpList_putC _ rfl _ _ _ rfl w.heap.size _ rfl M5.out (by unfold maxLen; omega) _ rfl rfl (wf64 (by omega) (by omega)) ?_; intro w6 hc6 hm6; clear tok3; have C6 := hid (C5.out.heap (hm6.heap hmb.symm)); have M6 := hid hc6; have G6 := hid (G5.out.andThen hm6.grown (fun j hj => by cases hj; exact Or.inl (Nat.le_refl _))); clear hc6 hm6))
          go_roundw
          case rel => exact ⟨i + 3, f', _, _, by omega, by congr 1, C6.out, M6.out, G6.out, by omega, by omega, by have : (clearRange ((1000 : Int) == 1000) (set256 1000 k c)).length ≤ c.length + 1 := lq; show (clearRange true (set256 1000 k c)).length + _ ≤ _; have e : ((1000 : Int) == 1000) = true := rfl; rw [e] at this; omega, HT2⟩
          case measure => simp [intOf]; omega
        · have KR := hid (fun (w1 : World) (h1 : MapAt w1 p b) (h2 : CM w1 b (set256 2000 k c)) => clearRangeB_calls p b (set256 2000 k c) w1 h1 h2)
          go_wp2_with (first
            | (go_at_call 55; (with_reducible refine KP2.out.mono ?_); rintro e w1 ⟨rfl, hb1⟩; have C1 := hid (HCB.out.heap (hb1.block b HCB.out.lt)); have M1 := hid (HCM.out.heap (hb1.block _ HCM.out.lt)); have G1 := hid (grown_trans HGR.out (grown_of b hb1)); clear hb1)
            | (go_at_call 56; (with_reducible refine (KS.out _ (HP.out.grown G1.out) C1.out).mono ?_); rintro e w2 ⟨rfl, hc2, hm2⟩; have C2 := hid hc2; have M2 := hid (M1.out.heap (hm2.heap hmb)); have G2 := hid (grown_trans G1.out hm2.grown); clear hc2 hm2)
            | (go_at_call 57; (with_reducible refine (KR.out _ (HP.out.grown G2.out) C2.out).mono ?_); rintro e w3 ⟨rfl, hc3, hm3⟩; have C3 := hid hc3; have M3 := hid (M2.out.heap (hm3.heap hmb)); have G3 := hid (grown_trans G2.out hm3.grown); have tok1 : True := trivial; clear hc3 hm3)
            | (at_mapUpdate; have _t := tok1; refine wpList_putC _ rfl _ _ _ rfl w.heap.size _ rfl M3.out (by unfold maxLen; omega) _ rfl rfl (wf64 (by omega) (by omega)) ?_; intro w4 hc4 hm4; clear tok1; have C4 := hid (C3.out.heap (hm4.heap hmb.symm)); have M4 := hid hc4; have G4 := hid (G3.out.andThen hm4.grown (fun j hj => by cases hj; exact Or.inl (Nat.le_refl _))); have tok2 : True := trivial; clear hc4 hm4)
            | (at_mapUpdate; have _t := tok2; refine wpList_putC _ rfl _ _ _ rfl w.heap.size _ rfl M4.out (by unfold maxLen; omega) _ rfl rfl (wf64 (by omega) (by omega)) ?_; intro w5 hc5 hm5; clear tok2; have C5 := hid (C4.out.heap (hm5.heap hmb.symm)); have M5 := hid hc5; have G5 := hid (G4.out.andThen hm5.grown (fun j hj => by cases hj; exact Or.inl (Nat.le_refl _))); have tok3 : True := trivial; clear hc5 hm5)
            | (at_mapUpdate; have _t := tok3; refine wpList_putC _ rfl _ _ _ rfl w.heap.size _ rfl M5.out (by unfold maxLen; omega) _ rfl rfl (wf64 (by omega) (by omega)) ?_; intro w6 hc6 hm6; clear tok3; have C6 := hid (C5.out.heap (hm6.heap hmb.symm)); have M6 := hid hc6; have G6 := hid (G5.out.andThen hm6.grown (fun j hj => by cases hj; exact Or.inl (Nat.le_refl _))); clear hc6 hm6))
          go_roundw
          case rel => exact ⟨i + 3, f', _, _, by omega, by congr 1, C6.out, M6.out, G6.out, by omega, by omega, by have : (clearRange ((2000 : Int) == 1000) (set256 2000 k c)).length ≤ c.length + 1 := lq; show (clearRange false (set256 2000 k c)).length + _ ≤ _; have e : ((2000 : Int) == 1000) = false := rfl; rw [e] at this; omega, HT2⟩
          case measure => simp [intOf]; omega
    · have hlt' : ¬ (i : Int) < (L.length : Int) := by omega
      have HF := hid (show c = C ∧ ∀ j : Nat, ms0[j]? = some true ↔ (j : Int) ∈ mk by
        have h := hT.out
        rw [List.drop_eq_nil_of_le (by omega)] at h
        have e : all256 atoiF f [] c = (c, []) := by cases f <;> rfl
        rw [e] at h
        exact ⟨h.1, fun j => by rw [h.2 j]; simp⟩)
      have HCB := hid hcb
      have HCM := hid hcm
      have HGR := hid hgr
      clear hT hcb hcm hgr
      go_wp2_with fail
      go_ret
      exact HPOST.out _ ⟨mk, by rw [← HF.out.1]; exact HCB.out, HCM.out, HF.out.2, HGR.out⟩
/-- what the other codes leave -/
theorem regular_calls (base p b g cp m : Nat) (ev : Value) (st : PSt) (L : List (List UInt8)) (mk : List Int) (ms : List Bool) (w : World) (hbw : base ≤ w.heap.size) (hL : L.length ≤ 100000000) (hE : ∀ x ∈ L, x.length ≤ 1000000000) (hcp : L.length ≤ cp) (ht : TxtAt w g L)
    (H : PA w base p (.map (some b)) ev st) (hc : CM w b st.codes) (hb : base ≤ b) (hmb : m ≠ b) (hm : CM w m mk) (hms : ∀ j : Nat, ms[j]? = some true ↔ (j : Int) ∈ mk) (hl : st.codes.length ≤ 9000000000000000) :
    Calls Tryz.prog 43 #[.pointer (some ⟨p, 0, none⟩), .slice (some ⟨g, 0, none⟩) L.length cp, .map (some m)] w (ProcPost w base p b ev st (regular atoiF L ms st.codes)) := by
  obtain ⟨C, hC⟩ : ∃ C, C = regular atoiF L ms st.codes := ⟨_, rfl⟩
  rw [← hC]
  have HC0 := hid hC
  have HT := hid ht
  have HE := hid hE
  have HMS := hid hms
  have HM := hid hm
  have hcl := regular_len atoiF L ms st.codes
  have HST := hid (⟨H, hc, MF.refl w base (.map (some b))⟩ : PA w base p (.map (some b)) ev { st with codes := st.codes } ∧ CM w b st.codes ∧ MF w w base (.map (some b)) (.map (some b)))
  have hgb : (.map (some b) : Value) ≠ .map (some g) := fun e => by injection e with e; injection e with e; exact ht.ne_map hc e.symm
  have hmb2 : (.map (some b) : Value) ≠ .map (some m) := fun e => by injection e with e; injection e with e; exact hmb e.symm
  have hgb := hid hgb
  have hmb2 := hid hmb2
  have HSZ := hid hbw
  clear hC ht hE hms hm H hc hmb
  go_enter Tryz.func43, Tryz.ntmps43
  go_wp2_with fail
  go_loopw [12] (fun u wr => ∃ (i : Nat) (c : List Int) (b' : Nat), i ≤ L.length ∧ u = .int .i64 i ∧ base ≤ b' ∧ PA wr base p (.map (some b')) ev { st with codes := c } ∧ CM wr b' c ∧ MF w wr base (.map (some b)) (.map (some b')) ∧ c.length + (L.length - i) ≤ st.codes.length + L.length ∧ Hid (regular atoiF (L.drop i) (ms.drop i) c = C)) (fun u _ => L.length - (intOf u).toNat)
  case atStart => exact ⟨0, st.codes, b, by omega, rfl, hb, HST.out.1, HST.out.2.1, HST.out.2.2, by omega, hid (by rw [List.drop_zero, List.drop_zero]; exact HC0.out.symm)⟩
  case round =>
    obtain ⟨i, c, b', hi, rfl, hbb, hpa, hcm, hmf, hcn, hT⟩ := hrel
    have htx : TxtAt wr g L := HT.out.frame hmf hgb.out
    have hmm : CM wr m mk := by
      obtain ⟨es, ck, h1⟩ := HM.out.obj
      exact HM.out.heap ((hmf.keep m _ h1 (fun cs t fz e => by cases e) hmb2.out).trans h1.symm)
    by_cases hlt : i < L.length
    · obtain ⟨x, hx⟩ : ∃ x, L[i]? = some x := ⟨_, List.getElem?_eq_getElem hlt⟩
      have hlt' : (i : Int) < (L.length : Int) := by omega
      have hd : L.drop i = x :: L.drop (i + 1) := by
        obtain ⟨h1, h2⟩ := List.getElem?_eq_some_iff.1 hx
        rw [List.drop_eq_getElem_cons h1, h2]
      have hcx : wr.cell? ⟨g, i, none⟩ = some (.string ⟨x.toArray⟩) := htx.cell hx
      have lx := hid (HE.out x (List.mem_of_getElem? hx))
      have hmt : (ms.drop i).tail = ms.drop (i + 1) := List.tail_drop
      have hmh : (ms.drop i).head? = ms[i]? := by rw [List.head?_drop]
      have HPA := hid hpa
      have HCM := hid hcm
      have HMF := hid hmf
      have HMM := hid hmm
      by_cases hmi : (i : Int) ∈ mk
      · have hlk := hmm.look (x := (i : Int)) (wf64 (by omega) (by omega))
        rw [decide_eq_true hmi] at hlk
        have HT2 := hid (show regular atoiF (L.drop (i + 1)) (ms.drop (i + 1)) c = C by
          have := hT.out
          rw [hd] at this
          unfold regular at this
          rw [hmt, hmh, if_pos ((HMS.out i).2 hmi)] at this
          exact this)
        clear hd hx hT hmt hmh hmi hpa hcm hmf hmm htx
        go_wp2_with fail
        go_roundw
        case rel => exact ⟨i + 1, c, b', by omega, by go_num, hbb, HPA.out, HCM.out, HMF.out, by omega, HT2⟩
        case measure => simp [intOf]; omega
      · have hlk := hmm.look (x := (i : Int)) (wf64 (by omega) (by omega))
        rw [decide_eq_false hmi] at hlk
        have hnt : ¬ ms[i]? = some true := fun h => hmi ((HMS.out i).1 h)
        cases ax : atoiF x with
        | none =>
          have KX := hid (fun w' => Atoi_none ax w' lx.out)
          have HT2 := hid (show regular atoiF (L.drop (i + 1)) (ms.drop (i + 1)) c = C by
            have := hT.out
            rw [hd] at this
            unfold regular at this
            rw [hmt, hmh, if_neg hnt, ax] at this
            exact this)
          clear hd hx hT hmt hmh hmi hpa hcm hmf hmm htx hnt ax
          go_wp2_with (go_at_call 58; (with_reducible refine (KX.out _).mono ?_); rintro e w1 ⟨x0, T0, u0, rfl, hb1⟩; have HB1 := hid hb1; clear hb1)
          go_roundw
          case rel => exact ⟨i + 1, c, b', by omega, by go_num, hbb, HPA.out.below HB1.out, HCM.out.heap (HB1.out.block b' HCM.out.lt), HMF.out.trans (.of_below _ HB1.out (Nat.le_trans HSZ.out HMF.out.below.size)), by omega, HT2⟩
          case measure => simp [intOf]; omega
        | some n =>
          have KX := hid (fun w' => Atoi_some ax w' lx.out)
          have hnb := parseIF_bound x
          have hnn : -9223372036854775808 ≤ n ∧ n ≤ 9223372036854775807 := by
            unfold atoiF at ax
            split at ax
            · injection ax with ax; rw [← ax]; exact ⟨hnb.1, hnb.2.1⟩
            · cases ax
          obtain ⟨hn1, hn2⟩ := hnn
          have lp := proc_len n c
          have KQ := hid (fun (w1 : World) (h0 : base ≤ w1.heap.size) (h1 : PA w1 base p (.map (some b')) ev { st with codes := c }) (h2 : CM w1 b' c) => processCode_calls base p b' ev { st with codes := c } n w1 h0 h1 h2 hbb (by show c.length < _; omega) hn1 hn2)
          have HT2 := hid (show regular atoiF (L.drop (i + 1)) (ms.drop (i + 1)) (procCode n c) = C by
            have := hT.out
            rw [hd] at this
            unfold regular at this
            rw [hmt, hmh, if_neg hnt, ax] at this
            exact this)
          clear hd hx hT hmt hmh hmi hpa hcm hmf hmm htx hnt ax hnb hn1 hn2
          go_wp2_with (first
            | (go_at_call 58; (with_reducible refine (KX.out _).mono ?_); rintro e w1 ⟨rfl, hb1⟩; have HB1 := hid hb1; have P1 := hid (HPA.out.below hb1); have C1 := hid (HCM.out.heap (hb1.block b' HCM.out.lt)); have F1 := hid (HMF.out.trans (.of_below _ hb1 (Nat.le_trans HSZ.out HMF.out.below.size))); clear hb1)
            | (go_at_call 59; (with_reducible refine (KQ.out _ (Nat.le_trans HSZ.out F1.out.below.size) P1.out C1.out).mono ?_); rintro e w2 ⟨rfl, b2, hb2, hpa2, hcm2, hmf2⟩; have P2 := hid hpa2; have C2 := hid hcm2; have F2 := hid (F1.out.trans hmf2); clear hpa2 hcm2 hmf2))
          go_roundw
          case rel => exact ⟨i + 1, procCode n c, b2, by omega, by go_num, hb2, P2.out, C2.out, F2.out, by omega, HT2⟩
          case measure => simp [intOf]; omega
    · have hlt' : ¬ (i : Int) < (L.length : Int) := by omega
      have HF := hid (show c = C by
        have h := hT.out
        rw [List.drop_eq_nil_of_le (by omega)] at h
        exact h)
      have HPP := hid (show ProcPost w base p b ev st C (.returned (.tuple #[])) wr from ⟨rfl, b', hbb, by rw [← HF.out]; exact hpa, by rw [← HF.out]; exact hcm, hmf⟩)
      clear hT hpa hcm hmf htx hmm
      go_wp2_with fail
      go_end0
      exact HPP.out
end Go.Proofs.YtmljkiohekogbaaGreatDoor
