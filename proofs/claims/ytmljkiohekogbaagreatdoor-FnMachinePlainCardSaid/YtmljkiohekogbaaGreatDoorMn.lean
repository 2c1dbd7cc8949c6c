import Derived.Test.YtmljkiohekogbaaGreatDoorMm
import Derived.WalkSpells
namespace Go.Proofs.YtmljkiohekogbaaGreatDoor
open Go.RowKit Go.Maps
set_option linter.unusedVariables false
set_option linter.unusedSimpArgs false
set_option maxHeartbeats 4000000
set_option maxRecDepth 100000
attribute [local go_sem] S_extract S_append run_cut_S run_head_S run_tail_S Nat.add_sub_cancel_left

theorem PA.grown {w w' : World} {base p b : Nat} {ev : Value} {st : PSt} {c c' : List Int} (H : PA w base p (.map (some b)) ev st) (hc : CM w b c) (hg : w.grownBy w' (some b)) (hb : base ≤ b) (hc' : CM w' b c') : PA w' base p (.map (some b)) ev { st with codes := c' } := by
  refine ⟨grown_heap hg H.row (H.ne_map hc), H.le, own_step H.own fun k hk => ?_, .inr ⟨b, rfl, hb, hc'⟩⟩
  obtain ⟨C, fz, hC⟩ := own_typed H.own k hk
  refine (grown_heap hg hC fun e => ?_).trans hC.symm
  obtain ⟨es, ck, h1⟩ := hc.obj
  subst e
  rw [hC] at h1
  injection h1 with h1
  cases h1
theorem MF.of_grown {w w' : World} {base b : Nat} (hg : w.grownBy w' (some b)) (hb : base ≤ b) (hbw : base ≤ w.heap.size) : MF w w' base (.map (some b)) (.map (some b)) :=
  ⟨⟨hg.os, hg.tape, hg.output, hg.size, fun k hk => hg.block k (by omega) (fun e => by cases e; omega)⟩, fun g o h0 _ hc => grown_heap hg h0 (fun e => hc (by rw [e])), .inl rfl⟩
/-- what a parsed sequence leaves -/
def ParsePost (w : World) (base p : Nat) (cm ev : Value) (st : PSt) (c' : List Int) (e : Ending) (w' : World) : Prop :=
  e = .returned (.tuple #[]) ∧ ∃ b', base ≤ b' ∧ PA w' base p (.map (some b')) ev { st with codes := c' } ∧ CM w' b' c' ∧ MF w w' base cm (.map (some b'))
theorem PA.made {w : World} {base p : Nat} {ev : Value} {st : PSt} {cm : Value} (hbw : base ≤ w.heap.size) (H : PA w base p cm ev st) :
    PA ((w.alloc (.map #[] 0)).setCell ⟨p, 0, none⟩ (.map (some w.heap.size))) base p (.map (some w.heap.size)) ev { st with codes := [] } ∧ CM ((w.alloc (.map #[] 0)).setCell ⟨p, 0, none⟩ (.map (some w.heap.size))) w.heap.size [] ∧ MF w ((w.alloc (.map #[] 0)).setCell ⟨p, 0, none⟩ (.map (some w.heap.size))) base cm (.map (some w.heap.size)) := by
  have hA : Below w.heap.size w (w.alloc (.map #[] 0)) := (Below.refl _ _).alloc (Nat.le_refl _) _
  have HA := H.below hA
  have hne : w.heap.size ≠ p := by have := heap_lt H.row; omega
  have hm : CM (w.alloc (.map #[] 0)) w.heap.size [] := CM.made w
  have hr := HA.row
  refine ⟨HA.set 0 _ rfl rfl (.inr ⟨_, rfl, hbw, hne, hm⟩), ?_, ?_⟩
  · obtain ⟨es, ck, h1⟩ := hm.obj
    exact hm.heap ((heap_set_ne h1 hne _).trans h1.symm)
  · have h1 : MF w (w.alloc (.map #[] 0)) base cm cm := .of_below _ hA hbw
    have h2 := MF.of_set cm hr HA.le 0 (.map (some w.heap.size))
    have h3 := h1.trans h2
    exact ⟨h3.below, h3.keep, .inr ⟨_, Nat.le_refl _, rfl⟩⟩
theorem ParseSeq_calls (base p : Nat) (cm ev : Value) (st : PSt) (s : List UInt8) (kind : Int) (w : World) (hbw : base ≤ w.heap.size) (hs : s.length ≤ 10000000) (ht : Tabs base w) (H : PA w base p cm ev st) (hl : st.codes.length ≤ 8000000000000000) :
    Calls Tryz.prog 30 #[.pointer (some ⟨p, 0, none⟩), .string ⟨s.toArray⟩, .int .i64 kind] w (ParsePost w base p cm ev st (parseSeq atoiF Lib.trimSpaceD s kind st.codes)) := by
  have hsl := stripSeq_len kind s
  have KA := hid (fun (w' : World) => strip_calls p s kind w' (by omega))
  have KB := hid (fun (w' : World) (h1 : base ≤ w'.heap.size) (h2 : Tabs base w') => splitTrim_calls base p (stripSeq kind s) w' (by omega) h1 h2)
  obtain ⟨n, hn⟩ : ∃ n, n = (splitX 59 (stripSeq kind s)).length := ⟨_, rfl⟩
  obtain ⟨L, hL⟩ : ∃ L, L = (splitX 59 (stripSeq kind s)).map Lib.trimSpaceD := ⟨_, rfl⟩
  have hLn : L.length = n := by rw [hL, hn, List.length_map]
  have hpos := splitX_len 59 (stripSeq kind s)
  have hE : ∀ x ∈ L, x.length ≤ 1000000000 := by
    intro x hx
    rw [hL] at hx
    obtain ⟨y, hy, rfl⟩ := List.mem_map.1 hx
    have := splitX_each 59 (stripSeq kind s) y hy
    have := trim_len y
    omega
  obtain ⟨Cx, hCx⟩ : ∃ C, C = (all256 atoiF L.length L st.codes).1 := ⟨_, rfl⟩
  obtain ⟨ms, hms⟩ : ∃ C, C = (all256 atoiF L.length L st.codes).2 := ⟨_, rfl⟩
  have hres : parseSeq atoiF Lib.trimSpaceD s kind st.codes = regular atoiF L ms Cx := by rw [hCx, hms, hL]; rfl
  rw [← hn] at hpos
  have hn1 : 0 < n := hpos.2
  have hn2 : n ≤ 100000000 := by omega
  rw [← hL, ← hn] at KB
  have hal := all_len atoiF L.length L st.codes
  rw [← hCx] at hal
  have hP256 : ∀ (w' : World) (b : Nat) (e : Ending) (w'' : World), P256 w' b L st.codes e w'' → ∃ m mk, e = .returned (.map (some m)) ∧ w'.heap.size ≤ m ∧ CM w'' b Cx ∧ CM w'' m mk ∧ (∀ j : Nat, ms[j]? = some true ↔ (j : Int) ∈ mk) ∧ w'.grownBy w'' (some b) := by
    intro w' b e w'' h
    unfold P256 at h
    rw [← hCx, ← hms] at h
    exact h
  have HP256 := hid hP256
  have K2 := hid (fun (b g cp : Nat) (w' : World) (h1 : n ≤ cp) (h2 : TxtAt w' g L) (h3 : MapAt w' p b) (h4 : CM w' b st.codes) => (by
    have := (process256_calls p b g cp L st.codes w' (by omega) hE (by omega) h2 h3 h4 (by omega)).mono fun e w'' h => hP256 w' b e w'' h
    rw [hLn] at this
    exact this : Calls Tryz.prog 42 #[.pointer (some ⟨p, 0, none⟩), .slice (some ⟨g, 0, none⟩) n cp] w' (fun e w'' => ∃ m mk, e = .returned (.map (some m)) ∧ w'.heap.size ≤ m ∧ CM w'' b Cx ∧ CM w'' m mk ∧ (∀ j : Nat, ms[j]? = some true ↔ (j : Int) ∈ mk) ∧ w'.grownBy w'' (some b))))
  have K3 := hid (fun (b g cp m : Nat) (mk : List Int) (w' : World) (h0 : base ≤ w'.heap.size) (h1 : n ≤ cp) (h2 : TxtAt w' g L) (h3 : PA w' base p (.map (some b)) ev { st with codes := Cx }) (h4 : CM w' b Cx) (h5 : base ≤ b) (h6 : m ≠ b) (h7 : CM w' m mk) (h8 : ∀ j : Nat, ms[j]? = some true ↔ (j : Int) ∈ mk) => (by
    have := regular_calls base p b g cp m ev { st with codes := Cx } L mk ms w' h0 (by omega) hE (by omega) h2 h3 h4 h5 h6 h7 h8 (by show Cx.length ≤ _; omega)
    rw [hLn] at this
    exact this : Calls Tryz.prog 43 #[.pointer (some ⟨p, 0, none⟩), .slice (some ⟨g, 0, none⟩) n cp, .map (some m)] w' (ProcPost w' base p b ev { st with codes := Cx } (regular atoiF L ms Cx))))
  have HRES := hid hres
  have HLn := hid hLn
  have HT := hid ht
  have HSZ := hid hbw
  have hmm := @run_makeMap Tryz.prog
  have hz := H.facts.1
  have hfz := H.facts.2.2.2.2.1
  have HH := hid H
  have HN1 := hid hn1
  clear hL hn hpos hE hres hLn hal hsl ht hn1 hCx hms hP256
  rcases H.codes with ⟨rfl, hc0⟩ | ⟨b, rfl, hb, hc0⟩
  · have hq := fun (w : World) => run_eql_map_nil (P := Tryz.prog) w 47 3 4 none Tryz.underlying47
    have hA := heap_keep H.row ((Below.refl _ w).alloc (Nat.le_refl _) (.map #[] 0))
    have hz2 : (w.alloc (.map #[] 0)).cell? ⟨p, 0, none⟩ = some (.map none) := blk_cell hA 0
    have hfz2 : (w.alloc (.map #[] 0)).frozen? ⟨p, 0, none⟩ = false := blk_free hA 0
    obtain ⟨q1, q2, q3⟩ := PA.made hbw H
    have PU := hid q1
    have CU := hid (show CM ((w.alloc (.map #[] 0)).setCell ⟨p, 0, none⟩ (.map (some w.heap.size))) w.heap.size st.codes by rw [hc0]; exact q2)
    have FU := hid q3
    have hc0 := hid hc0
    clear H hA q1 q2 q3
    go_enter Tryz.func30, Tryz.ntmps30
    go_wp2_with (first
      | (go_at_call 40; (with_reducible refine (KA.out _).mono ?_); rintro e w1 ⟨rfl, hb1⟩; have P1 := hid (PU.out.below hb1); have C1 := hid (CU.out.heap (hb1.block w.heap.size CU.out.lt)); have F1 := hid (FU.out.trans (MF.of_below (.map (some w.heap.size)) hb1 (Nat.le_trans HSZ.out FU.out.below.size))); have T1 := hid (HT.out.below F1.out.below); clear hb1)
      | (go_at_call 41; (with_reducible refine (KB.out _ (Nat.le_trans HSZ.out F1.out.below.size) T1.out).mono ?_); rintro e w2 ⟨v, rfl, hown, hb2⟩; obtain ⟨g, cp, rfl, hcp, hg, htx⟩ := TxtAt.of_own hown HN1.out HLn.out; have P2 := hid (P1.out.below hb2); have C2 := hid (C1.out.heap (hb2.block w.heap.size C1.out.lt)); have F2 := hid (F1.out.trans (MF.of_below (.map (some w.heap.size)) hb2 (Nat.le_trans HSZ.out F1.out.below.size))); have TX := hid htx; have HCP := hid hcp; clear hb2 hown htx hcp hg)
      | (go_at_call 42; (with_reducible refine (K2.out w.heap.size g cp _ HCP.out TX.out (P2.out.mapAt C2.out) C2.out).mono ?_); rintro e w3 ⟨m, mk, rfl, hm1, hcb, hcmk, hms, hgr⟩; have P3 := hid (P2.out.grown C2.out hgr HSZ.out hcb); have F3 := hid (F2.out.trans (MF.of_grown hgr HSZ.out (Nat.le_trans HSZ.out F2.out.below.size))); have C3 := hid hcb; have M3 := hid hcmk; have MS := hid hms; have TX3 := hid (TX.out.grown hgr (TX.out.ne_map C2.out)); have HMB := hid (show m ≠ w.heap.size from by have := C2.out.lt; omega); clear hm1 hcb hcmk hms hgr)
      | (go_at_call 43; (with_reducible refine (K3.out w.heap.size g cp m mk _ (Nat.le_trans HSZ.out F3.out.below.size) HCP.out TX3.out P3.out C3.out HSZ.out HMB.out M3.out MS.out).mono ?_); rintro e w4 ⟨rfl, b4, hb4, hpa4, hcm4, hmf4⟩; have HF := hid (show ParsePost w base p (.map none) ev st (parseSeq atoiF Lib.trimSpaceD s kind st.codes) (.returned (.tuple #[])) w4 from ⟨rfl, b4, hb4, by rw [HRES.out]; exact hpa4, by rw [HRES.out]; exact hcm4, F3.out.trans hmf4⟩); clear hpa4 hcm4 hmf4))
    go_end0
    exact HF.out
  · have hq := fun (w : World) => run_eql_map_nil (P := Tryz.prog) w 47 3 4 (some b) Tryz.underlying47
    have HC := hid hc0
    clear H hc0
    go_enter Tryz.func30, Tryz.ntmps30
    go_wp2_with (first
      | (go_at_call 40; (with_reducible refine (KA.out _).mono ?_); rintro e w1 ⟨rfl, hb1⟩; have P1 := hid (HH.out.below hb1); have C1 := hid (HC.out.heap (hb1.block b HC.out.lt)); have F1 := hid (MF.of_below (.map (some b)) hb1 HSZ.out); have T1 := hid (HT.out.below F1.out.below); clear hb1)
      | (go_at_call 41; (with_reducible refine (KB.out _ (Nat.le_trans HSZ.out F1.out.below.size) T1.out).mono ?_); rintro e w2 ⟨v, rfl, hown, hb2⟩; obtain ⟨g, cp, rfl, hcp, hg, htx⟩ := TxtAt.of_own hown HN1.out HLn.out; have P2 := hid (P1.out.below hb2); have C2 := hid (C1.out.heap (hb2.block b C1.out.lt)); have F2 := hid (F1.out.trans (MF.of_below (.map (some b)) hb2 (Nat.le_trans HSZ.out F1.out.below.size))); have TX := hid htx; have HCP := hid hcp; clear hb2 hown htx hcp hg)
      | (go_at_call 42; (with_reducible refine (K2.out b g cp _ HCP.out TX.out (P2.out.mapAt C2.out) C2.out).mono ?_); rintro e w3 ⟨m, mk, rfl, hm1, hcb, hcmk, hms, hgr⟩; have P3 := hid (P2.out.grown C2.out hgr hb hcb); have F3 := hid (F2.out.trans (MF.of_grown hgr hb (Nat.le_trans HSZ.out F2.out.below.size))); have C3 := hid hcb; have M3 := hid hcmk; have MS := hid hms; have TX3 := hid (TX.out.grown hgr (TX.out.ne_map C2.out)); have HMB := hid (show m ≠ b from by have := C2.out.lt; omega); clear hm1 hcb hcmk hms hgr)
      | (go_at_call 43; (with_reducible refine (K3.out b g cp m mk _ (Nat.le_trans HSZ.out F3.out.below.size) HCP.out TX3.out P3.out C3.out hb HMB.out M3.out MS.out).mono ?_); rintro e w4 ⟨rfl, b4, hb4, hpa4, hcm4, hmf4⟩; have HF := hid (show ParsePost w base p (.map (some b)) ev st (parseSeq atoiF Lib.trimSpaceD s kind st.codes) (.returned (.tuple #[])) w4 from ⟨rfl, b4, hb4, by rw [HRES.out]; exact hpa4, by rw [HRES.out]; exact hcm4, F3.out.trans hmf4⟩); clear hpa4 hcm4 hmf4))
    go_end0
    exact HF.out
end Go.Proofs.YtmljkiohekogbaaGreatDoor
