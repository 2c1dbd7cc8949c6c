import Derived.Test.YthjpchabeemfmaaDoorYo
import Derived.Shelf.Unicode.PredsPay
import Derived.Shelf.Unicode.IsSpaceAny
import Derived.Shelf.Strings.CaseAny
namespace Go.Proofs.YthjpchabeemfmaaDoor
open Go.Shelf Go.RowKit Go.Lib
set_option linter.unusedVariables false
set_option linter.unusedSimpArgs false
set_option maxHeartbeats 4000000
set_option maxRecDepth 100000

/-- the tables that the three cases read -/
structure CTab (w : World) : Prop where
  case : CaseVar 0 caseA w
  utf8 : Lib.Utf8Tabs 6 7 w
  prop : Lib.TabIs Tryd.prog w "unicode.properties" .u8 Lib.propertiesTab
  letter : RVar 2 letterT w
  digit : RVar 3 digitT w
  white : Lib.WhiteTab 4 w
theorem CTab.below {w w' : World} (h : CTab w) (hb : RowKit.Below w.heap.size w w') : CTab w' :=
  ⟨CaseVar_below h.case hb, ⟨fun c hc => cell_keep hb (h.utf8.1 c hc), fun i hi => ⟨cell_keep hb (h.utf8.2 i hi).1, cell_keep hb (h.utf8.2 i hi).2⟩⟩,
    TabIs_below (g := 1) (by kernel_rfl) h.prop hb, RVar_below h.letter hb, RVar_below h.digit hb, WhiteTab_below h.white hb⟩
/-- What toUpper's function makes of a rune: c: within a sequence. -/
def upG (c : Bool) (r : Int) : Int × Bool :=
  if c || decide (r = 27) then (r, !decide (r = 109)) else (toUpperU r, false)
theorem But.drewN {b : Nat} {W W' : World} (h : But b W W') (n : Nat) : But b W (W'.drewN n) := ⟨h.block, h.size, h.os, h.tape, h.output⟩
theorem boxAt.drewN {W : World} {b : Nat} {v : Value} {t : TypeId} (h : boxAt W b v t) (n : Nat) : boxAt (W.drewN n) b v t := h
theorem up1G_calls (b : Nat) (c : Bool) (r : Int) (hr0 : 0 ≤ r) (hr : r ≤ 1114111) (W : World) (hb : boxAt W b (.bool c) 4) (hT : CTab W) :
    Calls Tryd.prog 50 #[.int .i32 r, .pointer (some ⟨b, 0, none⟩)] W fun e w' => e = .returned (.int .i32 (upG c r).1) ∧ boxAt w' b (.bool (upG c r).2) 4 ∧ But b W w' := by
  have hc := hb.cell
  have hf := hb.frozen
  have HB := hid hb
  have hU := hid (Tryd.unicode_ToUpper_laid r W hT.case)
  clear hb hT
  by_cases h27 : r = 27
  · subst h27
    go_enter Tryd.func50, Tryd.ntmps50
    go_wp2
    go_ret
    exact ⟨by simp [upG], by simpa [upG] using HB.out.set _, (But.refl b W).set _⟩
  · cases c with
    | true =>
      by_cases h109 : r = 109
      · subst h109
        go_enter Tryd.func50, Tryd.ntmps50
        go_wp2
        go_ret
        exact ⟨by simp [upG], by simpa [upG] using HB.out.set _, (But.refl b W).set _⟩
      · go_enter Tryd.func50, Tryd.ntmps50
        go_wp2
        go_ret
        exact ⟨by simp [upG], by simpa [upG, h109] using HB.out, But.refl b W⟩
    | false =>
      go_enter Tryd.func50, Tryd.ntmps50
      go_wp2_with (go_at_call 49; (with_reducible refine hU.out.mono ?_); rintro e W' ⟨rfl, q, rfl⟩)
      go_ret
      exact ⟨by simp [upG, h27], by simpa [upG, h27] using HB.out.drewN q, (But.refl b _).drewN q⟩

/-- isSeparator. -/
def sepG (r : Int) : Bool := if r ≤ 127 then sepF r else if isLetterU r then false else if isDigitU r then false else isSpaceZ r
theorem sepG_calls (r : Int) (hr0 : 0 ≤ r) (hr : r ≤ 1114111) (W : World) (hT : CTab W) :
    Calls Tryd.prog 48 #[.int .i32 r] W fun e w' => e = .returned (.bool (sepG r)) ∧ Below W.heap.size W w' := by
  by_cases h127 : r ≤ 127
  · refine (sep_calls r h127 W).mono ?_
    rintro e w' ⟨rfl, rfl⟩
    exact ⟨by unfold sepG; rw [if_pos h127], Below.refl _ _⟩
  · have hS := hid (show sepG r = if isLetterU r then false else if isDigitU r then false else isSpaceZ r by unfold sepG; rw [if_neg h127])
    have hL := hid (Tryd.unicode_IsLetter_all r W (by omega) (by omega) hT.prop hT.letter)
    have hD := hid (fun W' (hb : Below W.heap.size W W') => Tryd.unicode_IsDigit_all r W' (by omega) (by omega) (hT.below hb).digit)
    have hZ := hid (fun W' (hb : Below W.heap.size W W') => Tryd.unicode_IsSpace_any r W' (by omega) (by omega) (hT.below hb).white)
    clear hT
    generalize sepG r = sg at *
    generalize isLetterU r = lt at *
    generalize isDigitU r = dg at *
    generalize isSpaceZ r = zg at *
    cases lt with
    | true =>
      go_enter Tryd.func48, Tryd.ntmps48
      go_wp2_with (go_at_call 67; (with_reducible refine hL.out.mono ?_); rintro e w1 ⟨rfl, hb1⟩)
      go_ret
      exact ⟨ret_bool hS.out.symm, hb1⟩
    | false =>
      cases dg with
      | true =>
        go_enter Tryd.func48, Tryd.ntmps48
        go_wp2_with (first
          | (go_at_call 67; (with_reducible refine hL.out.mono ?_); rintro e w1 ⟨rfl, hb1⟩)
          | (go_at_call 68; (with_reducible refine (hD.out _ hb1).mono ?_); rintro e w2 ⟨rfl, hb2⟩))
        go_ret
        exact ⟨ret_bool hS.out.symm, hb1.trans (hb2.mono hb1.size)⟩
      | false =>
        go_enter Tryd.func48, Tryd.ntmps48
        go_wp2_with (first
          | (go_at_call 67; (with_reducible refine hL.out.mono ?_); rintro e w1 ⟨rfl, hb1⟩)
          | (go_at_call 68; (with_reducible refine (hD.out _ hb1).mono ?_); rintro e w2 ⟨rfl, hb2⟩; have hbb2 := hb1.trans (hb2.mono hb1.size))
          | (go_at_call 69; (with_reducible refine (hZ.out _ hbb2).mono ?_); rintro e w3 ⟨rfl, hb3⟩))
        go_ret
        exact ⟨ret_bool hS.out.symm, hbb2.trans (hb3.mono hbb2.size)⟩
/-- What toTitle's function makes of a rune: the last rune ahead, and whether within a sequence. -/
def tiG (c : Int × Bool) (r : Int) : Int × (Int × Bool) :=
  if c.2 || decide (r = 27) then (r, (c.1, !decide (r = 109)))
  else if sepG c.1 then (toUpperU r, (r, false)) else (r, (r, false))
/-- all but the blocks b, b2 is as it was -/
structure But2 (b b2 : Nat) (W w' : World) : Prop where
  block : ∀ k, k ≠ b → k ≠ b2 → k < W.heap.size → w'.heap[k]? = W.heap[k]?
  size : W.heap.size ≤ w'.heap.size
  os : w'.os = W.os
  tape : w'.tape = W.tape
  output : w'.output = W.output
theorem But2.refl (b b2 : Nat) (W : World) : But2 b b2 W W := ⟨fun _ _ _ _ => rfl, Nat.le_refl _, rfl, rfl, rfl⟩
theorem But2.set1 {b b2 : Nat} {W W' : World} (h : But2 b b2 W W') (u : Value) : But2 b b2 W (W'.setCell ⟨b, 0, none⟩ u) :=
  ⟨fun k hk h2 h3 => (Below.heap_setCell W' ⟨b, 0, none⟩ u k hk).trans (h.block k hk h2 h3), by simpa [World.setCell] using h.size, h.os, h.tape, h.output⟩
theorem But2.set2 {b b2 : Nat} {W W' : World} (h : But2 b b2 W W') (u : Value) : But2 b b2 W (W'.setCell ⟨b2, 0, none⟩ u) :=
  ⟨fun k hk h2 h3 => (Below.heap_setCell W' ⟨b2, 0, none⟩ u k h2).trans (h.block k hk h2 h3), by simpa [World.setCell] using h.size, h.os, h.tape, h.output⟩
theorem But2.below {b b2 : Nat} {W W' W2 : World} (h : But2 b b2 W W') (k : Below W'.heap.size W' W2) : But2 b b2 W W2 :=
  ⟨fun i h1 h2 h3 => (k.block i (by have := h.size; omega)).trans (h.block i h1 h2 h3), Nat.le_trans h.size k.size, k.os.trans h.os, k.tape.trans h.tape, k.output.trans h.output⟩
theorem But2.drewN {b b2 : Nat} {W W' : World} (h : But2 b b2 W W') (n : Nat) : But2 b b2 W (W'.drewN n) := ⟨h.block, h.size, h.os, h.tape, h.output⟩
theorem boxAt.lt {W : World} {b : Nat} {v : Value} {t : TypeId} (h : boxAt W b v t) : b < W.heap.size := (Array.getElem?_eq_some_iff.1 h).1
theorem boxAt.below {W W' : World} {b : Nat} {v : Value} {t : TypeId} (h : boxAt W b v t) (k : Below W.heap.size W W') : boxAt W' b v t := (k.block b h.lt).trans h
theorem boxAt.other {W : World} {b b2 : Nat} {v : Value} {t : TypeId} (h : boxAt W b2 v t) (hne : b2 ≠ b) (u : Value) : boxAt (W.setCell ⟨b, 0, none⟩ u) b2 v t := (Below.heap_setCell W ⟨b, 0, none⟩ u b2 hne).trans h
theorem ti1G_calls (b b2 : Nat) (hne : b ≠ b2) (p : Int) (hp0 : 0 ≤ p) (hp : p ≤ 1114111) (c : Bool) (r : Int) (hr0 : 0 ≤ r) (hr : r ≤ 1114111) (W : World) (hb : boxAt W b (.bool c) 4) (hb2 : boxAt W b2 (.int .i32 p) 21) (w0 : World) (hT0 : CTab w0) (hW : Below w0.heap.size w0 W) (hbB : w0.heap.size ≤ b2) :
    Calls Tryd.prog 47 #[.int .i32 r, .pointer (some ⟨b, 0, none⟩), .pointer (some ⟨b2, 0, none⟩)] W fun e w' => e = .returned (.int .i32 (tiG (p, c) r).1) ∧ boxAt w' b (.bool (tiG (p, c) r).2.2) 4 ∧ boxAt w' b2 (.int .i32 (tiG (p, c) r).2.1) 21 ∧ But2 b b2 W w' := by
  have hc := hb.cell
  have hf := hb.frozen
  have hc2 := hb2.cell
  have hf2 := hb2.frozen
  have HB := hid hb
  have HB2 := hid hb2
  have hne2 : b2 ≠ b := fun h => hne h.symm
  have HT := hid hT0
  have HBB := hid hbB
  have hS := hid (sepG_calls p hp0 hp W (hT0.below hW))
  have HW := hid hW
  clear hb hb2 hT0 hW hbB
  by_cases h27 : r = 27
  · subst h27
    go_enter Tryd.func47, Tryd.ntmps47
    go_wp2
    go_ret
    exact ⟨by simp [tiG], by simpa [tiG] using HB.out.set _, by simpa [tiG] using HB2.out.other hne2 _, (But2.refl b b2 W).set1 _⟩
  · cases c with
    | true =>
      by_cases h109 : r = 109
      · subst h109
        go_enter Tryd.func47, Tryd.ntmps47
        go_wp2
        go_ret
        exact ⟨by simp [tiG], by simpa [tiG] using HB.out.set _, by simpa [tiG] using HB2.out.other hne2 _, (But2.refl b b2 W).set1 _⟩
      · go_enter Tryd.func47, Tryd.ntmps47
        go_wp2
        go_ret
        exact ⟨by simp [tiG], by simpa [tiG, h109] using HB.out, by simpa [tiG] using HB2.out, But2.refl b b2 W⟩
    | false =>
      by_cases hs : sepG p = true
      · rw [hs] at hS
        go_enter Tryd.func47, Tryd.ntmps47
        go_wp2_with (first
          | (go_at_call 48; (with_reducible refine hS.out.mono ?_); rintro e W1 ⟨rfl, hb1⟩; have g1 := (HB.out.below hb1).cell; have g2 := (HB.out.below hb1).frozen; have g3 := (HB2.out.below hb1).cell; have g4 := (HB2.out.below hb1).frozen; have HU := hid (fun (w' : World) (hV : CaseVar 0 caseA w') => Tryd.unicode_ToUpper_laid r w' hV); have HB3 := hid (HB.out.below hb1); have HB4 := hid (HB2.out.below hb1); have HT1 := hid (HW.out.trans (hb1.mono HW.out.size)); have HN := hid ((But2.refl b b2 W).below hb1))
          | (go_at_call 49; (with_reducible refine (HU.out _ ?_).mono ?_); exact (HT.out.below (HT1.out.setCell HBB.out _)).case; rintro e W' ⟨rfl, q, rfl⟩))
        go_ret
        exact ⟨by simp [tiG, h27, hs], by simpa [tiG, h27, hs] using (HB3.out.other hne _).drewN q, by simpa [tiG, h27, hs] using (HB4.out.set _).drewN q, (HN.out.set2 _).drewN q⟩
      · have hs' : sepG p = false := by simpa using hs
        rw [hs'] at hS
        go_enter Tryd.func47, Tryd.ntmps47
        go_wp2_with (go_at_call 48; (with_reducible refine hS.out.mono ?_); rintro e W1 ⟨rfl, hb1⟩; have g1 := (HB.out.below hb1).cell; have g2 := (HB.out.below hb1).frozen; have g3 := (HB2.out.below hb1).cell; have g4 := (HB2.out.below hb1).frozen; have HB3 := hid (HB.out.below hb1); have HB4 := hid (HB2.out.below hb1); have HN := hid ((But2.refl b b2 W).below hb1))
        go_ret
        exact ⟨by simp [tiG, h27, hs], by simpa [tiG, h27, hs] using HB3.out.other hne _, by simpa [tiG, h27, hs] using HB4.out.set _, HN.out.set2 _⟩
theorem upG_range (c : Bool) (x : Nat) (hx : x ≤ 1114111) : 0 ≤ (upG c x).1 ∧ (upG c x).1 ≤ 2147483647 := by
  have := toUpperU_range x hx
  unfold upG
  split
  · dsimp only; omega
  · exact this
theorem tiG_range (c : Int × Bool) (x : Nat) (hx : x ≤ 1114111) : 0 ≤ (tiG c x).1 ∧ (tiG c x).1 ≤ 2147483647 := by
  have := toUpperU_range x hx
  unfold tiG
  split
  · dsimp only; omega
  · split
    · exact this
    · dsimp only; omega
theorem tiG_prev (c : Int × Bool) (h : 0 ≤ c.1 ∧ c.1 ≤ 1114111) (x : Nat) (hx : x ≤ 1114111) : 0 ≤ (tiG c x).2.1 ∧ (tiG c x).2.1 ≤ 1114111 := by
  unfold tiG
  split
  · exact h
  · split <;> (dsimp only; omega)
theorem toUpperG_calls (l : List UInt8) (hl : l.length < 35184372088832) (w : World) (hT : CTab w) :
    Calls Tryd.prog 27 #[.string ⟨l.toArray⟩] w fun e w' => e = .returned (.string ⟨(mapS upG false l).toArray⟩) ∧ Below w.heap.size w w' := by
  have K : Hid (∀ wm : World, Below w.heap.size w wm → wm.heap.size = w.heap.size + 1 → boxAt wm w.heap.size (.bool false) 4 →
      Calls Tryd.prog 45 #[.func (.func 50) #[] #[.pointer (some ⟨w.heap.size, 0, none⟩)], .string ⟨l.toArray⟩] wm fun e w' => e = .returned (.string ⟨(mapS upG false l).toArray⟩) ∧ Below w.heap.size w w') := hid (fun wm h0 hz hb =>
    (map_state Tryd.lays230 Tryd.Builder_Extra_230 50 #[.pointer (some ⟨w.heap.size, 0, none⟩)] (enters_of Tryd.func50 (by kernel_rfl) rfl) upG ⟨l.toArray⟩ wm (by simpa [size_eq] using hl)
      (fun c W => Below w.heap.size w W ∧ boxAt W w.heap.size (.bool c) 4) false ⟨h0, hb⟩
      (fun c W W' h hW => ⟨h.1.trans (hW.mono (by omega)), (hW.block _ (by omega)).trans h.2⟩)
      (fun x => x ≤ 1114111) (fun _ c W h => (hT.below h.1).utf8) (fun pos hp => decodeL_rune _)
      (fun W c x _ hx hs h => (up1G_calls w.heap.size c x (by omega) (by omega) W h.2 (hT.below h.1)).mono fun e w' ⟨h1, h2, h3⟩ => ⟨h1, ⟨⟨h3.os.trans h.1.os, h3.tape.trans h.1.tape, h3.output.trans h.1.output, by have := h3.size; have := h.1.size; omega, fun k hk => (h3.block k (by omega)).trans (h.1.block k hk)⟩, h2⟩,
        h3.os, h3.tape, h3.output, by have := h3.size; omega, fun k hk _ => h3.block k (by omega)⟩)
      (fun c x _ hx => upG_range c x hx)).mono fun e w' ⟨h1, c, h2, _⟩ => ⟨h1, h2.1⟩)
  have K0 := hid (K.out (w.alloc (.cells #[.bool false] 4)) ((Below.refl _ w).alloc (Nat.le_refl _) _) (by simp) (heap_alloc_new w (.cells #[.bool false] 4)))
  clear K hT
  go_enter Tryd.func27, Tryd.ntmps27
  go_wp2_with (go_at_call 45; (with_reducible refine K0.out.mono ?_); rintro e w1 ⟨rfl, hb1⟩)
  go_ret
  exact ⟨rfl, hb1⟩
theorem toTitleG_calls (l : List UInt8) (hl : l.length < 35184372088832) (w : World) (hT : CTab w) :
    Calls Tryd.prog 26 #[.string ⟨l.toArray⟩] w fun e w' => e = .returned (.string ⟨(mapS tiG (32, false) l).toArray⟩) ∧ Below w.heap.size w w' := by
  have K : Hid (∀ wm : World, Below w.heap.size w wm → wm.heap.size = w.heap.size + 2 → boxAt wm (w.heap.size + 1) (.bool false) 4 → boxAt wm w.heap.size (.int .i32 32) 21 →
      Calls Tryd.prog 45 #[.func (.func 47) #[] #[.pointer (some ⟨w.heap.size + 1, 0, none⟩), .pointer (some ⟨w.heap.size, 0, none⟩)], .string ⟨l.toArray⟩] wm fun e w' => e = .returned (.string ⟨(mapS tiG (32, false) l).toArray⟩) ∧ Below w.heap.size w w') := hid (fun wm h0 hz hb hb2 =>
    (map_state Tryd.lays230 Tryd.Builder_Extra_230 47 #[.pointer (some ⟨w.heap.size + 1, 0, none⟩), .pointer (some ⟨w.heap.size, 0, none⟩)] (enters_of Tryd.func47 (by kernel_rfl) rfl) tiG ⟨l.toArray⟩ wm (by simpa [size_eq] using hl)
      (fun c W => Below w.heap.size w W ∧ boxAt W (w.heap.size + 1) (.bool c.2) 4 ∧ boxAt W w.heap.size (.int .i32 c.1) 21 ∧ 0 ≤ c.1 ∧ c.1 ≤ 1114111) (32, false) ⟨h0, hb, hb2, by decide, by decide⟩
      (fun c W W' h hW => ⟨h.1.trans (hW.mono (by omega)), (hW.block _ (by omega)).trans h.2.1, (hW.block _ (by omega)).trans h.2.2.1, h.2.2.2⟩)
      (fun x => x ≤ 1114111) (fun _ c W h => (hT.below h.1).utf8) (fun pos hp => decodeL_rune _)
      (fun W c x _ hx hs h => (ti1G_calls (w.heap.size + 1) w.heap.size (by omega) c.1 h.2.2.2.1 h.2.2.2.2 c.2 x (by omega) (by omega) W h.2.1 h.2.2.1 w hT h.1 (Nat.le_refl _)).mono fun e w' ⟨h1, h2, h3, h4⟩ => ⟨h1, ⟨⟨h4.os.trans h.1.os, h4.tape.trans h.1.tape, h4.output.trans h.1.output, by have := h.1.size; have := h4.size; omega, fun k hk => (h4.block k (by omega) (by omega) (by omega)).trans (h.1.block k hk)⟩, h2, h3, tiG_prev c h.2.2.2 x hx⟩,
        h4.os, h4.tape, h4.output, h4.size, fun k hk hk2 => h4.block k (by omega) (by omega) hk2⟩)
      (fun c x _ hx => tiG_range c x hx)).mono fun e w' ⟨h1, c, h2, _⟩ => ⟨h1, h2.1⟩)
  have hz1 : (w.alloc (.cells #[.int .i32 32] 21)).heap.size = w.heap.size + 1 := by simp
  have K0 := K.out ((w.alloc (.cells #[.int .i32 32] 21)).alloc (.cells #[.bool false] 4)) ((((Below.refl _ w).alloc (Nat.le_refl _) _).alloc (by simp) _)) (by simp)
    (hz1 ▸ heap_alloc_new (w.alloc (.cells #[.int .i32 32] 21)) (.cells #[.bool false] 4))
    ((Below.heap_alloc _ _ _ (by simp)).trans (heap_alloc_new w (.cells #[.int .i32 32] 21)))
  replace K0 := hid K0
  clear K hz1 hT
  go_enter Tryd.func26, Tryd.ntmps26
  go_wp2_with (go_at_call 45; (with_reducible refine K0.out.mono ?_); rintro e w1 ⟨rfl, hb1⟩)
  go_ret
  exact ⟨rfl, hb1⟩
/-- Format.Apply, of any text. -/
def fmtG (k : Int) (l : List UInt8) : List UInt8 :=
  if k = 1 then toLowerD l else if k = 2 then mapS tiG (32, false) l else if k = 3 then mapS upG false l else l
theorem applyG_calls (k : Int) (l : List UInt8) (hl : l.length < 35184372088832) (w : World) (hT : CTab w) :
    Calls Tryd.prog 17 #[.int .i64 k, .string ⟨l.toArray⟩] w fun e w' => e = .returned (.string ⟨(fmtG k l).toArray⟩) ∧ Below w.heap.size w w' := by
  have hsz : (⟨l.toArray⟩ : ByteArray).size = l.length := by simp [size_eq]
  have K1 := hid (Tryd.strings_ToLower_any ⟨l.toArray⟩ w (by rw [hsz]; omega) hT.case hT.utf8)
  have K2 := hid (toTitleG_calls l hl w hT)
  have K3 := hid (toUpperG_calls l hl w hT)
  clear hT
  by_cases h1 : k = 1
  · subst h1
    go_enter Tryd.func17, Tryd.ntmps17
    go_wp2_with (go_at_call 25; (with_reducible refine K1.out.mono ?_); rintro e w1 ⟨rfl, hb1⟩)
    go_ret
    exact ⟨rfl, hb1⟩
  · by_cases h2 : k = 2
    · subst h2
      go_enter Tryd.func17, Tryd.ntmps17
      go_wp2_with (go_at_call 26; (with_reducible refine K2.out.mono ?_); rintro e w1 ⟨rfl, hb1⟩)
      go_ret
      exact ⟨rfl, hb1⟩
    · by_cases h3 : k = 3
      · subst h3
        go_enter Tryd.func17, Tryd.ntmps17
        go_wp2_with (go_at_call 27; (with_reducible refine K3.out.mono ?_); rintro e w1 ⟨rfl, hb1⟩)
        go_ret
        exact ⟨rfl, hb1⟩
      · go_enter Tryd.func17, Tryd.ntmps17
        go_wp2
        go_ret
        exact ⟨by simp [fmtG, h1, h2, h3], Below.refl _ w⟩
theorem textFormatG_calls (k : Int) (l : List UInt8) (hl : l.length < 35184372088832) (w : World) (hT : CTab w) :
    Calls Tryd.prog 10 #[.int .i64 k, .string ⟨l.toArray⟩] w fun e w' => e = .returned (.string ⟨(fmtG k l).toArray⟩) ∧ Below w.heap.size w w' := by
  have K1 := hid (applyG_calls k l hl w hT)
  clear hT
  go_enter Tryd.func10, Tryd.ntmps10
  go_wp2_with (go_at_call 17; (with_reducible refine K1.out.mono ?_); rintro e w1 ⟨rfl, hb1⟩)
  go_ret
  exact ⟨rfl, hb1⟩
end Go.Proofs.YthjpchabeemfmaaDoor
