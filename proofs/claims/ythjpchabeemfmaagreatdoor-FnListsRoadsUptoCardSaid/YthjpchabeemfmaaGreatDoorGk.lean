import Derived.Test.YthjpchabeemfmaaGreatDoorGh
import Derived.Test.YthjpchabeemfmaaGreatDoorLg
import Derived.Test.YthjpchabeemfmaaGreatDoorGa
import Derived.Test.YthjpchabeemfmaaGreatDoorGc
import Derived.Test.YthjpchabeemfmaaGreatDoorGb
namespace Go.Proofs.YthjpchabeemfmaaGreatDoor
open Go.RowKit
set_option linter.unusedVariables false
set_option linter.unusedSimpArgs false
set_option maxHeartbeats 4000000
set_option maxRecDepth 100000
attribute [local go_sem] S_extract S_append run_cut_S run_head_S run_tail_S Nat.add_sub_cancel_left

theorem Bld.lower {w : World} {B B' b : Nat} {l : List UInt8} (h : Bld w B b l) (hB : B' ≤ B) : Bld w B' b l := by
  have go : ∀ p, Lib.BuilderAtF 72 5 B b p (Lib.byteCells l) w → Lib.BuilderAtF 72 5 B' b p (Lib.byteCells l) w := by
    rintro p ⟨h1, v, h2, ⟨h3, h4⟩, h5⟩
    refine ⟨Nat.le_trans hB h1, v, h2, ⟨h3, ?_⟩, h5⟩
    rcases h4 with h4 | ⟨g, cap, cur, fz, e1, e2, r⟩
    · exact .inl h4
    · exact .inr ⟨g, cap, cur, fz, e1, Nat.le_trans hB e2, r⟩
  exact Or.imp (go _) (go _) h

theorem render_more (base b bb : Nat) (acc : List UInt8) (w : World) (h : Bld w base bb acc) (hbw : base ≤ w.heap.size) :
    Calls Tryz.prog 47 #[.pointer (some ⟨b, 0, none⟩), .pointer (some ⟨bb, 0, none⟩)] w fun e w' => e = .returned (.string ⟨acc.toArray⟩) ∧ Below base w w' ∧ Lib.OthersKept 5 (some bb) w w' := by
  have K := hid (BuilderString_calls base bb acc w h hbw)
  clear h
  go_enter Tryz.func47, Tryz.ntmps47
  go_wp2_with (go_at_call 66; (with_reducible refine K.out.mono ?_); rintro e w1 ⟨rfl, h1, h2, h3, _⟩)
  go_ret
  exact ⟨rfl, h2, h3⟩
theorem render_calls (base b bb : Nat) (acc : List UInt8) (w : World) (h : Bld w base bb acc) (hbw : base ≤ w.heap.size) :
    Calls Tryz.prog 47 #[.pointer (some ⟨b, 0, none⟩), .pointer (some ⟨bb, 0, none⟩)] w fun e w' => e = .returned (.string ⟨acc.toArray⟩) ∧ Below base w w' :=
  (render_more base b bb acc w h hbw).mono fun e w' ⟨h1, h2, _⟩ => ⟨h1, h2⟩

theorem RenderHTML_calls (base b : Nat) (items : List It) (lev : Nat) (cls : List UInt8) (st : Value) (s : Sty) (ap : Int) (sp : ByteArray) (iv : Value) (ps : List Value) (w : World) (hbw : base ≤ w.heap.size) (H : LAt w base b items lev cls st ap sp iv ps) (hs : StOf w base st s)
    (hv : s.vert.length ≤ 1000) (hp : s.pre.length ≤ 1000) (hnl : s.newline.length ≤ 1000) (hn : items.length ≤ 5000) (hi : ∀ it ∈ items, it.1 ≤ 1000 ∧ it.2.length ≤ 1000) (hcl : cls.length ≤ 1000) (hlen : (htmlOf (clsOf cls) items).length ≤ 100000000000) :
    Calls Tryz.prog 32 #[.pointer (some ⟨b, 0, none⟩)] w fun e w' => e = .returned (.string ⟨(htmlOf (clsOf cls) items).toArray⟩) ∧ Below base w w' := by
  have KI := hid (init_calls base b items lev cls st s ap sp iv ps w hbw H hs hv hp hnl hn hi)
  have hcl2 : (clsOf cls).length ≤ 1000000 := by
    unfold clsOf
    split
    · decide
    · omega
  obtain ⟨A0, c0, rfl, _⟩ := own_slice H.own
  clear H hs
  generalize hc : clsOf cls = c at *
  clear hc
  go_enter Tryz.func32, Tryz.ntmps32
  rcases items with _ | ⟨it, t⟩
  · go_wp2_with (first
      | (go_at_call 43; (with_reducible refine KI.out.mono ?_); rintro e w1 ⟨rfl, hb1, _, sb, ap1, ha0, ha1, hsb, hst, H1⟩; have h3 : w1.cell? ⟨b, 3, none⟩ = some (.slice A0 0 c0) := blk_cell H1.row 3; have h3a := cell_keep ((Below.refl _ w1).alloc (Nat.le_refl _) (.cells #[.pointer none, .slice none 0 0] 72)) h3; have KR := hid (render_calls w1.heap.size b w1.heap.size [] _ (Bld.fresh w1) (by simp)))
      | (go_at_call 47; (with_reducible refine KR.out.mono ?_); rintro e w2 ⟨rfl, hb2⟩))
    go_ret
    exact ⟨rfl, hb1.trans ((((Below.refl _ w1).alloc (Nat.le_refl _) _).trans hb2).mono (Nat.le_trans hbw hb1.size))⟩
  · obtain ⟨items, hI⟩ : ∃ l, l = it :: t := ⟨_, rfl⟩
    have HO := hid (show htmlOf c (it :: t) = [] ++ (openUl c it.1 ++ ((hb c it.1 (items.drop 0)).1 ++ closeUl it.1)) by rw [hI]; rfl)
    rw [HO.out] at hlen ⊢
    rw [← hI] at KI hn hi
    have h0 : 0 < items.length := by rw [hI]; simp
    have HIT := hid (show items[0]? = some it by rw [hI]; rfl)
    clear hI HO
    have hn2 : items.length ≤ 1000000 := by omega
    have HI2 := hid (fun x hx => show x.1 ≤ 1000 ∧ x.2.length ≤ 1000000 from ⟨(hi x hx).1, by have := (hi x hx).2; omega⟩)
    have h0' : (0 : Int) < (items.length : Int) := by omega
    clear hi
    obtain ⟨U, hU⟩ : ∃ U, U = [] ++ (openUl c it.1 ++ ((hb c it.1 (items.drop 0)).1 ++ closeUl it.1)) := ⟨_, rfl⟩
    rw [← hU] at hlen ⊢
    have HU := hid hU
    clear hU
    have HLN := hid (show ([] ++ (openUl c it.1 ++ ((hb c it.1 (items.drop 0)).1 ++ closeUl it.1))).length ≤ 100000000000 by rw [← HU.out]; exact hlen)
    go_wp2_with (first
      | (go_at_call 43; (with_reducible refine KI.out.mono ?_); rintro e w1 ⟨rfl, hb1, _, sb, ap1, ha0, ha1, hsb, hst, H1⟩; obtain ⟨gr, cr, hv, _, _, _, _⟩ := own_cells H1.own (by omega); injection hv with hv1 _ hv3; subst hv1 hv3; obtain ⟨gi, hpi, _, _⟩ := H1.items.2 0 it HIT.out; have h3 : w1.cell? ⟨b, 3, none⟩ = some (.slice (some ⟨gr, 0, none⟩) items.length c0) := blk_cell H1.row 3; have hap : w1.cell? ⟨b, 0, none⟩ = some (.int .i64 ap1) := blk_cell H1.row 0; have hp0 : w1.cell? ⟨gr, 0, none⟩ = some (.pointer (some ⟨gi, 0, none⟩)) := H1.cellAt hpi; have h3a := cell_keep ((Below.refl _ w1).alloc (Nat.le_refl _) (.cells #[.pointer none, .slice none 0 0] 72)) h3; have hapa := cell_keep ((Below.refl _ w1).alloc (Nat.le_refl _) (.cells #[.pointer none, .slice none 0 0] 72)) hap; have hp0a := cell_keep ((Below.refl _ w1).alloc (Nat.le_refl _) (.cells #[.pointer none, .slice none 0 0] 72)) hp0; have KG := hid (Grow_calls w1 ap1 ha0 (by omega)); have HH1 := hid H1; have HPI := hid hpi; clear H1 hpi)
      | (go_at_call 44; (with_reducible refine KG.out.mono ?_); rintro e w2 ⟨rfl, hB, hb2, hz2⟩; have H2 := HH1.out.below hb2; have h32 : w2.cell? ⟨b, 3, none⟩ = some (.slice (some ⟨gr, 0, none⟩) items.length c0) := blk_cell H2.row 3; have hp2 : w2.cell? ⟨gr, 0, none⟩ = some (.pointer (some ⟨gi, 0, none⟩)) := H2.cellAt HPI.out; have KH := hid (show Calls Tryz.prog 50 #[.pointer (some ⟨b, 0, none⟩), .pointer (some ⟨w1.heap.size, 0, none⟩), .int .i64 0, .pointer (some ⟨gi, 0, none⟩)] w2 _ from html_calls base b w1.heap.size items lev c _ ap1 _ _ ps w2 HI2.out hcl2 hn2 items.length 0 it gi [] w2 (by omega) HIT.out HPI.out HLN.out ⟨H2, hB.lower (Nat.le_trans hbw hb1.size), Below.refl _ _, Nat.le_trans hbw (Nat.le_trans hb1.size hb2.size)⟩); have hbT := hid (hb1.trans (hb2.mono (Nat.le_trans hbw hb1.size))); clear H2 hB hb2)
      | (go_at_call 50; (with_reducible refine KH.out.mono ?_); rintro e w3 ⟨rfl, HL⟩; rw [← HU.out] at HL; have KR := hid (render_calls base b w1.heap.size U w3 HL.bld HL.size); have hb3 := hid HL.below; clear HL)
      | (go_at_call 47; (with_reducible refine KR.out.mono ?_); rintro e w4 ⟨rfl, hb4⟩))
    go_ret
    exact ⟨rfl, (hbT.out.trans hb3.out).trans hb4⟩
end Go.Proofs.YthjpchabeemfmaaGreatDoor

namespace Go.Proofs.YthjpchabeemfmaaGreatDoor
set_option linter.unusedVariables false
set_option linter.unusedSimpArgs false
set_option maxHeartbeats 4000000
set_option maxRecDepth 100000

theorem repAll_one (x : UInt8) (new : List UInt8) : ∀ s : List UInt8, repAll [x] new s = s.flatMap fun b => if b = x then new else [b]
  | [] => by rw [repAll_nil]; rfl
  | b :: t => by
    have ih := repAll_one x new t
    by_cases h : b = x
    · subst h
      have := repAll_hit (old := [b]) (new := new) (t := t) (by simp)
      rw [List.flatMap_cons, if_pos rfl, ← ih]
      exact this
    · have h2 : ([x] : List UInt8).isPrefixOf (b :: t) = false := by
        simp [List.isPrefixOf]
        exact fun e => absurd e.symm h
      rw [repAll_cons (by simp) h2, ih, List.flatMap_cons, if_neg h]
      rfl

/-- a byte as HTML has it, a line end as a break -/
def htB (b : UInt8) : List UInt8 := if b = 10 then [60, 98, 114, 47, 62] else escB1 b
def br : List UInt8 := [60, 98, 114, 47, 62]
theorem escB1_br (b : UInt8) : (escB1 b).flatMap (fun c => if c = 10 then br else [c]) = htB b := by
  unfold htB
  by_cases h : b = 10
  · subst h
    rfl
  · rw [if_neg h]
    unfold escB1
    repeat' split
    all_goals first | rfl | skip
    simp [h]
theorem li_text (t : List UInt8) : repAll [10] [60, 98, 114, 47, 62] (escH t) = t.flatMap htB := by
  rw [repAll_one]
  unfold escH
  rw [List.flatMap_assoc]
  congr 1
  funext b
  exact escB1_br b
theorem htB_len (b : UInt8) : (htB b).length ≤ 5 := by
  unfold htB
  have := escB1_len b
  split
  · decide
  · exact this
theorem flatMap_len {α β : Type} (f : α → List β) (k : Nat) (h : ∀ a, (f a).length ≤ k) : ∀ l : List α, (l.flatMap f).length ≤ k * l.length
  | [] => by simp
  | a :: t => by
    have := flatMap_len f k h t
    have := h a
    rw [List.flatMap_cons, List.length_append, List.length_cons, Nat.mul_add]
    omega
theorem htB_big : ∀ l : List UInt8, (∀ b ∈ l, 128 ≤ b.toNat) → l.flatMap htB = l
  | [], _ => rfl
  | b :: t, h => by
    have hb := h b (by simp)
    have e : htB b = [b] := by
      have ne : ∀ c : UInt8, c.toNat < 128 → b ≠ c := fun c hc e => by rw [e] at hb; omega
      unfold htB escB1
      rw [if_neg (ne _ (by decide)), if_neg (ne _ (by decide)), if_neg (ne _ (by decide)), if_neg (ne _ (by decide)), if_neg (ne _ (by decide)), if_neg (ne _ (by decide))]
    rw [List.flatMap_cons, e, htB_big t (fun c hc => h c (by simp [hc]))]
    rfl
theorem htR_htB (r : Int) (hv : VR r) : htR r = (Lib.encodeRune r).flatMap htB := by
  unfold VR at hv
  by_cases h1 : r ≤ 127
  · obtain ⟨n, rfl⟩ : ∃ n : Nat, r = n := ⟨r.toNat, by omega⟩
    have hn : n < 128 := by omega
    rw [Lib.encodeRune, Lib.encodeRuneZ_one (by omega) h1]
    have key : ∀ k : Fin 128, htR ((k.val : Nat) : Int) = ([((k.val : Nat) : Int)].map fun x => x.toNat.toUInt8).flatMap htB := by decide +kernel
    exact key ⟨n, hn⟩
  · have hne : htR r = Lib.encodeRune r := by
      unfold htR
      rw [if_neg (by omega), if_neg (by omega), if_neg (by omega), if_neg (by omega), if_neg (by omega), if_neg (by omega)]
    rw [hne]
    rw [htB_big]
    intro b hb
    unfold Lib.encodeRune at hb
    simp only [List.mem_map] at hb
    obtain ⟨z, hz, rfl⟩ := hb
    have hz2 := Lib.encodeRuneZ_byte r z hz
    rw [u8_nat z hz2.1 hz2.2]
    have : 128 ≤ z := by
      by_cases h2 : r ≤ 2047
      · rw [Lib.encodeRuneZ_two (by omega) h2] at hz
        simp only [List.mem_cons, List.not_mem_nil, or_false] at hz
        omega
      · by_cases h3 : r ≤ 65535
        · rw [Lib.encodeRuneZ_three (by omega)] at hz
          simp only [List.mem_cons, List.not_mem_nil, or_false] at hz
          omega
        · rw [Lib.encodeRuneZ_four (by omega) (by omega)] at hz
          simp only [List.mem_cons, List.not_mem_nil, or_false] at hz
          omega
    omega
theorem htL_htB : ∀ (rs : List Int), (∀ r ∈ rs, VR r) → htL rs = (encs rs).flatMap htB
  | [], _ => rfl
  | r :: t, h => by
    have ih := htL_htB t (fun x hx => h x (by simp [hx]))
    unfold htL at ih ⊢
    rw [List.flatMap_cons, ih, encs_cons, List.flatMap_append, htR_htB r (h r (by simp))]

/-- how long a list of HTML gets -/
theorem hb_len (cls : List UInt8) (K : Nat) : ∀ (m : Nat),
    (∀ (lev : Nat) (x : It) (t : List It), (∀ it ∈ x :: t, (openUl cls it.1).length + (closeUl it.1).length + 1 ≤ K ∧ (liLine it.1 it.2).length ≤ K) → (x :: t).length ≤ m → x.1 = lev → (hb cls lev (x :: t)).1.length + K ≤ 2 * (K * (hb cls lev (x :: t)).2)) ∧
    (∀ (lev : Nat) (l : List It), (∀ it ∈ l, (openUl cls it.1).length + (closeUl it.1).length + 1 ≤ K ∧ (liLine it.1 it.2).length ≤ K) → l.length ≤ m → (hb cls lev l).1.length ≤ 2 * (K * (hb cls lev l).2))
  | 0 => ⟨fun lev x t _ h _ => by simp at h, fun lev l _ h => by
      have : l = [] := List.eq_nil_of_length_eq_zero (by omega)
      subst this
      simp [hb_nil]⟩
  | m + 1 => by
    obtain ⟨ihA, ihB⟩ := hb_len cls K m
    have hA : ∀ (lev : Nat) (x : It) (t : List It), (∀ it ∈ x :: t, (openUl cls it.1).length + (closeUl it.1).length + 1 ≤ K ∧ (liLine it.1 it.2).length ≤ K) → (x :: t).length ≤ m + 1 → x.1 = lev → (hb cls lev (x :: t)).1.length + K ≤ 2 * (K * (hb cls lev (x :: t)).2) := by
      intro lev x t hk hl hx
      have h1 := ihB lev t (fun it hit => hk it (by simp [hit])) (by simpa using hl)
      have h2 := (hk x (by simp)).2
      rw [hb_eq cls t hx]
      simp only [List.length_append, Nat.mul_add]
      rw [hx] at h2
      omega
    refine ⟨hA, fun lev l hk hl => ?_⟩
    cases l with
    | nil => simp [hb_nil]
    | cons x t =>
      by_cases hx : x.1 = lev
      · have := hA lev x t hk hl hx
        omega
      · by_cases hlt : lev < x.1
        · have h1 := hA x.1 x t hk hl rfl
          have hp := hb_pos cls x t
          have h2 := ihB lev ((x :: t).drop (hb cls x.1 (x :: t)).2) (fun it hit => hk it (List.mem_of_mem_drop hit)) (by rw [List.length_drop]; omega)
          have h3 := (hk x (by simp)).1
          rw [hb_gt cls t hlt]
          simp only [List.length_append, List.length_cons, Nat.mul_add]
          omega
        · rw [hb_lt cls t (by omega)]
          simp
theorem escH_le (c : List UInt8) : (escH c).length ≤ 5 * c.length := escH_len c
theorem decDigits_len (n : Nat) (h : n ≤ 1000000) : (Lib.decDigits n).length ≤ 20 := by rw [Lib.decDigits_length]; exact Lib.nDigits_le20 _ (by omega)
theorem openUl_len (c : List UInt8) (lev : Nat) (h : lev ≤ 1000) (hc : c.length ≤ 1000) : (openUl c lev).length ≤ 8000 := by
  have h1 := escH_len c
  have h2 := decDigits_len lev (by omega)
  unfold openUl
  simp only [List.length_append, pad2_len, List.length_cons, List.length_nil]
  split
  · simp only [List.length_cons]; omega
  · simp only [List.length_nil]; omega
theorem closeUl_len (lev : Nat) : (closeUl lev).length = 2 * lev + 5 := by
  unfold closeUl
  simp [pad2_len]
theorem liLine_len (lev : Nat) (t : List UInt8) (h : lev ≤ 1000) (ht : t.length ≤ 1000) : (liLine lev t).length ≤ 8000 := by
  have h1 := flatMap_len htB 5 htB_len t
  unfold liLine
  rw [li_text]
  simp only [List.length_append, pad2_len, List.length_cons, List.length_nil]
  omega
end Go.Proofs.YthjpchabeemfmaaGreatDoor

namespace Go.Proofs.YthjpchabeemfmaaGreatDoor
open Go.RowKit
set_option linter.unusedVariables false
set_option linter.unusedSimpArgs false
set_option maxHeartbeats 4000000
set_option maxRecDepth 100000
attribute [local go_sem] S_extract S_append run_cut_S run_head_S run_tail_S Nat.add_sub_cancel_left

theorem indent_le (q : List It) (n : Nat) : indent q n ≤ n + 1 := by
  unfold indent
  split
  · omega
  · split <;> omega
/-- what holds of the items that steps make -/
theorem playK_inv (l : List Stp) (P : List UInt8 → Prop) (h : ∀ p ∈ l, p.texts.length ≤ 10 ∧ P p.text ∧ ∀ t ∈ p.texts, P t) : ∀ k, k ≤ l.length → (playK l k).1.length ≤ 10 * k ∧ (playK l k).2 ≤ k ∧ ∀ it ∈ (playK l k).1, it.1 ≤ k ∧ P it.2
  | 0, _ => by simp [playK]
  | k + 1, hk => by
    obtain ⟨h1, h2, h3⟩ := playK_inv l P h k (by omega)
    obtain ⟨p, hp⟩ : ∃ p, l[k]? = some p := ⟨_, List.getElem?_eq_getElem (by omega)⟩
    obtain ⟨p1, p2, p3⟩ := h p (List.mem_of_getElem? hp)
    rw [playK_succ l k p hp]
    have hb := stepP_bounds (playK l k) p p1
    refine ⟨by omega, by omega, ?_⟩
    unfold stepP
    intro it hit
    repeat' split at hit
    · simp only [List.mem_append, List.mem_singleton] at hit
      rcases hit with hit | rfl
      · exact ⟨by have := (h3 it hit).1; omega, (h3 it hit).2⟩
      · exact ⟨by simp only; omega, p2⟩
    · simp only [List.mem_append, List.mem_map] at hit
      rcases hit with hit | ⟨t, ht, rfl⟩
      · exact ⟨by have := (h3 it hit).1; omega, (h3 it hit).2⟩
      · exact ⟨by simp only; omega, p3 t ht⟩
    · exact ⟨by have := (h3 it hit).1; omega, (h3 it hit).2⟩
    · exact ⟨by have := (h3 it hit).1; omega, (h3 it hit).2⟩
    · exact ⟨by have := (h3 it hit).1; omega, (h3 it hit).2⟩
    · cases hit
    · exact ⟨by have := (h3 it hit).1; omega, (h3 it hit).2⟩

/-- steps that are right and short -/
def StSh (p : Stp) : Prop := p.text.length ≤ 200 ∧ Cl p.text ∧ p.texts.length ≤ 10 ∧ ∀ t ∈ p.texts, t.length ≤ 200 ∧ Cl t
theorem StSh.ok {p : Stp} (h : StSh p) : StOk p := ⟨by have := h.1; omega, h.2.1, h.2.2.1, fun t ht => ⟨by have := (h.2.2.2 t ht).1; omega, (h.2.2.2 t ht).2⟩⟩

theorem html_short (l : List Stp) (c : List UInt8) (hl : l.length ≤ 200) (hok : ∀ p ∈ l, StSh p) (hc : c.length ≤ 1000) :
    (playK l l.length).1.length ≤ 5000 ∧ (∀ it ∈ (playK l l.length).1, it.1 ≤ 1000 ∧ it.2.length ≤ 1000) ∧ (htmlOf c (playK l l.length).1).length ≤ 100000000 := by
  obtain ⟨h1, h2, h3⟩ := playK_inv l (fun t => t.length ≤ 200) (fun p hp => ⟨(hok p hp).2.2.1, (hok p hp).1, fun t ht => ((hok p hp).2.2.2 t ht).1⟩) l.length (Nat.le_refl _)
  have hit : ∀ it ∈ (playK l l.length).1, it.1 ≤ 1000 ∧ it.2.length ≤ 1000 := fun it hi => by have := h3 it hi; omega
  refine ⟨by omega, hit, ?_⟩
  generalize playK l l.length = q at *
  obtain ⟨items, lev⟩ := q
  simp only at *
  cases items with
  | nil => simp [htmlOf]
  | cons it t =>
    have ho := openUl_len c it.1 (hit it (by simp)).1 hc
    have hcl := closeUl_len it.1
    have hi1 := (hit it (by simp)).1
    have hK := (hb_len c 12000 (it :: t).length).1 it.1 it t (fun x hx => ⟨by
      have a1 := openUl_len c x.1 (hit x hx).1 hc
      have a2 := closeUl_len x.1
      have a3 := (hit x hx).1
      omega, by have := liLine_len x.1 x.2 (hit x hx).1 (hit x hx).2; omega⟩) (Nat.le_refl _) rfl
    have hn := hb_le c it.1 (it :: t)
    unfold htmlOf
    simp only [List.length_append]
    omega

theorem ListHTML_long (l : List Stp) (v : Value) (c : List UInt8) (w : World) (hl : l.length ≤ 1000) (hok : ∀ p ∈ l, StSh p) (hc : c.length ≤ 60) (hb : (playK l l.length).1.length ≤ 5000 ∧ (∀ it ∈ (playK l l.length).1, it.1 ≤ 1000 ∧ it.2.length ≤ 1000) ∧ (htmlOf (clsOf c) (playK l l.length).1).length ≤ 100000000) (h : RdSt w v l) :
    Calls Tryz.prog 16 #[v, .string ⟨c.toArray⟩] w fun e w' => e = .returned (.string ⟨(htmlOf (clsOf c) (playK l l.length).1).toArray⟩) ∧ Below w.heap.size w w' := by
  have KL := hid (listOf_calls l v w (by omega) (fun p hp => (hok p hp).ok) h)
  have hcl : (clsOf c).length ≤ 1000 := by
    unfold clsOf
    split
    · decide
    · omega
  obtain ⟨s1, s2, s3⟩ := hb
  generalize hq : playK l l.length = q at *
  obtain ⟨items, lev⟩ := q
  simp only at *
  clear hq
  have hcA := hid (show clsOf [] = dflClass from rfl)
  have KR := hid (fun (cls : List UInt8) (iv : Value) (ps : List Value) (w1 : World) (b1 : w.heap.size ≤ w1.heap.size) (h1 : cls.length ≤ 1000) (h2 : clsOf cls = clsOf c) (H : LAt w1 w.heap.size w.heap.size items lev cls (.pointer none) 0 ⟨#[]⟩ iv ps) =>
    RenderHTML_calls w.heap.size w.heap.size items lev cls (.pointer none) dfl 0 ⟨#[]⟩ iv ps w1 b1 H (.inl ⟨rfl, rfl⟩) (by decide) (by decide) (by decide) s1 s2 h1 (by rw [h2]; omega))
  clear s1 s2 s3 hok h
  by_cases hce : c = []
  · subst hce
    go_enter Tryz.func16, Tryz.ntmps16
    go_wp2_with (first
      | (go_at_call 26; (with_reducible refine KL.out.mono ?_); rintro e w1 ⟨rfl, hb1, iv, ps, H1⟩; have KR1 := hid (KR.out [] iv ps w1 hb1.size (by simp) rfl H1); clear H1)
      | (go_at_call 32; (with_reducible refine KR1.out.mono ?_); rintro e w2 ⟨rfl, hb2⟩))
    go_ret
    exact ⟨rfl, hb1.trans hb2⟩
  · have hce1 : c.isEmpty = false := by simpa using hce
    have hcb : (c == []) = false := by simpa using hce
    have HC := hid (show clsOf c = c by unfold clsOf; rw [if_neg hce])
    clear hce
    go_enter Tryz.func16, Tryz.ntmps16
    go_wp2_with (first
      | (go_at_call 26; (with_reducible refine KL.out.mono ?_); rintro e w1 ⟨rfl, hb1, iv, ps, H1⟩; have KS := hid (SetClass_calls _ _ items lev [] c _ _ _ iv ps w1 H1); clear H1)
      | (go_at_call 31; (with_reducible refine KS.out.mono ?_); rintro e w2 ⟨rfl, hb2, _, H2⟩; have KR1 := hid (KR.out c iv ps w2 (Nat.le_trans hb1.size hb2.size) (by omega) rfl H2); clear H2)
      | (go_at_call 32; (with_reducible refine KR1.out.mono ?_); rintro e w3 ⟨rfl, hb3⟩))
    go_ret
    exact ⟨rfl, (hb1.trans hb2).trans hb3⟩
theorem ListHTML_calls (l : List Stp) (v : Value) (c : List UInt8) (w : World) (hl : l.length ≤ 200) (hok : ∀ p ∈ l, StSh p) (hc : c.length ≤ 60) (h : RdSt w v l) :
    Calls Tryz.prog 16 #[v, .string ⟨c.toArray⟩] w fun e w' => e = .returned (.string ⟨(htmlOf (clsOf c) (playK l l.length).1).toArray⟩) ∧ Below w.heap.size w w' := ListHTML_long l v c w (by omega) hok hc (html_short l (clsOf c) hl hok (by
  unfold clsOf
  split
  · decide
  · omega)) h
end Go.Proofs.YthjpchabeemfmaaGreatDoor

namespace Go.Proofs.YthjpchabeemfmaaGreatDoor
set_option linter.unusedVariables false
set_option linter.unusedSimpArgs false
set_option maxHeartbeats 4000000
set_option maxRecDepth 100000

/-! known texts hold no tab and no carriage return -/
theorem Kn.clean {l : List UInt8} (h : Kn l) : Cl l := by
  intro x hx
  rw [← h.encs] at hx
  simp only [Proofs.YthjpchabeemfmaaGreatDoor.encs, List.mem_flatMap] at hx
  obtain ⟨r, hr, hx⟩ := hx
  have hk := h r hr
  have ne : ∀ n : Nat, n < 32 → n ≠ 10 → r ≠ (n : Int) := by
    intro n h1 h2 e
    rcases hk with hk | hk
    · simp only [txKnown, txBoxed, txWide, decide_eq_true_eq] at hk; omega
    · omega
  constructor
  · intro e
    subst e
    exact ne 9 (by omega) (by omega) (enc_small r (h.vr r hr) 9 (by decide) hx)
  · intro e
    subst e
    exact ne 13 (by omega) (by omega) (enc_small r (h.vr r hr) 13 (by decide) hx)
theorem Kn.html {l : List UInt8} (h : Kn l) : htL (runesL l) = l.flatMap htB := by rw [htL_htB _ h.vr, h.encs]

/-! the levels of what steps make -/
def okC : Nat → List It → Prop
  | _, [] => True
  | p, x :: t => x.1 ≤ p + 1 ∧ okC x.1 t
def lastLev : Nat → List It → Nat
  | p, [] => p
  | _, x :: t => lastLev x.1 t
theorem okC_snoc : ∀ (p : Nat) (l : List It) (y : It), okC p l → y.1 ≤ lastLev p l + 1 → okC p (l ++ [y])
  | p, [], y, _, h => ⟨h, trivial⟩
  | p, x :: t, y, h, h2 => ⟨h.1, okC_snoc x.1 t y h.2 h2⟩
theorem lastLev_snoc : ∀ (p : Nat) (l : List It) (y : It), lastLev p (l ++ [y]) = y.1
  | p, [], y => rfl
  | p, x :: t, y => lastLev_snoc x.1 t y
theorem lastLev_get : ∀ (p : Nat) (l : List It), lastLev p l = match l.getLast? with | none => p | some it => it.1
  | p, [] => rfl
  | p, [x] => rfl
  | p, x :: y :: t => by
    have := lastLev_get x.1 (y :: t)
    rw [List.getLast?_cons_cons]
    rw [show lastLev p (x :: y :: t) = lastLev x.1 (y :: t) from rfl, this]
    cases h : (y :: t).getLast? with
    | none => simp at h
    | some it => rfl
/-- items as steps make them: the first one at the top -/
def okL (l : List It) : Prop := match l with
  | [] => True
  | x :: t => x.1 = 0 ∧ okC 0 t
structure PlayOk (q : List It × Nat) : Prop where
  ok : okL q.1
  nil : q.1 = [] → q.2 = 0
  lev : ∀ x t, q.1 = x :: t → q.2 ≤ lastLev x.1 t + 1
theorem PlayOk.push {q : List It × Nat} (h : PlayOk q) (s : List UInt8) : PlayOk (q.1 ++ [(q.2, s)], q.2) := by
  obtain ⟨l, lev⟩ := q
  cases l with
  | nil =>
    have := h.nil rfl
    simp only at this
    subst this
    exact ⟨⟨rfl, trivial⟩, fun e => by simp at e, fun x t e => by simp⟩
  | cons x t =>
    have h1 := h.ok
    have h2 := h.lev x t rfl
    simp only at h2
    have h3 : x.1 = 0 := h1.1
    refine ⟨⟨h3, okC_snoc 0 t _ h1.2 (by rw [h3] at h2; exact h2)⟩, fun e => by simp at e, fun y u e => ?_⟩
    simp only [List.cons_append, List.cons.injEq] at e
    obtain ⟨rfl, rfl⟩ := e
    rw [lastLev_snoc]
    simp
theorem PlayOk.pushes : ∀ (ts : List (List UInt8)) {q : List It × Nat}, PlayOk q → PlayOk (q.1 ++ ts.map (q.2, ·), q.2)
  | [], q, h => by simpa using h
  | s :: ts, q, h => by
    have := PlayOk.pushes ts (h.push s)
    simpa using this
theorem PlayOk.step {q : List It × Nat} (h : PlayOk q) (p : Stp) : PlayOk (stepP q p) := by
  unfold stepP
  split
  · exact h.push _
  split
  · exact h.pushes _
  split
  · refine ⟨h.ok, fun e => ?_, fun x t e => ?_⟩
    · simp only at e
      have := h.nil e
      simp only [e, indent, List.getLast?_nil, this]
    · simp only at e
      have h2 := h.lev x t e
      have h3 := lastLev_get 0 (x :: t)
      have h4 : lastLev 0 (x :: t) = lastLev x.1 t := rfl
      simp only [indent, e]
      cases hl : (x :: t).getLast? with
      | none => simp at hl
      | some it =>
        rw [hl] at h3
        simp only at h3 ⊢
        split <;> omega
  split
  · exact ⟨h.ok, fun e => by simp only at e; have := h.nil e; simp only; omega, fun x t e => by simp only at e; have := h.lev x t e; simp only; omega⟩
  split
  · exact ⟨h.ok, fun e => rfl, fun x t e => by simp⟩
  split
  · exact ⟨trivial, fun e => rfl, fun x t e => by simp at e⟩
  · exact h
theorem playK_ok (l : List Stp) : ∀ k, k ≤ l.length → PlayOk (playK l k)
  | 0, _ => ⟨trivial, fun _ => rfl, fun x t e => by simp [playK] at e⟩
  | k + 1, h => by
    obtain ⟨p, hp⟩ : ∃ p, l[k]? = some p := ⟨_, List.getElem?_eq_getElem (by omega)⟩
    rw [playK_succ l k p hp]
    exact (playK_ok l k (by omega)).step p

/-! a list of HTML, line by line -/
def ulO (C : List UInt8) (l : Nat) : List UInt8 := 10 :: (pad2 (l + 1) ++ ([60, 117, 108, 32, 99, 108, 97, 115, 115, 61, 34] ++ (C ++ (45 :: (Lib.decDigits (l + 1) ++ [34, 62])))))
def ulC (l : Nat) : List UInt8 := 10 :: (pad2 l ++ [60, 47, 117, 108, 62])
def liS (l : Nat) (t : List UInt8) : List UInt8 := 10 :: (pad2 (l + 1) ++ ([60, 108, 105, 62] ++ (t ++ [60, 47, 108, 105, 62])))
def opens (C : List UInt8) : Nat → Nat → List UInt8
  | _, 0 => []
  | a, n + 1 => ulO C a ++ opens C (a + 1) n
def closes : Nat → Nat → List UInt8
  | _, 0 => []
  | a, n + 1 => ulC a ++ closes (a - 1) n
def lin (C : List UInt8) : Nat → List It → List UInt8
  | lev, [] => closes lev lev ++ [10, 60, 47, 117, 108, 62]
  | lev, x :: t => opens C lev (x.1 - lev) ++ (closes lev (lev - x.1) ++ (liS x.1 x.2 ++ lin C x.1 t))
def htI (it : It) : It := (it.1, it.2.flatMap htB)
theorem pad2_snoc (n : Nat) : pad2 n ++ [32, 32] = pad2 (n + 1) := repeatL_snoc _ n
theorem pad2_snoc2 (n : Nat) (l : List UInt8) : pad2 n ++ (32 :: 32 :: l) = pad2 (n + 1) ++ l := by rw [← pad2_snoc]; simp
theorem li_eq (lev : Nat) (t : List UInt8) : 10 :: liLine lev t = liS lev (t.flatMap htB) ++ [10] := by
  unfold liLine liS
  rw [li_text]
  rw [show ([32, 32, 60, 108, 105, 62] : List UInt8) = 32 :: 32 :: [60, 108, 105, 62] from rfl, List.cons_append, List.cons_append, pad2_snoc2]
  simp
/-- what is left behind a level's items -/
theorem hb_rest (cls : List UInt8) : ∀ (m lev : Nat) (l : List It), l.length ≤ m → ∀ x t, l.drop (hb cls lev l).2 = x :: t → x.1 < lev
  | 0, lev, l, h, x, t, e => by
    have : l = [] := List.eq_nil_of_length_eq_zero (by omega)
    subst this
    simp at e
  | m + 1, lev, [], h, x, t, e => by simp at e
  | m + 1, lev, y :: u, h, x, t, e => by
    by_cases hx : y.1 = lev
    · rw [hb_eq cls u hx] at e
      exact hb_rest cls m lev u (by simpa using h) x t (by simpa using e)
    · by_cases hlt : lev < y.1
      · have hp := hb_pos cls y u
        rw [hb_gt cls u hlt] at e
        simp only at e
        rw [← List.drop_drop] at e
        exact hb_rest cls m lev _ (by rw [List.length_drop]; simp at h; simp only [List.length_cons]; omega) x t e
      · rw [hb_lt cls u (by omega)] at e
        simp only [List.drop_zero, List.cons.injEq] at e
        obtain ⟨rfl, rfl⟩ := e
        omega
theorem okC_drop : ∀ (n p : Nat) (l : List It) (q : Nat), okC p l → (∀ x t, l.drop n = x :: t → x.1 ≤ q + 1) → okC q (l.drop n)
  | 0, p, l, q, h, h2 => by
    cases l with
    | nil => trivial
    | cons x t => exact ⟨h2 x t rfl, h.2⟩
  | n + 1, p, [], q, h, h2 => trivial
  | n + 1, p, x :: t, q, h, h2 => okC_drop n x.1 t q h.2 h2
theorem htI_drop (n : Nat) (l : List It) : (l.map htI).drop n = (l.drop n).map htI := by rw [List.map_drop]

theorem hb_lin (cls C : List UInt8) (hC : escH cls = C) : ∀ (m : Nat),
    (∀ (x : It) (t : List It), (x :: t).length ≤ m → okC x.1 t → lin C x.1 ((x :: t).map htI) = 10 :: ((hb cls x.1 (x :: t)).1 ++ (closeUl x.1 ++ (if x.1 = 0 then [] else lin C (x.1 - 1) (((x :: t).drop (hb cls x.1 (x :: t)).2).map htI))))) ∧
    (∀ (lev : Nat) (l : List It), l.length ≤ m → okC lev l → lin C lev (l.map htI) = 10 :: ((hb cls lev l).1 ++ (closeUl lev ++ (if lev = 0 then [] else lin C (lev - 1) ((l.drop (hb cls lev l).2).map htI)))))
  | 0 => by
    refine ⟨fun x t h => by simp at h, fun lev l h _ => ?_⟩
    have : l = [] := List.eq_nil_of_length_eq_zero (by omega)
    subst this
    cases lev with
    | zero => rfl
    | succ n => simp [lin, hb_nil, closes, ulC, closeUl]
  | m + 1 => by
    obtain ⟨ihA, ihB⟩ := hb_lin cls C hC m
    have hA : ∀ (x : It) (t : List It), (x :: t).length ≤ m + 1 → okC x.1 t → lin C x.1 ((x :: t).map htI) = 10 :: ((hb cls x.1 (x :: t)).1 ++ (closeUl x.1 ++ (if x.1 = 0 then [] else lin C (x.1 - 1) (((x :: t).drop (hb cls x.1 (x :: t)).2).map htI)))) := by
      intro x t hl ho
      have ih := ihB x.1 t (by simpa using hl) ho
      rw [hb_eq cls t rfl]
      simp only [List.map_cons, lin, htI, Nat.sub_self, opens, closes, List.nil_append, List.drop_succ_cons, List.append_assoc]
      rw [show List.map htI t = t.map htI from rfl, ih]
      have e := li_eq x.1 x.2
      have e2 : ∀ z : List UInt8, 10 :: (liLine x.1 x.2 ++ z) = liS x.1 (x.2.flatMap htB) ++ (10 :: z) := fun z => by
        have := congrArg (· ++ z) e
        simpa using this
      rw [e2]
    refine ⟨hA, fun lev l hl ho => ?_⟩
    cases l with
    | nil =>
      cases lev with
      | zero => rfl
      | succ n => simp [lin, hb_nil, closes, ulC, closeUl]
    | cons x t =>
      by_cases hx : x.1 = lev
      · subst hx
        exact hA x t hl ho.2
      · by_cases hlt : lev < x.1
        · have hx1 : x.1 = lev + 1 := by have := ho.1; omega
          have h1 := hA x t hl ho.2
          have hp := hb_pos cls x t
          have hr := hb_rest cls (m + 1) x.1 (x :: t) hl
          have hok2 : okC lev ((x :: t).drop (hb cls x.1 (x :: t)).2) := okC_drop _ lev (x :: t) lev ho (fun y u e => by have := hr y u e; omega)
          have h2 := ihB lev ((x :: t).drop (hb cls x.1 (x :: t)).2) (by rw [List.length_drop]; simp at hl; simp only [List.length_cons]; omega) hok2
          rw [if_neg (by omega), show x.1 - 1 = lev by omega, h2] at h1
          have e1 : lin C lev ((x :: t).map htI) = ulO C lev ++ lin C x.1 ((x :: t).map htI) := by
            simp only [List.map_cons, lin, htI]
            rw [show x.1 - lev = 1 by omega, show lev - x.1 = 0 by omega, Nat.sub_self]
            simp [opens, closes]
          rw [e1, h1, hb_gt cls t hlt]
          simp only [← List.drop_drop]
          have e2 : ulO C lev ++ [10] = 10 :: openUl cls x.1 := by
            unfold ulO openUl
            rw [if_pos (by omega), hC, hx1]
            simp
          have e3 : ∀ z : List UInt8, ulO C lev ++ (10 :: z) = 10 :: (openUl cls x.1 ++ z) := fun z => by
            have := congrArg (· ++ z) e2
            simpa using this
          rw [e3]
          simp
        · have hlev : lev ≠ 0 := by omega
          rw [hb_lt cls t (by omega), if_neg hlev]
          simp only [List.map_cons, lin, htI, List.drop_zero, List.nil_append]
          obtain ⟨n, rfl⟩ : ∃ n, lev = n + 1 := ⟨lev - 1, by omega⟩
          rw [show x.1 - (n + 1) = 0 by omega, show n + 1 - 1 = n by omega, show x.1 - n = 0 by omega, show n + 1 - x.1 = (n - x.1) + 1 by omega]
          simp [opens, closes, ulC, closeUl]
/-- a list of HTML whose class has nothing to escape -/
theorem html_lin (cls : List UInt8) (hC : escH cls = cls) (x : It) (t : List It) (h : okL (x :: t)) : htmlOf cls (x :: t) = [60, 117, 108, 32, 99, 108, 97, 115, 115, 61, 34] ++ (cls ++ ([34, 62] ++ lin cls 0 ((x :: t).map htI))) := by
  obtain ⟨h0, h1⟩ := h
  have := (hb_lin cls cls hC (x :: t).length).1 x t (Nat.le_refl _) (by rw [h0]; exact h1)
  rw [if_pos h0, h0] at this
  rw [this]
  unfold htmlOf
  simp only [h0, openUl, hC]
  simp [pad2, Lib.repeatL]
end Go.Proofs.YthjpchabeemfmaaGreatDoor
