/- Printed by a program of this session (pf.sh): Go functions as Lean functions, with their contracts. -/
import Derived.Test.YteenhipldfdkaaaPx0
import Derived.Test.YteenhipldfdkaaaPx2
import Derived.Test.YteenhipldfdkaaaPx3
import Derived.Test.YteenhipldfdkaaaPx4
import Derived.Test.YteenhipldfdkaaaPx8
import Derived.Test.YteenhipldfdkaaaFf
namespace Go.Proofs.Yteenhipldfdkaaa.P
open Go.RowKit Go.Proofs.YteenhipldfdkaaaW.PrintWords Go.Proofs.YteenhipldfdkaaaW.PrintLast Go.Proofs.YteenhipldfdkaaaW.PrintMore
attribute [local go_sem] max2_int min2_int max_two min_two max_three min_three max_four min_four   -- for this text's walks alone
set_option linter.unusedVariables false
set_option linter.unusedSimpArgs false

/-! ### spec_LtHTML: function 14 -/
def spec_LtHTML.l0 : Nat → ByteArray → List (S43) → Int → Int → Option (ByteArray)
  | 0, _, _, _, _ => none
  | k + 1, x1, x5, x14, x15 => if x15 < x14 then (if 0 ≤ x15 then (if x15 < (x5.length : Int) then ((spec_LtHTMLText.f ((rd_T43 x5 x15).f0)).bind fun t180 => (spec_LtHTML.l0 k x1 (x5.set (x15 : Int).toNat (⟨t180, (rd_T43 x5 x15).f1⟩ : S43)) x14 (wrap64 (x15 + 1)))) else (none)) else (none)) else ((spec_LsHTML.f k x5 x1).bind fun t182 => (some t182))
def spec_LtHTML.f (k : Nat) (l0 : List (S43)) (a1 : ByteArray) : Option (ByteArray) := if (l0.length : Int) = 0 then (some (⟨#[]⟩ : ByteArray)) else ((some (([] : List (S43)) : List (S43))).bind fun y173 => (if y173.length + l0.length < 5864062014805 then ((some (y173 ++ l0 : List (S43))).bind fun y176 => (spec_LtHTML.l0 k a1 y176 (y176.length : Int) 0)) else (none)))
theorem spec_LtHTML.mono_l : ∀ k, (∀ y0 y1 y2 y3, LeO (spec_LtHTML.l0 k y0 y1 y2 y3) (spec_LtHTML.l0 (k + 1) y0 y1 y2 y3))
  | 0 => fun _ _ _ _ r h => by simp [spec_LtHTML.l0] at h
  | k + 1 => by
    have ih0 := spec_LtHTML.mono_l k
    · intro y0 y1 y2 y3
      unfold spec_LtHTML.l0
      repeat' first
      | (with_reducible exact ih0 _ _ _ _)
      | (with_reducible exact spec_LsHTML.mono _ _ _)
      | (with_reducible exact LeO.refl _)
      | (with_reducible exact LeO.none _)
      | (with_reducible refine LeO.ite ?_ ?_)
      | (with_reducible refine LeO.bind ?_ (fun _ => ?_))
      | exact ih0 _ _ _ _
      | exact spec_LsHTML.mono _ _ _
      | exact LeO.none _
      | refine LeO.ite ?_ ?_
      | refine LeO.bind ?_ (fun _ => ?_)
theorem spec_LtHTML.mono : ∀ a0 a1 k, LeO (spec_LtHTML.f k a0 a1) (spec_LtHTML.f (k + 1) a0 a1) := by
  intro a0 a1 k
  have ih0 := spec_LtHTML.mono_l k
  unfold spec_LtHTML.f
  repeat' first
      | (with_reducible exact ih0 _ _ _ _)
      | (with_reducible exact spec_LsHTML.mono _ _ _)
      | (with_reducible exact LeO.refl _)
      | (with_reducible exact LeO.none _)
      | (with_reducible refine LeO.ite ?_ ?_)
      | (with_reducible refine LeO.bind ?_ (fun _ => ?_))
      | exact ih0 _ _ _ _
      | exact spec_LsHTML.mono _ _ _
      | exact LeO.none _
      | refine LeO.ite ?_ ?_
      | refine LeO.bind ?_ (fun _ => ?_)
set_option maxHeartbeats 8000000 in
set_option maxRecDepth 100000 in
theorem spec_LtHTML.calls (k : Nat) (A0 : Option Addr) (c0 : Nat) (l0 : List (S43)) (a1 : ByteArray) (r : ByteArray) (w : World) (hr0 : Kd.C k43 w A0 l0.length l0) (hc0 : l0.length ≤ c0) (h : spec_LtHTML.f k l0 a1 = some r) :
    Calls Try.prog 14 #[.slice A0 l0.length c0, .string a1] w fun e w' => e = .returned (.string r) ∧ Below w.heap.size w w' := by
  have HR0 := Aside0.mk hr0
  have HC0 := Aside0.mk hc0
  clear hr0 hc0
  have HB := Aside0.mk (Below.refl w.heap.size w)
  have H : (if (l0.length : Int) = 0 then (some (⟨#[]⟩ : ByteArray)) else ((some (([] : List (S43)) : List (S43))).bind fun y173 => (if y173.length + l0.length < 5864062014805 then ((some (y173 ++ l0 : List (S43))).bind fun y176 => (spec_LtHTML.l0 k a1 y176 (y176.length : Int) 0)) else (none)))) = some r := h
  clear h
  by_cases c3 : (l0.length : Int) = 0
  · rw [if_pos c3] at H
    have c3b0 : ((l0.length : Int) == 0) = true := beq_iff_eq.mpr c3
    have c3b1 : ((l0.length : Int) != 0) = false := bne_eq_false_iff_eq.mpr c3
    clear c3
    obtain rfl := Option.some.inj H
    go_enter Try.func14, Try.ntmps14
    go_wp2
    go_ret
    exact ⟨by first | rfl | (simp [errW_none, errW_some] <;> rfl) | (have e_ : ∀ l_ : List UInt8, (l_ != []) = !l_.isEmpty := fun l_ => (by cases l_ <;> rfl); simp [errW_none, errW_some, e_]; done) | (simp [*, errW_none, errW_some] <;> rfl), by repeat (first | (with_reducible first | exact HB.out | apply below_alloc | apply pw_below_drewN | apply below_drew1) | exact HB.out)⟩
  · rw [if_neg c3] at H
    have c3b0 : ((l0.length : Int) == 0) = false := beq_eq_false_iff_ne.mpr c3
    have c3b1 : ((l0.length : Int) != 0) = true := bne_iff_ne.mpr c3
    have c3b2 : ¬ (l0 = []) := fun h_ => c3 (by rw [h_]; rfl)
    obtain ⟨y173, hy173⟩ : ∃ y_ : List (S43), y_ = (([] : List (S43))) := ⟨_, rfl⟩
    replace H : (if y173.length + l0.length < 5864062014805 then ((some (y173 ++ l0 : List (S43))).bind fun y176 => (spec_LtHTML.l0 k a1 y176 (y176.length : Int) 0)) else (none)) = some r := by first | (rw [hy173]; with_reducible exact H) | (have H2_ := (Option.bind_some _ _).symm.trans H; rw [hy173]; with_reducible exact H2_) | (have H2_ := (Option.bind_some _ _).symm.trans H; with_reducible exact H2_) | with_reducible exact H | (rw [hy173]; exact H) | exact H
    have Ny173 := Aside0.mk hy173
    clear hy173
    by_cases c4 : y173.length + l0.length < 5864062014805
    · rw [if_pos c4] at H
      have LMc4 := Aside0.mk c4
      clear c4
      obtain ⟨y176, hy176⟩ : ∃ y_ : List (S43), y_ = (y173 ++ l0) := ⟨_, rfl⟩
      replace H : (spec_LtHTML.l0 k a1 y176 (y176.length : Int) 0) = some r := by first | (rw [hy176]; with_reducible exact H) | (have H2_ := (Option.bind_some _ _).symm.trans H; rw [hy176]; with_reducible exact H2_) | (have H2_ := (Option.bind_some _ _).symm.trans H; with_reducible exact H2_) | with_reducible exact H | (rw [hy176]; exact H) | exact H
      have Ny176 := Aside0.mk hy176
      clear hy176
      have H' := Aside0.mk H
      clear H
      go_enter Try.func14, Try.ntmps14
      go_wp2_with (first | ((with_reducible refine gate_dst (N := 10) rfl ?_); refine Kd.R_lit k43 _ 43 ?hg (N := 10) ?hd (xs := ([] : List (S43))) (inner := []) (ok := fun _ => True) (okp := fun _ => True) ?hr ?hp (fun _ hk => hk) trivial (Below.refl _ _) (Nat.le_refl _) (by simp) ?_; (case hd => rfl); (case hg => rfl); (case hr => first | (go_simp; done) | (go_simp; rfl)); (case hp => exact (Reps.none _ _)); intro v174 w5 ho6 hb hg_ hnew_; clear hg_ hnew_; (first | rw [← Ny173.out] at ho6 | (simp only [Int.reduceToNat] at ho6; rw [← Ny173.out] at ho6)); have n0_ := Aside0.mk (Kd.R_lower ho6 (below_size (by repeat (first | (with_reducible first | exact HB.out | apply below_alloc | apply pw_below_drewN | apply below_drew1) | exact HB.out)))); have n1_ := Aside0.mk (below_step (by repeat (first | (with_reducible first | exact HB.out | apply below_alloc | apply pw_below_drewN | apply below_drew1) | exact HB.out)) hb); clear HB; have HO175 := n0_; have HB := n1_; clear n0_ n1_; clear hb ho6) | ((with_reducible refine gate_builtin (b := .append) (xs := #[.tmp 10, .tmp 11]) rfl ?_); at_builtin; refine Kd.R_append_rows k43 (w0 := w) w.heap.size rfl (.tmp 10) (.tmp 11) 24 43 (.agg #[(.string ⟨#[]⟩), (.int .i64 0)]) 24 rfl Try.underlying24 info43 rfl (by decide) (by omega) v174 y173 l0 _ _ _ (fun _ => True) (fun _ => False) rfl rfl ?aO ?aR (fun _ _ h => h) (fun _ h => h.elim) ?aF ?aB ?aS ?aL ?_; (case aR => repeat (first | exact (Kd.C_below HR0.out HB.out) | (with_reducible refine Kd.C_alloc ?_ _) | (with_reducible refine Kd.C_drewN ?_ _) | (with_reducible refine Kd.C_drew ?_))); (case aB => exact (by repeat (first | (with_reducible first | exact HB.out | apply below_alloc | apply pw_below_drewN | apply below_drew1) | exact HB.out))); (case aF => exact (fun _ _ => trivial)); (case aO => exact (by (with_reducible repeat (first | apply Kd.R_alloc | apply Kd.R_drewN | apply Kd.R_drew)); exact HO175.out)); (case aS => exact (below_size (by repeat (first | (with_reducible first | exact HB.out | apply below_alloc | apply pw_below_drewN | apply below_drew1) | exact HB.out)))); (case aL => have := LMc4.out; omega); intro v177 w7 ho hb hg hat; rw [← Ny176.out] at ho; have n0_ := Aside0.mk (hb); have n1_ := Aside0.mk (ho); clear HB; clear HO175; have HB := n0_; have HO178 := n1_; clear n0_ n1_; clear ho hb hg hat; obtain ⟨Ao8, co8, eo8⟩ := Kd.R_slice HO178.out; subst eo8))
      go_loopg [15] k (fun kq v15 w' => ∃ (x5_1 : List (S43)) (x15_1 : Int), v15 = .int .i64 x15_1 ∧ Aside0 (spec_LtHTML.l0 kq a1 x5_1 (y176.length : Int) x15_1 = some r) ∧ Aside0 (kq ≤ k) ∧ Aside0 (Kd.R k43 43 w' w.heap.size (fun _ => True) (.slice Ao8 y176.length co8) x5_1) ∧ Aside0 (Below w.heap.size w w'))
      case atStart => exact ⟨(y176), (0), (by first | rfl | (simp; done) | (simp [*]; done)), H', ⟨Nat.le_refl _⟩, ⟨by (with_reducible repeat (first | apply Kd.R_alloc | apply Kd.R_drewN | apply Kd.R_drew)); exact HO178.out⟩, ⟨by repeat (first | (with_reducible first | exact HB.out | apply below_alloc | apply pw_below_drewN | apply below_drew1) | exact HB.out)⟩⟩
      case round =>
        clear H'
        try clear c1
        try clear p2
        try clear c3
        try clear c3b0
        try clear c3b1
        try clear c3b2
        try clear c4
        obtain ⟨x5_1, x15_1, rfl, HA, HK1, HO_5, HB⟩ := hrel
        have hl5_1 := (Kd.R_reads' HO_5.out).1
        rw [hl5_1] at HO_5
        (try simp only [hl5_1])
        cases gk with
        | zero => exact absurd HA.out (by simp [spec_LtHTML.l0])
        | succ k1 =>
          have H := HA.out
          clear HA
          simp only [spec_LtHTML.l0] at H
          by_cases c9 : x15_1 < (y176.length : Int)
          · rw [if_pos c9] at H
            have c9b0 : decide (x15_1 < (y176.length : Int)) = true := decide_eq_true c9
            have c9b9 := c9b0; (try rw [hl5_1] at c9b9)
            clear c9
            by_cases c10 : 0 ≤ x15_1
            · rw [if_pos c10] at H
              have c10b0 : decide (0 ≤ x15_1) = true := decide_eq_true c10
              clear c10
              by_cases c11 : x15_1 < (x5_1.length : Int)
              · rw [if_pos c11] at H
                have c11b0 : decide (x15_1 < (x5_1.length : Int)) = true := decide_eq_true c11
                clear c11
                replace H := Option.bind_eq_some_iff.mp H
                obtain ⟨t180, A120, H⟩ := H
                replace H : (spec_LtHTML.l0 k1 a1 (x5_1.set (x15_1 : Int).toNat (⟨t180, (rd_T43 x5_1 x15_1).f1⟩ : S43)) (y176.length : Int) (wrap64 (x15_1 + 1))) = some r := H
                have A12 := Aside0.mk A120
                clear A120
                obtain ⟨y181, hy181⟩ : ∃ y_ : List (S43), y_ = (x5_1.set (x15_1 : Int).toNat (⟨t180, (rd_T43 x5_1 x15_1).f1⟩ : S43)) := ⟨_, rfl⟩
                replace H : (spec_LtHTML.l0 k1 a1 y181 (y176.length : Int) (wrap64 (x15_1 + 1))) = some r := by first | (rw [hy181]; with_reducible exact H) | (have H2_ := (Option.bind_some _ _).symm.trans H; rw [hy181]; with_reducible exact H2_) | (have H2_ := (Option.bind_some _ _).symm.trans H; with_reducible exact H2_) | with_reducible exact H | (rw [hy181]; exact H) | exact H
                have Ny181 := Aside0.mk hy181
                clear hy181
                have H' := Aside0.mk H
                clear H
                have p179 : 0 ≤ (x15_1 : Int) := of_decide_eq_true (by first | (with_reducible assumption) | assumption)
                have q179 : x15_1 < (x5_1.length : Int) := of_decide_eq_true (by first | (with_reducible assumption) | assumption)
                obtain ⟨ad179, e179, hx179_0, hx179_1⟩ := at_T43 (Kd.R_reads' HO_5.out).2.2 x15_1 p179 q179
                cases e179
                replace p179 := eq_true p179
                replace q179 := eq_true q179
                go_wp2_with (first | ((with_reducible refine gate_callee (f := 24) rfl ?_); refine goesL_ (some 25) rfl rfl Try.func24 (by kernel_rfl) rfl #[.string ((rd_T43 x5_1 x15_1).f0)] rfl (by (try simp only [List.map_toArray, List.map_cons, List.map_nil]); first | done | rfl | (simp only [List.length_drop, List.length_take]; rfl)) ?_; (with_reducible refine (spec_LtHTMLText.calls ((rd_T43 x5_1 x15_1).f0) t180 _ A12.out).mono ?_); rintro e w14 ⟨rfl, hb⟩; refine ⟨_, rfl, ?_⟩; have n0_ := Aside0.mk (Kd.R_below (by (with_reducible repeat (first | apply Kd.R_alloc | apply Kd.R_drewN | apply Kd.R_drew)); exact HO_5.out) hb); have n1_ := Aside0.mk (below_step (by repeat (first | (with_reducible first | exact HB.out | apply below_alloc | apply pw_below_drewN | apply below_drew1) | exact HB.out)) hb); clear HO_5; clear HB; have HO_5 := n0_; have HB := n1_; clear n0_ n1_; (try clear hb); (try clear hb2); (try clear hk); (try clear hi); have p13 : 0 ≤ (x15_1 : Int) := of_decide_eq_true (by first | (with_reducible assumption) | assumption); have q13 : (x15_1 : Int) < ((x5_1.length : Int) : Int) := of_decide_eq_true (by first | (with_reducible assumption) | assumption); obtain ⟨go13, co13, eo13, gb13, gl13, cl13, HG13⟩ := Kd.R_form HO_5.out (by omega); (first | cases eo13 | (injection eo13 with ea_ en_ ec_; (first | subst ea_ | (injection ea_ with ea_; subst ea_)); subst ec_; clear en_)); have GB13 := Aside0.mk gb13; have GG13 := Aside0.mk HG13; clear gb13 gl13 HG13; (first | simp only [add_plain] at hx179_0 | skip); (first | simp only [add_plain] at hx179_1 | skip); obtain ⟨ce13, hcl13, hM13, hcc13, hfr13⟩ := Kd.R_elem HO_5.out z43 (x15_1 : Int) p13 q13; obtain rfl := k43_openM hM13; have hx13_0 : w14.cell? ⟨go13, (x15_1 : Int).toNat * 2, none⟩ = some (.string ((rd_T43 x5_1 x15_1).f0)) := hcc13 0 _ rfl; have hx13_1 : w14.cell? ⟨go13, (x15_1 : Int).toNat * 2 + 1, none⟩ = some (.int .i64 ((rd_T43 x5_1 x15_1).f1)) := hcc13 1 _ rfl; have hf13_0 : w14.frozen? ⟨go13, (x15_1 : Int).toNat * 2, none⟩ = false := hfr13 0; have hf13_1 : w14.frozen? ⟨go13, (x15_1 : Int).toNat * 2 + 1, none⟩ = false := hfr13 1; clear hcl13 hcc13 hfr13 hM13; replace p13 := eq_true p13; replace q13 := eq_true q13; have HX15 := Aside0.mk (show Kd.R k43 43 w14 w.heap.size (fun _ => True) (.slice (some ⟨go13, 0, none⟩) x5_1.length co8) x5_1 from (by (with_reducible repeat (first | apply Kd.R_alloc | apply Kd.R_drewN | apply Kd.R_drew)); exact HO_5.out)); obtain ⟨ce15, hcl15, hM15, hcc15, hfr15⟩ := Kd.R_elem HX15.out z43 (x15_1 : Int) (of_decide_eq_true (by first | (with_reducible assumption) | assumption)) (by have h_ : (x15_1 : Int) < ((x5_1.length : Int) : Int) := of_decide_eq_true (by first | (with_reducible assumption) | assumption); first | exact h_ | (have e_ := (Kd.R_reads' HO_5.out).1; omega) | simpa using h_); obtain rfl := k43_openM hM15; have HP15 := Kd.R_seg HX15.out (x15_1 : Int) (of_decide_eq_true (by first | (with_reducible assumption) | assumption)) (by have h_ : (x15_1 : Int) < ((x5_1.length : Int) : Int) := of_decide_eq_true (by first | (with_reducible assumption) | assumption); first | exact h_ | (have e_ := (Kd.R_reads' HO_5.out).1; omega) | simpa using h_) (seg := [.string t180]) (j := 0) hcl15 hcc15 (show 1 ≤ 2 from by decide) (x' := (⟨t180, (rd_T43 x5_1 x15_1).f1⟩ : S43)) (k43_mkM _ _ _ (⟨t180, (rd_T43 x5_1 x15_1).f1⟩ : S43) ) (fun _ hk => hk); have hx15_0 := hcc15 0 _ rfl; (try simp only [show (k43).sz = 2 from rfl, Nat.mul_one, Nat.add_zero] at hx15_0); have hf15_0 := hfr15 0; (try simp only [show (k43).sz = 2 from rfl, Nat.mul_one, Nat.add_zero] at hf15_0); clear hcl15 hcc15 hfr15 hM15) | ((with_reducible refine gate_store (t := 9) (p := 27) rfl ?_); refine store_event (t := 9) (p := 27) (v := ?vo_w16) (w1 := (w14.setCell ⟨go13, (x15_1 : Int).toNat * 2, none⟩ (.string t180))) ?hg ?ho ?hn ?hr ?_; (case ho => rfl); (case hg => rfl); (case hn => rfl); (case hr => first | (go_simp; done) | (go_simp; rfl)); intro w16 hw; have hg : w14.grownBy w16 (some go13) := (by rw [hw]; exact HP15.2); have hp_ : Kd.R k43 43 w16 w.heap.size (fun _ => True) (.slice (some ⟨go13, 0, none⟩) x5_1.length co8) y181 := (by rw [hw, Ny181.out]; exact HP15.1); clear HP15; have n0_ := Aside0.mk (hp_); have n1_ := Aside0.mk ((by rw [hw]; exact below_set (HB.out) GB13.out : Below w.heap.size w w16)); clear HO_5; clear HB; have HO_5 := n0_; have HB := n1_; clear n0_ n1_; clear hg hw hp_))
                (try simp only [← hl5_1])
                go_roundg k1
                case measure => have := HK1.out; omega
                case rel => exact ⟨(y181), (wrap64 (x15_1 + 1)), (by first | rfl | (simp; done) | (simp [*]; done)), H', ⟨by have := HK1.out; omega⟩, ⟨by (try simp only [hl5_1]); (with_reducible repeat (first | apply Kd.R_alloc | apply Kd.R_drewN | apply Kd.R_drew)); exact HO_5.out⟩, ⟨by repeat (first | (with_reducible first | exact HB.out | apply below_alloc | apply pw_below_drewN | apply below_drew1) | exact HB.out)⟩⟩
              · rw [if_neg c11] at H
                exact absurd H (by simp)
            · rw [if_neg c10] at H
              exact absurd H (by simp)
          · rw [if_neg c9] at H
            have c9b0 : decide (x15_1 < (y176.length : Int)) = false := decide_eq_false c9
            have c9b9 := c9b0; (try rw [hl5_1] at c9b9)
            clear c9
            replace H := Option.bind_eq_some_iff.mp H
            obtain ⟨t182, A170, H⟩ := H
            replace H : (some t182) = some r := H
            have A17 := Aside0.mk A170
            clear A170
            obtain rfl := Option.some.inj H
            go_wp2_with (first | ((with_reducible refine gate_callee (f := 25) rfl ?_); refine goesL_ (some 31) rfl rfl Try.func25 (by kernel_rfl) rfl #[.slice Ao8 x5_1.length co8, .string a1] rfl (by (try simp only [List.map_toArray, List.map_cons, List.map_nil]); first | done | rfl | (simp only [List.length_drop, List.length_take]; rfl)) ?_; (with_reducible refine (spec_LsHTML.calls k1 _ _ x5_1 a1 t182 _ ?side1 ?side2 A17.out).mono ?_); (case side1 => repeat (first | exact (Kd.R_reads' HO_5.out).2.2 | (with_reducible refine Kd.C_alloc ?_ _) | (with_reducible refine Kd.C_drewN ?_ _) | (with_reducible refine Kd.C_drew ?_))); (case side2 => exact (Kd.R_reads' HO_5.out).2.1); rintro e w18 ⟨rfl, hb⟩; refine ⟨_, rfl, ?_⟩; have n0_ := Aside0.mk (Kd.R_below (by (with_reducible repeat (first | apply Kd.R_alloc | apply Kd.R_drewN | apply Kd.R_drew)); exact HO_5.out) hb); have n1_ := Aside0.mk (below_step (by repeat (first | (with_reducible first | exact HB.out | apply below_alloc | apply pw_below_drewN | apply below_drew1) | exact HB.out)) hb); clear HO_5; clear HB; have HO_5 := n0_; have HB := n1_; clear n0_ n1_; (try clear hb); (try clear hb2); (try clear hk); (try clear hi)))
            go_ret
            exact ⟨by first | rfl | (simp [errW_none, errW_some] <;> rfl) | (have e_ : ∀ l_ : List UInt8, (l_ != []) = !l_.isEmpty := fun l_ => (by cases l_ <;> rfl); simp [errW_none, errW_some, e_]; done) | (simp [*, errW_none, errW_some] <;> rfl), by repeat (first | (with_reducible first | exact HB.out | apply below_alloc | apply pw_below_drewN | apply below_drew1) | exact HB.out)⟩
    · rw [if_neg c4] at H
      exact absurd H (by simp)

/-! ### laws_FnListsHTML: function 4 -/
mutual
def laws_FnListsHTML.j0 : Nat → List (S36) → ByteArray → Bool → Option (Bool)
  | 0, _, _, _ => none
  | k + 1, x0, x1, x13 => if x13 = true then (some true) else ((spec_LtRight.f k x0).bind fun t184 => (if t184 = true then (if (x1.size : Int) > 60 then (laws_FnListsHTML.j1 k x0 x1 true) else (if x1.toList = ([] : List UInt8) then (laws_FnListsHTML.j1 k x0 x1 false) else ((spec_LsName.f k x1).bind fun t185 => (laws_FnListsHTML.j1 k x0 x1 (!t185))))) else (laws_FnListsHTML.j1 k x0 x1 true)))
def laws_FnListsHTML.j1 : Nat → List (S36) → ByteArray → Bool → Option (Bool)
  | 0, _, _, _ => none
  | k + 1, x0, x1, x30 => if x30 = true then (some true) else (if x1.toList = ([] : List UInt8) then (laws_FnListsHTML.j2 k x0 x1 (⟨#[103, 111, 45, 112, 114, 101, 116, 116, 121, 45, 116, 97, 98, 108, 101]⟩ : ByteArray)) else (laws_FnListsHTML.j2 k x0 x1 x1))
def laws_FnListsHTML.j2 : Nat → List (S36) → ByteArray → ByteArray → Option (Bool)
  | 0, _, _, _ => none
  | k + 1, x0, x1, x5 => (impl_ListHTML.f x0 x1).bind fun t186 => ((spec_LtPlayed.f k x0).bind fun t187 => ((spec_LtHTML.f k t187 x5).bind fun t190 => (if t186.toList = t190.toList then ((impl_ListHTML.f (([(⟨0, (⟨#[97]⟩ : ByteArray), ([] : List ByteArray)⟩ : S36)] : List (S36))) x1).bind fun t194 => (some (t194.toList != ([] : List UInt8)))) else (some false))))
end
def laws_FnListsHTML.f (k : Nat) (l0 : List (S36)) (a1 : ByteArray) : Option (Bool) := (laws_zzFits11.f k l0).bind fun t183 => (if t183 = true then (laws_FnListsHTML.j0 k l0 a1 (decide ((a1.size : Int) > 2147483647))) else (laws_FnListsHTML.j0 k l0 a1 true))
theorem laws_FnListsHTML.mono_l : ∀ k, (∀ y0 y1 y2, LeO (laws_FnListsHTML.j0 k y0 y1 y2) (laws_FnListsHTML.j0 (k + 1) y0 y1 y2)) ∧ (∀ y0 y1 y2, LeO (laws_FnListsHTML.j1 k y0 y1 y2) (laws_FnListsHTML.j1 (k + 1) y0 y1 y2)) ∧ (∀ y0 y1 y2, LeO (laws_FnListsHTML.j2 k y0 y1 y2) (laws_FnListsHTML.j2 (k + 1) y0 y1 y2))
  | 0 => ⟨fun _ _ _ r h => by simp [laws_FnListsHTML.j0] at h, fun _ _ _ r h => by simp [laws_FnListsHTML.j1] at h, fun _ _ _ r h => by simp [laws_FnListsHTML.j2] at h⟩
  | k + 1 => by
    obtain ⟨ih0, ih1, ih2⟩ := laws_FnListsHTML.mono_l k
    refine ⟨?_, ?_, ?_⟩
    · intro y0 y1 y2
      unfold laws_FnListsHTML.j0
      repeat' first
      | (with_reducible exact ih0 _ _ _)
      | (with_reducible exact ih1 _ _ _)
      | (with_reducible exact ih2 _ _ _)
      | (with_reducible exact laws_zzFits11.mono _ _)
      | (with_reducible exact spec_LsName.mono _ _)
      | (with_reducible exact spec_LtHTML.mono _ _ _)
      | (with_reducible exact spec_LtPlayed.mono _ _)
      | (with_reducible exact spec_LtRight.mono _ _)
      | (with_reducible exact LeO.refl _)
      | (with_reducible exact LeO.none _)
      | (with_reducible refine LeO.ite ?_ ?_)
      | (with_reducible refine LeO.bind ?_ (fun _ => ?_))
      | exact ih0 _ _ _
      | exact ih1 _ _ _
      | exact ih2 _ _ _
      | exact laws_zzFits11.mono _ _
      | exact spec_LsName.mono _ _
      | exact spec_LtHTML.mono _ _ _
      | exact spec_LtPlayed.mono _ _
      | exact spec_LtRight.mono _ _
      | exact LeO.none _
      | refine LeO.ite ?_ ?_
      | refine LeO.bind ?_ (fun _ => ?_)
    · intro y0 y1 y2
      unfold laws_FnListsHTML.j1
      repeat' first
      | (with_reducible exact ih0 _ _ _)
      | (with_reducible exact ih1 _ _ _)
      | (with_reducible exact ih2 _ _ _)
      | (with_reducible exact laws_zzFits11.mono _ _)
      | (with_reducible exact spec_LsName.mono _ _)
      | (with_reducible exact spec_LtHTML.mono _ _ _)
      | (with_reducible exact spec_LtPlayed.mono _ _)
      | (with_reducible exact spec_LtRight.mono _ _)
      | (with_reducible exact LeO.refl _)
      | (with_reducible exact LeO.none _)
      | (with_reducible refine LeO.ite ?_ ?_)
      | (with_reducible refine LeO.bind ?_ (fun _ => ?_))
      | exact ih0 _ _ _
      | exact ih1 _ _ _
      | exact ih2 _ _ _
      | exact laws_zzFits11.mono _ _
      | exact spec_LsName.mono _ _
      | exact spec_LtHTML.mono _ _ _
      | exact spec_LtPlayed.mono _ _
      | exact spec_LtRight.mono _ _
      | exact LeO.none _
      | refine LeO.ite ?_ ?_
      | refine LeO.bind ?_ (fun _ => ?_)
    · intro y0 y1 y2
      unfold laws_FnListsHTML.j2
      repeat' first
      | (with_reducible exact ih0 _ _ _)
      | (with_reducible exact ih1 _ _ _)
      | (with_reducible exact ih2 _ _ _)
      | (with_reducible exact laws_zzFits11.mono _ _)
      | (with_reducible exact spec_LsName.mono _ _)
      | (with_reducible exact spec_LtHTML.mono _ _ _)
      | (with_reducible exact spec_LtPlayed.mono _ _)
      | (with_reducible exact spec_LtRight.mono _ _)
      | (with_reducible exact LeO.refl _)
      | (with_reducible exact LeO.none _)
      | (with_reducible refine LeO.ite ?_ ?_)
      | (with_reducible refine LeO.bind ?_ (fun _ => ?_))
      | exact ih0 _ _ _
      | exact ih1 _ _ _
      | exact ih2 _ _ _
      | exact laws_zzFits11.mono _ _
      | exact spec_LsName.mono _ _
      | exact spec_LtHTML.mono _ _ _
      | exact spec_LtPlayed.mono _ _
      | exact spec_LtRight.mono _ _
      | exact LeO.none _
      | refine LeO.ite ?_ ?_
      | refine LeO.bind ?_ (fun _ => ?_)
theorem laws_FnListsHTML.mono : ∀ a0 a1 k, LeO (laws_FnListsHTML.f k a0 a1) (laws_FnListsHTML.f (k + 1) a0 a1) := by
  intro a0 a1 k
  obtain ⟨ih0, ih1, ih2⟩ := laws_FnListsHTML.mono_l k
  unfold laws_FnListsHTML.f
  repeat' first
      | (with_reducible exact ih0 _ _ _)
      | (with_reducible exact ih1 _ _ _)
      | (with_reducible exact ih2 _ _ _)
      | (with_reducible exact laws_zzFits11.mono _ _)
      | (with_reducible exact spec_LsName.mono _ _)
      | (with_reducible exact spec_LtHTML.mono _ _ _)
      | (with_reducible exact spec_LtPlayed.mono _ _)
      | (with_reducible exact spec_LtRight.mono _ _)
      | (with_reducible exact LeO.refl _)
      | (with_reducible exact LeO.none _)
      | (with_reducible refine LeO.ite ?_ ?_)
      | (with_reducible refine LeO.bind ?_ (fun _ => ?_))
      | exact ih0 _ _ _
      | exact ih1 _ _ _
      | exact ih2 _ _ _
      | exact laws_zzFits11.mono _ _
      | exact spec_LsName.mono _ _
      | exact spec_LtHTML.mono _ _ _
      | exact spec_LtPlayed.mono _ _
      | exact spec_LtRight.mono _ _
      | exact LeO.none _
      | refine LeO.ite ?_ ?_
      | refine LeO.bind ?_ (fun _ => ?_)
set_option maxHeartbeats 8000000 in
set_option maxRecDepth 100000 in
theorem laws_FnListsHTML.calls (k : Nat) (A0 : Option Addr) (c0 : Nat) (l0 : List (S36)) (a1 : ByteArray) (r : Bool) (w : World) (hr0 : Kd.C k36 w A0 l0.length l0) (hc0 : l0.length ≤ c0) (h : laws_FnListsHTML.f k l0 a1 = some r) :
    Calls Try.prog 4 #[.slice A0 l0.length c0, .string a1] w fun e w' => e = .returned (.bool r) ∧ Below w.heap.size w w' := by
  have hu36 := Try.underlying36
  have HR0 := Aside0.mk hr0
  have HC0 := Aside0.mk hc0
  clear hr0 hc0
  have HB := Aside0.mk (Below.refl w.heap.size w)
  have H : ((laws_zzFits11.f k l0).bind fun t183 => (if t183 = true then (laws_FnListsHTML.j0 k l0 a1 (decide ((a1.size : Int) > 2147483647))) else (laws_FnListsHTML.j0 k l0 a1 true))) = some r := h
  clear h
  have HC3 := Aside0.mk H
  clear H
  go_enter Try.func4, Try.ntmps4
  go_upto_region 1 with (fail)
  go_cut [13] (fun v13 wc => ∃ (kq : Nat) (x13_2 : Bool), v13 = .bool x13_2 ∧ Aside0 (laws_FnListsHTML.j0 kq l0 a1 x13_2 = some r) ∧ Aside0 (kq ≤ k) ∧ Aside0 (Below w.heap.size w wc))
  case first =>
    have H := HC3.out
    clear HC3
    replace H := Option.bind_eq_some_iff.mp H
    obtain ⟨t183, A40, H⟩ := H
    replace H : (if t183 = true then (laws_FnListsHTML.j0 k l0 a1 (decide ((a1.size : Int) > 2147483647))) else (laws_FnListsHTML.j0 k l0 a1 true)) = some r := H
    have A4 := Aside0.mk A40
    clear A40
    by_cases c5 : t183 = true
    · subst c5
      have H1 : (laws_FnListsHTML.j0 k l0 a1 (decide ((a1.size : Int) > 2147483647))) = some r := by rw [if_pos rfl] at H; exact H
      clear H
      have H := H1
      clear H1
      have H' := Aside0.mk H
      clear H
      go_wp2_with (first | ((with_reducible refine gate_callee (f := 6) rfl ?_); refine goesL_ (some 7) rfl rfl Try.func6 (by kernel_rfl) rfl #[.slice A0 l0.length c0] rfl (by (try simp only [List.map_toArray, List.map_cons, List.map_nil]); first | done | rfl | (simp only [List.length_drop, List.length_take]; rfl)) ?_; (with_reducible refine (laws_zzFits11.calls k _ _ l0 true _ ?side1 ?side2 A4.out).mono ?_); (case side1 => repeat (first | exact (Kd.C_below HR0.out HB.out) | (with_reducible refine Kd.C_alloc ?_ _) | (with_reducible refine Kd.C_drewN ?_ _) | (with_reducible refine Kd.C_drew ?_))); (case side2 => exact HC0.out); rintro e w6 ⟨rfl, hb⟩; refine ⟨_, rfl, ?_⟩; have n0_ := Aside0.mk (below_step (by repeat (first | (with_reducible first | exact HB.out | apply below_alloc | apply pw_below_drewN | apply below_drew1) | exact HB.out)) hb); clear HB; have HB := n0_; clear n0_; (try clear hb); (try clear hb2); (try clear hk); (try clear hi)))
      go_meet
      case rel => exact ⟨_, (decide ((a1.size : Int) > 2147483647)), (by first | rfl | (simp; done) | (simp [*]; done)), H', ⟨by first | omega | exact Nat.le_refl _⟩, ⟨by repeat (first | (with_reducible first | exact HB.out | apply below_alloc | apply pw_below_drewN | apply below_drew1) | exact HB.out)⟩⟩
    · replace c5 := Bool.eq_false_iff.mpr c5
      subst c5
      have H1 : (laws_FnListsHTML.j0 k l0 a1 true) = some r := by rw [if_neg (show ¬ (false = true) by decide)] at H; exact H
      clear H
      have H := H1
      clear H1
      have H' := Aside0.mk H
      clear H
      go_wp2_with (first | ((with_reducible refine gate_callee (f := 6) rfl ?_); refine goesL_ (some 7) rfl rfl Try.func6 (by kernel_rfl) rfl #[.slice A0 l0.length c0] rfl (by (try simp only [List.map_toArray, List.map_cons, List.map_nil]); first | done | rfl | (simp only [List.length_drop, List.length_take]; rfl)) ?_; (with_reducible refine (laws_zzFits11.calls k _ _ l0 false _ ?side1 ?side2 A4.out).mono ?_); (case side1 => repeat (first | exact (Kd.C_below HR0.out HB.out) | (with_reducible refine Kd.C_alloc ?_ _) | (with_reducible refine Kd.C_drewN ?_ _) | (with_reducible refine Kd.C_drew ?_))); (case side2 => exact HC0.out); rintro e w7 ⟨rfl, hb⟩; refine ⟨_, rfl, ?_⟩; have n0_ := Aside0.mk (below_step (by repeat (first | (with_reducible first | exact HB.out | apply below_alloc | apply pw_below_drewN | apply below_drew1) | exact HB.out)) hb); clear HB; have HB := n0_; clear n0_; (try clear hb); (try clear hb2); (try clear hk); (try clear hi)))
      go_meet
      case rel => exact ⟨_, (true), (by first | rfl | (simp; done) | (simp [*]; done)), H', ⟨by first | omega | exact Nat.le_refl _⟩, ⟨by repeat (first | (with_reducible first | exact HB.out | apply below_alloc | apply pw_below_drewN | apply below_drew1) | exact HB.out)⟩⟩
  case rest =>
    clear HC3
    try clear p2
    try clear c4
    try clear c5
    try clear c6
    obtain ⟨kq, x13_2, rfl, HA, HJ2, HB⟩ := hcut
    cases kq with
    | zero => exact absurd HA.out (by simp [laws_FnListsHTML.j0])
    | succ kj2 =>
      have H := HA.out
      clear HA
      simp only [laws_FnListsHTML.j0] at H
      by_cases c8 : x13_2 = true
      · subst c8
        have H1 : (some true) = some r := by rw [if_pos rfl] at H; exact H
        clear H
        have H := H1
        clear H1
        obtain rfl := Option.some.inj H
        go_wp2
        go_ret
        exact ⟨by first | rfl | (simp [errW_none, errW_some] <;> rfl) | (have e_ : ∀ l_ : List UInt8, (l_ != []) = !l_.isEmpty := fun l_ => (by cases l_ <;> rfl); simp [errW_none, errW_some, e_]; done) | (simp [*, errW_none, errW_some] <;> rfl), by repeat (first | (with_reducible first | exact HB.out | apply below_alloc | apply pw_below_drewN | apply below_drew1) | exact HB.out)⟩
      · replace c8 := Bool.eq_false_iff.mpr c8
        subst c8
        have H1 : ((spec_LtRight.f kj2 l0).bind fun t184 => (if t184 = true then (if (a1.size : Int) > 60 then (laws_FnListsHTML.j1 kj2 l0 a1 true) else (if a1.toList = ([] : List UInt8) then (laws_FnListsHTML.j1 kj2 l0 a1 false) else ((spec_LsName.f kj2 a1).bind fun t185 => (laws_FnListsHTML.j1 kj2 l0 a1 (!t185))))) else (laws_FnListsHTML.j1 kj2 l0 a1 true))) = some r := by rw [if_neg (show ¬ (false = true) by decide)] at H; exact H
        clear H
        have H := H1
        clear H1
        have HC9 := Aside0.mk H
        clear H
        go_upto_region 3 with (fail)
        go_cut [30] (fun v30 wc => ∃ (kq : Nat) (x30_8 : Bool), v30 = .bool x30_8 ∧ Aside0 (laws_FnListsHTML.j1 kq l0 a1 x30_8 = some r) ∧ Aside0 (kq ≤ kj2) ∧ Aside0 (Below w.heap.size w wc))
        case first =>
          have H := HC9.out
          clear HC9
          replace H := Option.bind_eq_some_iff.mp H
          obtain ⟨t184, A100, H⟩ := H
          replace H : (if t184 = true then (if (a1.size : Int) > 60 then (laws_FnListsHTML.j1 kj2 l0 a1 true) else (if a1.toList = ([] : List UInt8) then (laws_FnListsHTML.j1 kj2 l0 a1 false) else ((spec_LsName.f kj2 a1).bind fun t185 => (laws_FnListsHTML.j1 kj2 l0 a1 (!t185))))) else (laws_FnListsHTML.j1 kj2 l0 a1 true)) = some r := H
          have A10 := Aside0.mk A100
          clear A100
          by_cases c11 : t184 = true
          · subst c11
            have H1 : (if (a1.size : Int) > 60 then (laws_FnListsHTML.j1 kj2 l0 a1 true) else (if a1.toList = ([] : List UInt8) then (laws_FnListsHTML.j1 kj2 l0 a1 false) else ((spec_LsName.f kj2 a1).bind fun t185 => (laws_FnListsHTML.j1 kj2 l0 a1 (!t185))))) = some r := by rw [if_pos rfl] at H; exact H
            clear H
            have H := H1
            clear H1
            by_cases c12 : (a1.size : Int) > 60
            · rw [if_pos c12] at H
              have c12b0 : decide (60 < (a1.size : Int)) = true := decide_eq_true c12
              have c12b1 : decide (60 < a1.size) = true := decide_eq_true (by omega)
              clear c12
              (first | rw [c12b0] | (simp only [i64_w, i32_w]; rw [c12b0]) | skip)
              have H' := Aside0.mk H
              clear H
              go_wp2_with (first | ((with_reducible refine gate_callee (f := 8) rfl ?_); refine goesL_ (some 15) rfl rfl Try.func8 (by kernel_rfl) rfl #[.slice A0 l0.length c0] rfl (by (try simp only [List.map_toArray, List.map_cons, List.map_nil]); first | done | rfl | (simp only [List.length_drop, List.length_take]; rfl)) ?_; (with_reducible refine (spec_LtRight.calls kj2 _ _ l0 true _ ?side1 ?side2 A10.out).mono ?_); (case side1 => repeat (first | exact (Kd.C_below HR0.out HB.out) | (with_reducible refine Kd.C_alloc ?_ _) | (with_reducible refine Kd.C_drewN ?_ _) | (with_reducible refine Kd.C_drew ?_))); (case side2 => exact HC0.out); rintro e w13 ⟨rfl, hb⟩; refine ⟨_, rfl, ?_⟩; have n0_ := Aside0.mk (below_step (by repeat (first | (with_reducible first | exact HB.out | apply below_alloc | apply pw_below_drewN | apply below_drew1) | exact HB.out)) hb); clear HB; have HB := n0_; clear n0_; (try clear hb); (try clear hb2); (try clear hk); (try clear hi)))
              go_meet
              case rel => exact ⟨_, (true), (by first | rfl | (simp; done) | (simp [*]; done)), H', ⟨by have := HJ2.out; first | omega | exact Nat.le_refl _⟩, ⟨by repeat (first | (with_reducible first | exact HB.out | apply below_alloc | apply pw_below_drewN | apply below_drew1) | exact HB.out)⟩⟩
            · rw [if_neg c12] at H
              have c12b0 : decide (60 < (a1.size : Int)) = false := decide_eq_false c12
              have c12b1 : decide (60 < a1.size) = false := decide_eq_false (by omega)
              clear c12
              (first | rw [c12b0] | (simp only [i64_w, i32_w]; rw [c12b0]) | skip)
              by_cases c14 : a1.toList = ([] : List UInt8)
              · rw [if_pos c14] at H
                have c14b0 : (a1.toList == ([] : List UInt8)) = true := beq_iff_eq.mpr c14
                have c14b7 : a1.toList.isEmpty = true := by simpa using c14
                have c14b1 : (a1.toList != ([] : List UInt8)) = false := bne_eq_false_iff_eq.mpr c14
                clear c14
                have H' := Aside0.mk H
                clear H
                go_wp2_with (first | ((with_reducible refine gate_callee (f := 8) rfl ?_); refine goesL_ (some 15) rfl rfl Try.func8 (by kernel_rfl) rfl #[.slice A0 l0.length c0] rfl (by (try simp only [List.map_toArray, List.map_cons, List.map_nil]); first | done | rfl | (simp only [List.length_drop, List.length_take]; rfl)) ?_; (with_reducible refine (spec_LtRight.calls kj2 _ _ l0 true _ ?side1 ?side2 A10.out).mono ?_); (case side1 => repeat (first | exact (Kd.C_below HR0.out HB.out) | (with_reducible refine Kd.C_alloc ?_ _) | (with_reducible refine Kd.C_drewN ?_ _) | (with_reducible refine Kd.C_drew ?_))); (case side2 => exact HC0.out); rintro e w15 ⟨rfl, hb⟩; refine ⟨_, rfl, ?_⟩; have n0_ := Aside0.mk (below_step (by repeat (first | (with_reducible first | exact HB.out | apply below_alloc | apply pw_below_drewN | apply below_drew1) | exact HB.out)) hb); clear HB; have HB := n0_; clear n0_; (try clear hb); (try clear hb2); (try clear hk); (try clear hi)))
                go_meet
                case rel => exact ⟨_, (false), (by first | rfl | (simp; done) | (simp [*]; done)), H', ⟨by have := HJ2.out; first | omega | exact Nat.le_refl _⟩, ⟨by repeat (first | (with_reducible first | exact HB.out | apply below_alloc | apply pw_below_drewN | apply below_drew1) | exact HB.out)⟩⟩
              · rw [if_neg c14] at H
                have c14b0 : (a1.toList == ([] : List UInt8)) = false := beq_eq_false_iff_ne.mpr c14
                have c14b7 : a1.toList.isEmpty = false := by simpa using c14
                have c14b1 : (a1.toList != ([] : List UInt8)) = true := bne_iff_ne.mpr c14
                replace H := Option.bind_eq_some_iff.mp H
                obtain ⟨t185, A160, H⟩ := H
                replace H : (laws_FnListsHTML.j1 kj2 l0 a1 (!t185)) = some r := H
                have A16 := Aside0.mk A160
                clear A160
                have H' := Aside0.mk H
                clear H
                go_wp2_with (first | ((with_reducible refine gate_callee (f := 8) rfl ?_); refine goesL_ (some 15) rfl rfl Try.func8 (by kernel_rfl) rfl #[.slice A0 l0.length c0] rfl (by (try simp only [List.map_toArray, List.map_cons, List.map_nil]); first | done | rfl | (simp only [List.length_drop, List.length_take]; rfl)) ?_; (with_reducible refine (spec_LtRight.calls kj2 _ _ l0 true _ ?side1 ?side2 A10.out).mono ?_); (case side1 => repeat (first | exact (Kd.C_below HR0.out HB.out) | (with_reducible refine Kd.C_alloc ?_ _) | (with_reducible refine Kd.C_drewN ?_ _) | (with_reducible refine Kd.C_drew ?_))); (case side2 => exact HC0.out); rintro e w17 ⟨rfl, hb⟩; refine ⟨_, rfl, ?_⟩; have n0_ := Aside0.mk (below_step (by repeat (first | (with_reducible first | exact HB.out | apply below_alloc | apply pw_below_drewN | apply below_drew1) | exact HB.out)) hb); clear HB; have HB := n0_; clear n0_; (try clear hb); (try clear hb2); (try clear hk); (try clear hi)) | (go_at_call 10; (with_reducible refine (spec_LsName.calls kj2 a1 t185 _ A16.out).mono ?_); rintro e w' ⟨rfl, ⟨nd, rfl⟩⟩))
                go_meet
                case rel => exact ⟨_, (!t185), (by first | rfl | (simp; done) | (simp [*]; done)), H', ⟨by have := HJ2.out; first | omega | exact Nat.le_refl _⟩, ⟨by repeat (first | (with_reducible first | exact HB.out | apply below_alloc | apply pw_below_drewN | apply below_drew1) | exact HB.out)⟩⟩
          · replace c11 := Bool.eq_false_iff.mpr c11
            subst c11
            have H1 : (laws_FnListsHTML.j1 kj2 l0 a1 true) = some r := by rw [if_neg (show ¬ (false = true) by decide)] at H; exact H
            clear H
            have H := H1
            clear H1
            have H' := Aside0.mk H
            clear H
            go_wp2_with (first | ((with_reducible refine gate_callee (f := 8) rfl ?_); refine goesL_ (some 15) rfl rfl Try.func8 (by kernel_rfl) rfl #[.slice A0 l0.length c0] rfl (by (try simp only [List.map_toArray, List.map_cons, List.map_nil]); first | done | rfl | (simp only [List.length_drop, List.length_take]; rfl)) ?_; (with_reducible refine (spec_LtRight.calls kj2 _ _ l0 false _ ?side1 ?side2 A10.out).mono ?_); (case side1 => repeat (first | exact (Kd.C_below HR0.out HB.out) | (with_reducible refine Kd.C_alloc ?_ _) | (with_reducible refine Kd.C_drewN ?_ _) | (with_reducible refine Kd.C_drew ?_))); (case side2 => exact HC0.out); rintro e w18 ⟨rfl, hb⟩; refine ⟨_, rfl, ?_⟩; have n0_ := Aside0.mk (below_step (by repeat (first | (with_reducible first | exact HB.out | apply below_alloc | apply pw_below_drewN | apply below_drew1) | exact HB.out)) hb); clear HB; have HB := n0_; clear n0_; (try clear hb); (try clear hb2); (try clear hk); (try clear hi)))
            go_meet
            case rel => exact ⟨_, (true), (by first | rfl | (simp; done) | (simp [*]; done)), H', ⟨by have := HJ2.out; first | omega | exact Nat.le_refl _⟩, ⟨by repeat (first | (with_reducible first | exact HB.out | apply below_alloc | apply pw_below_drewN | apply below_drew1) | exact HB.out)⟩⟩
        case rest =>
          clear HC9
          try clear c1
          try clear p2
          try clear c4
          try clear c5
          try clear c6
          try clear c8
          try clear c11
          try clear c12
          try clear c12b0
          try clear c12b1
          try clear c14
          try clear c14b0
          try clear c14b1
          try clear p2
          obtain ⟨kq, x30_8, rfl, HA, HJ8, HB⟩ := hcut
          cases kq with
          | zero => exact absurd HA.out (by simp [laws_FnListsHTML.j1])
          | succ kj8 =>
            have H := HA.out
            clear HA
            simp only [laws_FnListsHTML.j1] at H
            by_cases c19 : x30_8 = true
            · subst c19
              have H1 : (some true) = some r := by rw [if_pos rfl] at H; exact H
              clear H
              have H := H1
              clear H1
              obtain rfl := Option.some.inj H
              go_wp2
              go_ret
              exact ⟨by first | rfl | (simp [errW_none, errW_some] <;> rfl) | (have e_ : ∀ l_ : List UInt8, (l_ != []) = !l_.isEmpty := fun l_ => (by cases l_ <;> rfl); simp [errW_none, errW_some, e_]; done) | (simp [*, errW_none, errW_some] <;> rfl), by repeat (first | (with_reducible first | exact HB.out | apply below_alloc | apply pw_below_drewN | apply below_drew1) | exact HB.out)⟩
            · replace c19 := Bool.eq_false_iff.mpr c19
              subst c19
              have H1 : (if a1.toList = ([] : List UInt8) then (laws_FnListsHTML.j2 kj8 l0 a1 (⟨#[103, 111, 45, 112, 114, 101, 116, 116, 121, 45, 116, 97, 98, 108, 101]⟩ : ByteArray)) else (laws_FnListsHTML.j2 kj8 l0 a1 a1)) = some r := by rw [if_neg (show ¬ (false = true) by decide)] at H; exact H
              clear H
              have H := H1
              clear H1
              have HC20 := Aside0.mk H
              clear H
              go_upto_if 33 with (fail)
              go_cut [5] (fun v5 wc => ∃ (kq : Nat) (x5_19 : ByteArray), v5 = .string x5_19 ∧ Aside0 (laws_FnListsHTML.j2 kq l0 a1 x5_19 = some r) ∧ Aside0 (kq ≤ kj8) ∧ Aside0 (Below w.heap.size w wc))
              case first =>
                have H := HC20.out
                clear HC20
                by_cases c21 : a1.toList = ([] : List UInt8)
                · rw [if_pos c21] at H
                  have c21b0 : (a1.toList == ([] : List UInt8)) = true := beq_iff_eq.mpr c21
                  have c21b7 : a1.toList.isEmpty = true := by simpa using c21
                  have c21b1 : (a1.toList != ([] : List UInt8)) = false := bne_eq_false_iff_eq.mpr c21
                  clear c21
                  (first | rw [c21b0] | rw [c21b7] | (simp only [i64_w, i32_w]; rw [c21b0]) | skip)
                  have H' := Aside0.mk H
                  clear H
                  go_wp2
                  go_meet
                  case rel => exact ⟨_, ((⟨#[103, 111, 45, 112, 114, 101, 116, 116, 121, 45, 116, 97, 98, 108, 101]⟩ : ByteArray)), (by first | rfl | (simp; done) | (simp [*]; done)), H', ⟨by have := HJ2.out; have := HJ8.out; first | omega | exact Nat.le_refl _⟩, ⟨by repeat (first | (with_reducible first | exact HB.out | apply below_alloc | apply pw_below_drewN | apply below_drew1) | exact HB.out)⟩⟩
                · rw [if_neg c21] at H
                  have c21b0 : (a1.toList == ([] : List UInt8)) = false := beq_eq_false_iff_ne.mpr c21
                  have c21b7 : a1.toList.isEmpty = false := by simpa using c21
                  have c21b1 : (a1.toList != ([] : List UInt8)) = true := bne_iff_ne.mpr c21
                  (first | rw [c21b0] | rw [c21b7] | (simp only [i64_w, i32_w]; rw [c21b0]) | skip)
                  have H' := Aside0.mk H
                  clear H
                  go_wp2
                  go_meet
                  case rel => exact ⟨_, (a1), (by first | rfl | (simp; done) | (simp [*]; done)), H', ⟨by have := HJ2.out; have := HJ8.out; first | omega | exact Nat.le_refl _⟩, ⟨by repeat (first | (with_reducible first | exact HB.out | apply below_alloc | apply pw_below_drewN | apply below_drew1) | exact HB.out)⟩⟩
              case rest =>
                clear HC20
                try clear c1
                try clear c2
                try clear p2
                try clear c4
                try clear c5
                try clear c6
                try clear c8
                try clear c11
                try clear c12
                try clear c12b0
                try clear c12b1
                try clear c14
                try clear c14b0
                try clear c14b1
                try clear c19
                try clear c21
                try clear c21b0
                try clear c21b1
                try clear p2
                obtain ⟨kq, x5_19, rfl, HA, HJ19, HB⟩ := hcut
                cases kq with
                | zero => exact absurd HA.out (by simp [laws_FnListsHTML.j2])
                | succ kj19 =>
                  have H := HA.out
                  clear HA
                  simp only [laws_FnListsHTML.j2] at H
                  replace H := Option.bind_eq_some_iff.mp H
                  obtain ⟨t186, A220, H⟩ := H
                  replace H : ((spec_LtPlayed.f kj19 l0).bind fun t187 => ((spec_LtHTML.f kj19 t187 x5_19).bind fun t190 => (if t186.toList = t190.toList then ((impl_ListHTML.f (([(⟨0, (⟨#[97]⟩ : ByteArray), ([] : List ByteArray)⟩ : S36)] : List (S36))) a1).bind fun t194 => (some (t194.toList != ([] : List UInt8)))) else (some false)))) = some r := H
                  have A22 := Aside0.mk A220
                  clear A220
                  replace H := Option.bind_eq_some_iff.mp H
                  obtain ⟨t187, A230, H⟩ := H
                  replace H : ((spec_LtHTML.f kj19 t187 x5_19).bind fun t190 => (if t186.toList = t190.toList then ((impl_ListHTML.f (([(⟨0, (⟨#[97]⟩ : ByteArray), ([] : List ByteArray)⟩ : S36)] : List (S36))) a1).bind fun t194 => (some (t194.toList != ([] : List UInt8)))) else (some false))) = some r := H
                  have A23 := Aside0.mk A230
                  clear A230
                  replace H := Option.bind_eq_some_iff.mp H
                  obtain ⟨t190, A240, H⟩ := H
                  replace H : (if t186.toList = t190.toList then ((impl_ListHTML.f (([(⟨0, (⟨#[97]⟩ : ByteArray), ([] : List ByteArray)⟩ : S36)] : List (S36))) a1).bind fun t194 => (some (t194.toList != ([] : List UInt8)))) else (some false)) = some r := H
                  have A24 := Aside0.mk A240
                  clear A240
                  by_cases c25 : t186.toList = t190.toList
                  · rw [if_pos c25] at H
                    have c25b0 : (t186.toList == t190.toList) = true := beq_iff_eq.mpr c25
                    have c25b1 : (t186.toList != t190.toList) = false := bne_eq_false_iff_eq.mpr c25
                    clear c25
                    obtain ⟨y191, hy191⟩ : ∃ y_ : List (S36), y_ = (([(⟨0, (⟨#[97]⟩ : ByteArray), ([] : List ByteArray)⟩ : S36)] : List (S36))) := ⟨_, rfl⟩
                    replace H : ((impl_ListHTML.f y191 a1).bind fun t194 => (some (t194.toList != ([] : List UInt8)))) = some r := by first | (rw [hy191]; with_reducible exact H) | (have H2_ := (Option.bind_some _ _).symm.trans H; rw [hy191]; with_reducible exact H2_) | (have H2_ := (Option.bind_some _ _).symm.trans H; with_reducible exact H2_) | with_reducible exact H | (rw [hy191]; exact H) | exact H
                    have Ny191 := Aside0.mk hy191
                    clear hy191
                    replace H := Option.bind_eq_some_iff.mp H
                    obtain ⟨t194, A260, H⟩ := H
                    replace H : (some (t194.toList != ([] : List UInt8))) = some r := H
                    have A26 := Aside0.mk A260
                    clear A260
                    obtain rfl := Option.some.inj H
                    go_wp2_with (first | ((with_reducible refine gate_callee (f := 12) rfl ?_); refine goesL_ (some 36) rfl rfl Try.func12 (by kernel_rfl) rfl #[.slice A0 l0.length c0, .string a1] rfl (by (try simp only [List.map_toArray, List.map_cons, List.map_nil]); first | done | rfl | (simp only [List.length_drop, List.length_take]; rfl)) ?_; (with_reducible refine (impl_ListHTML.calls _ _ l0 a1 t186 _ ?side1 ?side2 A22.out).mono ?_); (case side1 => repeat (first | exact (Kd.C_below HR0.out HB.out) | (with_reducible refine Kd.C_alloc ?_ _) | (with_reducible refine Kd.C_drewN ?_ _) | (with_reducible refine Kd.C_drew ?_))); (case side2 => exact HC0.out); rintro e w27 ⟨rfl, hb⟩; refine ⟨_, rfl, ?_⟩; have n0_ := Aside0.mk (below_step (by repeat (first | (with_reducible first | exact HB.out | apply below_alloc | apply pw_below_drewN | apply below_drew1) | exact HB.out)) hb); clear HB; have HB := n0_; clear n0_; (try clear hb); (try clear hb2); (try clear hk); (try clear hi)) | ((with_reducible refine gate_callee (f := 7) rfl ?_); refine goesL_ (some 38) rfl rfl Try.func7 (by kernel_rfl) rfl #[.slice A0 l0.length c0] rfl (by (try simp only [List.map_toArray, List.map_cons, List.map_nil]); first | done | rfl | (simp only [List.length_drop, List.length_take]; rfl)) ?_; (with_reducible refine (spec_LtPlayed.calls kj19 _ _ l0 t187 _ ?side1 ?side2 A23.out).mono ?_); (case side1 => repeat (first | exact (Kd.C_below HR0.out HB.out) | (with_reducible refine Kd.C_alloc ?_ _) | (with_reducible refine Kd.C_drewN ?_ _) | (with_reducible refine Kd.C_drew ?_))); (case side2 => exact HC0.out); rintro e w28 ⟨v188, rfl, ho0, hb⟩; refine ⟨_, rfl, ?_⟩; have n0_ := Aside0.mk (Kd.R_lower ho0 (below_size (by repeat (first | (with_reducible first | exact HB.out | apply below_alloc | apply pw_below_drewN | apply below_drew1) | exact HB.out)))); have n1_ := Aside0.mk (below_step (by repeat (first | (with_reducible first | exact HB.out | apply below_alloc | apply pw_below_drewN | apply below_drew1) | exact HB.out)) hb); clear HB; have HO189 := n0_; have HB := n1_; clear n0_ n1_; (try clear hb); (try clear hb2); (try clear hk); (try clear hi); (try clear ho0); obtain ⟨Ao29, co29, eo29⟩ := Kd.R_slice HO189.out; subst eo29) | ((with_reducible refine gate_callee (f := 14) rfl ?_); refine goesL_ (some 40) rfl rfl Try.func14 (by kernel_rfl) rfl #[.slice Ao29 t187.length co29, .string x5_19] rfl (by (try simp only [List.map_toArray, List.map_cons, List.map_nil]); first | done | rfl | (simp only [List.length_drop, List.length_take]; rfl)) ?_; (with_reducible refine (spec_LtHTML.calls kj19 _ _ t187 x5_19 t190 _ ?side1 ?side2 A24.out).mono ?_); (case side1 => repeat (first | exact (Kd.R_reads' HO189.out).2.2 | (with_reducible refine Kd.C_alloc ?_ _) | (with_reducible refine Kd.C_drewN ?_ _) | (with_reducible refine Kd.C_drew ?_))); (case side2 => exact (Kd.R_reads' HO189.out).2.1); rintro e w30 ⟨rfl, hb⟩; refine ⟨_, rfl, ?_⟩; have n0_ := Aside0.mk (Kd.R_below (by (with_reducible repeat (first | apply Kd.R_alloc | apply Kd.R_drewN | apply Kd.R_drew)); exact HO189.out) hb); have n1_ := Aside0.mk (below_step (by repeat (first | (with_reducible first | exact HB.out | apply below_alloc | apply pw_below_drewN | apply below_drew1) | exact HB.out)) hb); clear HO189; clear HB; have HO189 := n0_; have HB := n1_; clear n0_ n1_; (try clear hb); (try clear hb2); (try clear hk); (try clear hi)) | ((with_reducible refine gate_dst (N := 44) rfl ?_); (try (refine gate_guard (by rfl) ?_; dsimp only)); refine Kd.S_lit k36 _ 36 ?hg (N := 44) ?hd (xs := ([(⟨0, (⟨#[97]⟩ : ByteArray), ([] : List ByteArray)⟩ : S36)] : List (S36))) (inner := [.int .i64 0, .string (⟨#[97]⟩ : ByteArray), .slice none 0 0]) (ok := fun _ => True) (okp := fun _ => True) ?hr ?hp (fun _ hk => hk) trivial (Below.refl _ _) (Nat.le_refl _) (by simp) ?_; (case hd => rfl); (case hg => rfl); (case hr => first | (go_simp; done) | (go_simp; rfl)); (case hp => exact (Reps.c3 (show Kd.M k36 _ _ _ (⟨0, (⟨#[97]⟩ : ByteArray), ([] : List ByteArray)⟩ : S36) [.int .i64 0, .string (⟨#[97]⟩ : ByteArray), .slice none 0 0] from (k36_mkM _ _ _ (⟨0, (⟨#[97]⟩ : ByteArray), ([] : List ByteArray)⟩ : S36) (Kd.R_nil _ _ _ _ _))) (Reps.none _ _))); intro v192 w31 ho32 hb hg_ hnew_; clear hg_ hnew_; (first | rw [← Ny191.out] at ho32 | (simp only [Int.reduceToNat] at ho32; rw [← Ny191.out] at ho32)); have n0_ := Aside0.mk (Kd.R_below (by (with_reducible repeat (first | apply Kd.R_alloc | apply Kd.R_drewN | apply Kd.R_drew)); exact HO189.out) hb); have n1_ := Aside0.mk (Kd.S_lower ho32 (below_size (by repeat (first | (with_reducible first | exact HB.out | apply below_alloc | apply pw_below_drewN | apply below_drew1) | exact HB.out)))); have n2_ := Aside0.mk (below_step (by repeat (first | (with_reducible first | exact HB.out | apply below_alloc | apply pw_below_drewN | apply below_drew1) | exact HB.out)) hb); clear HO189; clear HB; have HO189 := n0_; have HO193 := n1_; have HB := n2_; clear n0_ n1_ n2_; clear hb ho32; obtain ⟨Ao33, co33, eo33⟩ := Kd.S_slice HO193.out; subst eo33) | (go_at_call 12; (with_reducible refine (impl_ListHTML.calls _ _ y191 a1 t194 _ ?side1 ?side2 A26.out).mono ?_); (case side1 => repeat (first | exact (Kd.S_reads' HO193.out).2.2 | (with_reducible refine Kd.C_alloc ?_ _) | (with_reducible refine Kd.C_drewN ?_ _) | (with_reducible refine Kd.C_drew ?_))); (case side2 => exact (Kd.S_reads' HO193.out).2.1); rintro e w34 ⟨rfl, hb⟩; have n0_ := Aside0.mk (Kd.R_below (by (with_reducible repeat (first | apply Kd.R_alloc | apply Kd.R_drewN | apply Kd.R_drew)); exact HO189.out) hb); have n1_ := Aside0.mk (Kd.S_below (by (with_reducible repeat (first | apply Kd.S_alloc | apply Kd.S_drewN | apply Kd.S_drew)); exact HO193.out) hb); have n2_ := Aside0.mk (below_step (by repeat (first | (with_reducible first | exact HB.out | apply below_alloc | apply pw_below_drewN | apply below_drew1) | exact HB.out)) hb); clear HO189; clear HO193; clear HB; have HO189 := n0_; have HO193 := n1_; have HB := n2_; clear n0_ n1_ n2_; (try clear hb); (try clear hb2); (try clear hk); (try clear hi)))
                    go_ret
                    exact ⟨by first | rfl | (simp [errW_none, errW_some] <;> rfl) | (have e_ : ∀ l_ : List UInt8, (l_ != []) = !l_.isEmpty := fun l_ => (by cases l_ <;> rfl); simp [errW_none, errW_some, e_]; done) | (simp [*, errW_none, errW_some] <;> rfl), by repeat (first | (with_reducible first | exact HB.out | apply below_alloc | apply pw_below_drewN | apply below_drew1) | exact HB.out)⟩
                  · rw [if_neg c25] at H
                    have c25b0 : (t186.toList == t190.toList) = false := beq_eq_false_iff_ne.mpr c25
                    have c25b1 : (t186.toList != t190.toList) = true := bne_iff_ne.mpr c25
                    obtain rfl := Option.some.inj H
                    go_wp2_with (first | ((with_reducible refine gate_callee (f := 12) rfl ?_); refine goesL_ (some 36) rfl rfl Try.func12 (by kernel_rfl) rfl #[.slice A0 l0.length c0, .string a1] rfl (by (try simp only [List.map_toArray, List.map_cons, List.map_nil]); first | done | rfl | (simp only [List.length_drop, List.length_take]; rfl)) ?_; (with_reducible refine (impl_ListHTML.calls _ _ l0 a1 t186 _ ?side1 ?side2 A22.out).mono ?_); (case side1 => repeat (first | exact (Kd.C_below HR0.out HB.out) | (with_reducible refine Kd.C_alloc ?_ _) | (with_reducible refine Kd.C_drewN ?_ _) | (with_reducible refine Kd.C_drew ?_))); (case side2 => exact HC0.out); rintro e w35 ⟨rfl, hb⟩; refine ⟨_, rfl, ?_⟩; have n0_ := Aside0.mk (below_step (by repeat (first | (with_reducible first | exact HB.out | apply below_alloc | apply pw_below_drewN | apply below_drew1) | exact HB.out)) hb); clear HB; have HB := n0_; clear n0_; (try clear hb); (try clear hb2); (try clear hk); (try clear hi)) | ((with_reducible refine gate_callee (f := 7) rfl ?_); refine goesL_ (some 38) rfl rfl Try.func7 (by kernel_rfl) rfl #[.slice A0 l0.length c0] rfl (by (try simp only [List.map_toArray, List.map_cons, List.map_nil]); first | done | rfl | (simp only [List.length_drop, List.length_take]; rfl)) ?_; (with_reducible refine (spec_LtPlayed.calls kj19 _ _ l0 t187 _ ?side1 ?side2 A23.out).mono ?_); (case side1 => repeat (first | exact (Kd.C_below HR0.out HB.out) | (with_reducible refine Kd.C_alloc ?_ _) | (with_reducible refine Kd.C_drewN ?_ _) | (with_reducible refine Kd.C_drew ?_))); (case side2 => exact HC0.out); rintro e w36 ⟨v188, rfl, ho0, hb⟩; refine ⟨_, rfl, ?_⟩; have n0_ := Aside0.mk (Kd.R_lower ho0 (below_size (by repeat (first | (with_reducible first | exact HB.out | apply below_alloc | apply pw_below_drewN | apply below_drew1) | exact HB.out)))); have n1_ := Aside0.mk (below_step (by repeat (first | (with_reducible first | exact HB.out | apply below_alloc | apply pw_below_drewN | apply below_drew1) | exact HB.out)) hb); clear HB; have HO189 := n0_; have HB := n1_; clear n0_ n1_; (try clear hb); (try clear hb2); (try clear hk); (try clear hi); (try clear ho0); obtain ⟨Ao37, co37, eo37⟩ := Kd.R_slice HO189.out; subst eo37) | ((with_reducible refine gate_callee (f := 14) rfl ?_); refine goesL_ (some 40) rfl rfl Try.func14 (by kernel_rfl) rfl #[.slice Ao37 t187.length co37, .string x5_19] rfl (by (try simp only [List.map_toArray, List.map_cons, List.map_nil]); first | done | rfl | (simp only [List.length_drop, List.length_take]; rfl)) ?_; (with_reducible refine (spec_LtHTML.calls kj19 _ _ t187 x5_19 t190 _ ?side1 ?side2 A24.out).mono ?_); (case side1 => repeat (first | exact (Kd.R_reads' HO189.out).2.2 | (with_reducible refine Kd.C_alloc ?_ _) | (with_reducible refine Kd.C_drewN ?_ _) | (with_reducible refine Kd.C_drew ?_))); (case side2 => exact (Kd.R_reads' HO189.out).2.1); rintro e w38 ⟨rfl, hb⟩; refine ⟨_, rfl, ?_⟩; have n0_ := Aside0.mk (Kd.R_below (by (with_reducible repeat (first | apply Kd.R_alloc | apply Kd.R_drewN | apply Kd.R_drew)); exact HO189.out) hb); have n1_ := Aside0.mk (below_step (by repeat (first | (with_reducible first | exact HB.out | apply below_alloc | apply pw_below_drewN | apply below_drew1) | exact HB.out)) hb); clear HO189; clear HB; have HO189 := n0_; have HB := n1_; clear n0_ n1_; (try clear hb); (try clear hb2); (try clear hk); (try clear hi)))
                    go_ret
                    exact ⟨by first | rfl | (simp [errW_none, errW_some] <;> rfl) | (have e_ : ∀ l_ : List UInt8, (l_ != []) = !l_.isEmpty := fun l_ => (by cases l_ <;> rfl); simp [errW_none, errW_some, e_]; done) | (simp [*, errW_none, errW_some] <;> rfl), by repeat (first | (with_reducible first | exact HB.out | apply below_alloc | apply pw_below_drewN | apply below_drew1) | exact HB.out)⟩

end Go.Proofs.Yteenhipldfdkaaa.P
