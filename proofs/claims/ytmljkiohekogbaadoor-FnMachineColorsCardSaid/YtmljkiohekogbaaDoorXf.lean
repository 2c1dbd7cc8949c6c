import Derived.Test.YtmljkiohekogbaaDoorXe
import Derived.Test.YtmljkiohekogbaaDoorMx
namespace Go.Proofs.YtmljkiohekogbaaDoor
open Go.RowKit
set_option linter.unusedVariables false
set_option linter.unusedSimpArgs false
set_option maxHeartbeats 8000000
set_option maxRecDepth 100000
attribute [local go_sem] S_extract S_append run_cut_S run_head_S run_tail_S Nat.add_sub_cancel_left

theorem infoColor : (Tryd.prog.info? 96).map (fun i => (i.zero, i.size, i.bytes)) = some (some (.int .i64 0), 1, 8) := by kernel_rfl
theorem colorsOf_calls (cs : List Int) (A : Option Addr) (c : Nat) (w : World) (h : RdF w (.slice A cs.length c) 1 cs.length (cs.map (Value.int .i64))) (hl : cs.length ≤ 1000000) :
    Calls Tryd.prog 43 #[.slice A cs.length c] w fun e w' => ∃ v, e = .returned v ∧ w'.ownsRow w.heap.size 96 1 v cs.length (cs.map (Value.int .i64)) ∧ Below w.heap.size w w' := by
  have HR := hid h
  clear h
  go_enter Tryd.func43, Tryd.ntmps43
  go_wp2
  go_loopw [3, 8] (fun vo u wr => ∃ k : Nat, k ≤ cs.length ∧ u = .int .i64 k ∧ Below w.heap.size w wr ∧ wr.ownsRow w.heap.size 96 1 vo k ((cs.take k).map (Value.int .i64))) (fun _ u _ => cs.length - (intOf u).toNat)
  case atStart => exact ⟨0, by omega, rfl, Below.refl _ w, own_nil _ _ _ _⟩
  case round =>
    obtain ⟨k, hk, rfl, hbw, hown⟩ := hrel
    have hbs := hbw.size
    by_cases hlt : k < cs.length
    · obtain ⟨y, hy⟩ : ∃ y, cs[k]? = some y := ⟨_, List.getElem?_eq_getElem hlt⟩
      obtain ⟨g, o, rfl, hcl⟩ := (HR.out.below hbw).at (by omega)
      have hcell := hcl k (.int .i64 y) (by rw [List.getElem?_map, hy]; rfl)
      have hlt' : (k : Int) < (cs.length : Int) := by omega
      have HTK := hid (show cs.take (k + 1) = cs.take k ++ [y] by rw [List.take_add_one, hy]; rfl)
      clear hcl hy
      go_wp2_with (at_builtin; refine append_box rfl _ _ 79 96 (.int .i64 0) 1 8 rfl Tryd.underlying79 infoColor rfl (by decide) w.heap.size u3 k ((cs.take k).map (Value.int .i64)) rfl hown 1 96 [.int .i64 y] rfl rfl (by simp; rfl) (by omega) (by decide) hbs ?_; intro v2 w2 hown2 hg2)
      go_roundw
      case rel => exact ⟨k + 1, by omega, by go_num, below_grown hbw hbs (Nat.le_refl _) hown hg2, by rw [HTK.out, List.map_append]; exact hown2⟩
      case measure => simp [intOf]; omega
    · have hk2 : k = cs.length := by omega
      have hlt' : ¬ (k : Int) < (cs.length : Int) := by omega
      have hF : wr.ownsRow w.heap.size 96 1 u3 cs.length (cs.map (Value.int .i64)) := by
        have := hown
        rw [hk2, List.take_length] at this
        exact this
      go_wp2
      go_ret
      exact ⟨_, rfl, hF, hbw⟩
theorem colorToCode_calls (v : Value) (c : Int) (w : World) (h0 : 0 ≤ c) (h1 : c < 1000) :
    Calls Tryd.prog 61 #[v, .int .i64 c] w fun e w' => e = .returned (.string ⟨(colDs c).toArray⟩) ∧ Below w.heap.size w w' := by
  obtain ⟨n, rfl⟩ := Int.eq_ofNat_of_zero_le h0
  have KI := hid (fun (w' : World) => Itoa_calls n w' (by omega))
  have c1 : ¬ (1000 : Int) ≤ (n : Int) := by omega
  have c2 : ¬ (2000 : Int) ≤ (n : Int) := by omega
  have d1 : decide ((1000 : Int) ≤ (n : Int)) = false := decide_eq_false c1
  have d2 : decide ((2000 : Int) ≤ (n : Int)) = false := decide_eq_false c2
  clear h0 h1
  go_enter Tryd.func61, Tryd.ntmps61
  go_wp2_with (go_at_call 59; (with_reducible refine (KI.out _).mono ?_); rintro e w' ⟨rfl, hb⟩)
  go_ret
  exact ⟨rfl, hb⟩
theorem join_joinX : ∀ (l : List (List UInt8)), Lib.join l [59] = joinX 59 l
  | [] => rfl
  | [a] => by simp [Lib.join, joinX]
  | a :: b :: t => by
    have h := join_joinX (b :: t)
    unfold Lib.join at h ⊢
    have e : joinX 59 (a :: b :: t) = a ++ 59 :: joinX 59 (b :: t) := rfl
    rw [e, ← h]
    simp [List.intercalate]
theorem EscapeSeq_calls (cs : List Int) (v : Value) (w : World) (h : RdF w v 1 cs.length (cs.map (Value.int .i64))) (hl : cs.length ≤ 20) (hne : cs ≠ []) (ha : ∀ c ∈ cs, attr c = true) :
    Calls Tryd.prog 44 #[v] w fun e w' => e = .returned (.string ⟨(seqB (joinX 59 (cs.map colDs))).toArray⟩) ∧ Below w.heap.size w w' := by
  have HR := hid h
  obtain ⟨A, c, rfl, hc, _⟩ := h.form
  have hlen := (run_colors cs hne ha hl).2.2
  have hcb : ∀ x ∈ cs, 0 ≤ x ∧ x < 1000 := fun x hx => by
    have := opNum_ne (attr_ok (ha x hx))
    have e : opNum (0, x) = x := rfl
    rw [e] at this
    omega
  have hl0 : 0 < cs.length := List.length_pos_iff.2 hne
  have hz : ((cs.length : Int) == 0) = false := by simp; omega
  obtain ⟨ib, hi, hz0, hz1, hz2⟩ := info_parts infoStr
  have KC := hid (fun (y : Int) (hy : 0 ≤ y ∧ y < 1000) (v : Value) (w' : World) => colorToCode_calls v y w' hy.1 hy.2)
  clear h
  go_enter Tryd.func44, Tryd.ntmps44
  go_wp2_with (at_make; refine wpList_make_own _ rfl _ _ 49 rfl w.heap.size 9 ib (.string ⟨#[]⟩) 1 Tryd.underlying49 hi hz0 hz1 _ _ _ cs.length rfl rfl rfl (by rw [hz2]; omega) (by unfold maxLen; omega) (Nat.le_refl _) ?_; intro w1 hown1 hg1; have hb1 : Below w.heap.size w w1 := grown_below hg1 (fun k hk => by cases hk); clear hg1)
  go_loopw [3, 14] (fun vo u wr => ∃ k : Nat, k ≤ cs.length ∧ u = .int .i64 k ∧ Below w.heap.size w wr ∧ wr.ownsRow w.heap.size 9 1 vo k (strs ((cs.take k).map colDs))) (fun _ u _ => cs.length - (intOf u).toNat)
  case atStart => exact ⟨0, by omega, rfl, hb1, hown1⟩
  case round =>
    obtain ⟨k, hk, rfl, hbw, hown⟩ := hrel
    have hbs := hbw.size
    by_cases hlt : k < cs.length
    · obtain ⟨y, hy⟩ : ∃ y, cs[k]? = some y := ⟨_, List.getElem?_eq_getElem hlt⟩
      obtain ⟨g, o, rfl, hcl⟩ := (HR.out.below hbw).at (by omega)
      have hcell := hcl k (.int .i64 y) (by rw [List.getElem?_map, hy]; rfl)
      have hlt' : (k : Int) < (cs.length : Int) := by omega
      have hyb := hcb y (List.mem_of_getElem? hy)
      have HTK := hid (show cs.take (k + 1) = cs.take k ++ [y] by rw [List.take_add_one, hy]; rfl)
      have HOWN := hid hown
      clear hcl hy hown
      go_wp2_with (first
        | (go_at_call 61; (with_reducible refine (KC.out y hyb _ _).mono ?_); rintro e w2 ⟨rfl, hb2⟩; have hown2 := own_below HOWN.out hb2; have hbw2 := hbw.trans (hb2.mono hbw.size); clear hb2)
        | (at_builtin; refine append_box rfl _ _ 49 9 (.string ⟨#[]⟩) 1 16 rfl Tryd.underlying49 infoStr rfl (by decide) w.heap.size u3 k (strs ((cs.take k).map colDs)) rfl hown2 1 9 [.string ⟨(colDs y).toArray⟩] rfl rfl (by simp; rfl) (by omega) (by decide) hbw2.size ?_; intro v3 w3 hown3 hg3))
      go_roundw
      case rel => exact ⟨k + 1, by omega, by go_num, below_grown hbw2 hbw2.size (Nat.le_refl _) hown2 hg3, by rw [HTK.out, List.map_append]; simpa [strs] using hown3⟩
      case measure => simp [intOf]; omega
    · have hk2 : k = cs.length := by omega
      have hlt' : ¬ (k : Int) < (cs.length : Int) := by omega
      have hF : wr.ownsRow w.heap.size 9 1 u3 cs.length (strs (cs.map colDs)) := by
        have := hown
        rw [hk2, List.take_length] at this
        exact this
      clear hown
      obtain ⟨g, c', rfl, hgb, hcc, hgl, hcl⟩ := own_cells hF (by omega)
      have hlj : (joinX 59 (cs.map colDs)).length ≤ 100 := by
        have := hlen
        simp only [seqB, List.length_cons, List.length_append, List.length_nil] at this
        omega
      have e1 : (((cs.map colDs).map fun x => (⟨x.toArray⟩ : ByteArray)).map (·.data.toList)) = cs.map colDs := by
        rw [List.map_map]
        conv => rhs; rw [← List.map_id (cs.map colDs)]
        apply List.map_congr_left
        intro a _
        simp
      have hj : Lib.join (((cs.map colDs).map fun x => (⟨x.toArray⟩ : ByteArray)).map (·.data.toList)) (⟨#[59]⟩ : ByteArray).data.toList = joinX 59 (cs.map colDs) := by rw [e1]; exact join_joinX _
      have hcapl : cs.length ≤ c' := by
        obtain ⟨A', c2, hv2, h2, _⟩ := own_slice hF
        cases hv2
        exact h2
      have hJ := Tryd.strings_Join g 0 c' ((cs.map colDs).map fun x => (⟨x.toArray⟩ : ByteArray)) ⟨#[59]⟩ wr (fun j x hx => by
        rw [Nat.zero_add]
        refine hcl j _ ?_
        simp only [List.getElem?_map, Option.map_eq_some_iff] at hx
        obtain ⟨y, ⟨z, hz, rfl⟩, rfl⟩ := hx
        simp [strs, hz]) (own_lt hF g rfl).1 (by simp only [List.length_map]; omega) (by simp only [List.length_map]; exact hcapl) (by rw [hj]; omega)
      rw [hj, List.length_map, List.length_map] at hJ
      have KJ := hid hJ
      clear hJ hcl hF e1 hj
      have hov : ¬ 9223372036854775807 < 2 + (joinX 59 (cs.map colDs)).length := by omega
      go_wp2_with (go_at_call 62; (with_reducible refine KJ.out.mono ?_); rintro e w4 ⟨rfl, hb4⟩)
      go_ret
      exact ⟨ret_str (by simp [seqB]), hbw.trans (hb4.mono hbs)⟩
theorem TextColorsSeq_calls (cs : List Int) (A : Option Addr) (c : Nat) (w : World) (h : RdF w (.slice A cs.length c) 1 cs.length (cs.map (Value.int .i64))) (hl : cs.length ≤ 20) (hne : cs ≠ []) (ha : ∀ c ∈ cs, attr c = true) :
    Calls Tryd.prog 25 #[.slice A cs.length c] w fun e w' => e = .returned (.string ⟨(seqB (joinX 59 (cs.map colDs))).toArray⟩) ∧ Below w.heap.size w w' := by
  have KO := hid (colorsOf_calls cs A c w h (by omega))
  have KE := hid (fun (v : Value) (w1 : World) (h1 : w1.ownsRow w.heap.size 96 1 v cs.length (cs.map (Value.int .i64))) => EscapeSeq_calls cs v w1 (RdF.of_own h1 (by omega)) hl hne ha)
  clear h
  go_enter Tryd.func25, Tryd.ntmps25
  go_wp2_with (first
    | (go_at_call 43; (with_reducible refine KO.out.mono ?_); rintro e w1 ⟨v1, rfl, hown1, hb1⟩)
    | (go_at_call 44; (with_reducible refine (KE.out _ _ hown1).mono ?_); rintro e w2 ⟨rfl, hb2⟩))
  go_ret
  exact ⟨rfl, hb1.trans (hb2.mono hb1.size)⟩
theorem txAttr_attr (c : Int) : txAttr c = attr c := rfl
theorem rdI_of {w : World} {A : Option Addr} {c : Nat} {l : List Int} (h : RdF w (.slice A l.length c) 1 l.length (l.map (Value.int .i64))) (hl : l.length ≤ 4611686018427387904) (hn : A = none → c = 0) : RdI w (.slice A l.length c) l := by
  obtain ⟨_, _, A', c', hv, h1, _, h2⟩ := h
  injection hv with e1 _ e3
  subst e1 e3
  refine ⟨hl, A, c, rfl, h1, hn, fun h0 => ?_⟩
  obtain ⟨g, o, ha, hx⟩ := h2 (fun e => h0 (List.eq_nil_of_length_eq_zero e))
  exact ⟨g, o, ha, fun j x hj => hx j _ (by rw [List.getElem?_map, hj]; rfl)⟩
theorem esc0_seq : ([27, 91, 48, 109] : List UInt8) = opsText [(1, 0)] := by
  unfold opsText opText opDs opNum
  rw [List.flatMap_cons, List.flatMap_nil]
  simp only [if_true]
  rw [show ((0 : Int).toNat) = 0 from rfl, dec_dg3 0 (by decide)]
  rfl
theorem op10 : ∀ o ∈ [((1 : Int), (0 : Int))], OpR o := by
  intro o ho
  simp only [List.mem_singleton] at ho
  subst ho
  exact .inr (.inl rfl)
theorem Colors_calls (cs : List Int) (A : Option Addr) (c : Nat) (w : World) (h : RdF w (.slice A cs.length c) 1 cs.length (cs.map (Value.int .i64))) (hnz : A = none → c = 0) (ht : TabsRaw w) :
    Calls Tryd.prog 8 #[.slice A cs.length c] w fun e w' => e = .returned (.bool true) ∧ Below w.heap.size w w' := by
  have HT := hid (Tabs.start ht)
  have HR := hid h
  have hn := h.1
  clear h ht
  by_cases hz : cs.length ≤ 2147483647
  · have hz' : ¬ (2147483647 : Int) < (cs.length : Int) := by omega
    go_enter Tryd.func8, Tryd.ntmps8
    go_wp2
    go_loop [11] (fun u => ∃ k : Nat, k ≤ cs.length ∧ u = .int .i64 k ∧ Hid (∀ x ∈ cs.take k, attr x = true)) (fun u => cs.length - (intOf u).toNat)
    case atStart => exact ⟨0, by omega, rfl, hid (by simp)⟩
    case round =>
      obtain ⟨k, hk, rfl, hacc⟩ := hrel
      by_cases hlt : k < cs.length
      · obtain ⟨y, hy⟩ : ∃ y, cs[k]? = some y := ⟨_, List.getElem?_eq_getElem hlt⟩
        obtain ⟨g, o, rfl, hcl⟩ := HR.out.at (by omega)
        have hcell := hcl k (.int .i64 y) (by rw [List.getElem?_map, hy]; rfl)
        have hlt' : (k : Int) < (cs.length : Int) := by omega
        have HTK := hid (show cs.take (k + 1) = cs.take k ++ [y] by rw [List.take_add_one, hy]; rfl)
        clear hcl hy
        cases ha : txAttr y
        all_goals go_wp2_with (go_at_call 24; (with_reducible refine (TxAttribute_calls y _).mono ?_); rintro e w' ⟨rfl, rfl⟩; rw [ha])
        · go_ret
          exact ⟨rfl, Below.refl _ w⟩
        · go_round
          case rel => exact ⟨k + 1, by omega, by go_num, hid (by
            intro x hx
            rw [HTK.out] at hx
            rcases List.mem_append.1 hx with hx | hx
            · exact hacc.out x hx
            · simp only [List.mem_singleton] at hx; subst hx; exact ha)⟩
          case measure => simp [intOf]; omega
      · have hk2 : k = cs.length := by omega
        have hlt' : ¬ (k : Int) < (cs.length : Int) := by omega
        have hat : ∀ x ∈ cs, attr x = true := by
          have := hacc.out
          rw [hk2, List.take_length] at this
          exact this
        clear hacc
        by_cases h0 : cs.length = 0
        · have e0 : ((cs.length : Int) == 0) = true := by rw [h0]; rfl
          go_wp2
          go_ret
          exact ⟨rfl, Below.refl _ w⟩
        · have hnz0 : (cs.length : Int) ≠ 0 := by omega
          have e0 : ((cs.length : Int) == 0) = false := by simpa using hnz0
          by_cases h20 : cs.length ≤ 20
          · have h20' : ¬ (20 : Int) < (cs.length : Int) := by omega
            have d20 : decide ((20 : Int) < (cs.length : Int)) = false := decide_eq_false h20'
            have hne : cs ≠ [] := fun e => h0 (by rw [e]; rfl)
            obtain ⟨hrun, hasc, hl100⟩ := run_colors cs hne hat h20
            have KT := hid (TextColorsSeq_calls cs A c w HR.out h20 hne hat)
            have HMEM := hid (colors_mem cs [] hat)
            generalize hS : seqB (joinX 59 (cs.map colDs)) = S at *
            have hok : SqOk 400 (pS S) := ⟨by simp [pS], by simp [pS], by show (encs (runesL S)).length ≤ 400; rw [ascii_runes0 hasc, ascii_runes _ hasc]; omega, by show S.length ≤ _; omega⟩
            have hok0 : SqOk 400 (pS [27, 91, 48, 109]) := by rw [esc0_seq]; exact ops_ok op10 (by simp)
            have KP := hid (fun (W : World) (h : Tabs W.heap.size W) => two_calls S [27, 91, 48, 109] W h hok hok0)
            have HRUN := hid hrun
            clear hrun hasc hl100 hok hok0 hS
            generalize hF : cs.foldl (fun c v => procCode v c) [] = F at *
            have hFne : F ≠ [] := by
              obtain ⟨x, t, rfl⟩ : ∃ x t, cs = x :: t := by
                cases cs with
                | nil => exact absurd rfl hne
                | cons x t => exact ⟨x, t, rfl⟩
              intro e
              have := (HMEM.out x).2 (.inr (by simp))
              rw [e] at this
              cases this
            clear hF hat
            go_upto_region 12 with (first
              | (go_at_call 25; (with_reducible refine KT.out.mono ?_); rintro e w3 ⟨rfl, hb3⟩)
              | (go_at_call 21; (with_reducible refine (KP.out _ ((HT.out.below hb3).mono hb3.size)).mono ?_); rintro e w5 ⟨v5, x, y, rfl, hx5, hy5, hrd5, hb5⟩; have HB5 := hid (hb3.trans (hb5.mono hb3.size)); obtain ⟨A5, c5, rfl, hc5, _⟩ : ∃ A c, v5 = .slice A 2 c ∧ 2 ≤ c ∧ True := hrd5.1.form))
            have hxc : x.st.codes = F := by rw [hx5, HRUN.out]
            have hyc : y.st.codes = [] := by
              rw [hy5, HRUN.out, esc0_seq, parse_ops [(1, 0)] (Out.zero.codes F) op10]
              simp [codesTo, opNum, procCode]
            obtain ⟨g5, o5, rfl, hcl5⟩ := hrd5.1.at (by simp)
            have hxr := hrd5.2 x (by simp)
            obtain ⟨_, Ax, cx, hvx, _⟩ := id hxr
            obtain ⟨_, Ay, cy, hvy, _⟩ := id (hrd5.2 y (by simp))
            obtain ⟨p0', p1, p2, p3, -⟩ := ev_get (l := [x, y]) (i := 0) (x := x) rfl
            obtain ⟨q0, q1, q2, q3, -⟩ := ev_get (l := [x, y]) (i := 1) (x := y) rfl
            have a1 := hcl5 _ _ p1
            have a2 := hcl5 _ _ p2
            have b1 := hcl5 _ _ q1
            have b3 := hcl5 _ _ q3
            simp only [Nat.zero_mul, Nat.add_zero, Nat.zero_add] at a1 a2
            have b1' := b1
            have b3' := b3
            simp only [Nat.one_mul, ← Nat.add_assoc] at b1 b3
            rw [hxc] at a1
            rw [hvx, hxc] at a2
            rw [hyc] at b1 b1' b3 b3'
            rw [hvx, hxc] at hxr
            have KA := hid ((TxAlike_calls (.slice Ax F.length cx) (.slice A cs.length c) F cs w5 hxr (rdI_of (HR.out.below HB5.out) (by omega) hnz)).mono (fun e w' (h : e = .returned (.bool (alike F cs)) ∧ w5 = w') => (show e = .returned (.bool true) ∧ w5 = w' from ⟨by rw [h.1, alike_of (fun z => by rw [HMEM.out z]; simp)], h.2⟩)))
            have t1 : F.isEmpty = false := by simpa using hFne
            have hsq : seqOf itoaF [] = [] := rfl
            rw [t1] at a1
            rw [hsq] at b3 b3'
            clear hcl5 p0' p1 p2 p3 q0 q1 q2 q3 hxr hvx hvy hxc hyc hx5 hy5 hrd5 KT KP HMEM HRUN
            go_wp2_with (go_at_call 22; (with_reducible refine KA.out.mono ?_); rintro e w6 ⟨rfl, rfl⟩)
            go_ret
            exact ⟨rfl, HB5.out⟩
          · have h20' : (20 : Int) < (cs.length : Int) := by omega
            have d20 : decide ((20 : Int) < (cs.length : Int)) = true := decide_eq_true h20'
            go_wp2
            go_ret
            exact ⟨rfl, Below.refl _ w⟩
  · have hz' : (2147483647 : Int) < (cs.length : Int) := by omega
    go_enter Tryd.func8, Tryd.ntmps8
    go_wp2
    go_ret
    exact ⟨rfl, Below.refl _ w⟩
end Go.Proofs.YtmljkiohekogbaaDoor
