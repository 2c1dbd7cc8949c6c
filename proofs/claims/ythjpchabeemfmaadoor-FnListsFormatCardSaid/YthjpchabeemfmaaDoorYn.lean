import Derived.Test.YthjpchabeemfmaaDoorYm
namespace Go.Proofs.YthjpchabeemfmaaDoor
open Go.Shelf Go.RowKit Go.Lib
set_option linter.unusedVariables false
set_option linter.unusedSimpArgs false
variable {P : Program} {ρ : Ren}

set_option maxHeartbeats 4000000 in
set_option maxRecDepth 1000000 in
/-- strings.Map at a function that keeps a state below the call's world (St), drops no rune and gives runes. -/
theorem map_state (L : Lays.n230 P ρ) (X : Builder.Extra P ρ) (g : Nat) (lb : Array Value) (eg : ∀ args w, (callFunc g args).run P w = .ok (.enter g args) w)
    {σ : Type} (F : σ → Int → Int × σ) (s : ByteArray) (w : World) (hs : s.size < 35184372088832) (St : σ → World → Prop) (c0 : σ) (hc0 : St c0 w)
    (hbel : ∀ c W W', St c W → Below w.heap.size W W' → St c W')
        (Ok : Nat → Prop) (hT : Ok 65533 → ∀ c W, St c W → Utf8Tabs (ρ.g 3) (ρ.g 4) W) (hok : ∀ pos, pos < s.size → Ok (decodeL (s.data.toList.drop pos)).1)
    (hf : ∀ (W : World) (c : σ) (x : Nat), x ≤ 1114111 → Ok x → w.heap.size ≤ W.heap.size → St c W → Calls P g (#[encR x] ++ lb) W fun e w' => e = .returned (.int .i32 (F c x).1) ∧ St (F c x).2 w' ∧ Above w.heap.size W w')
    (hnn : ∀ (c : σ) (x : Nat), x ≤ 1114111 → Ok x → 0 ≤ (F c x).1 ∧ (F c x).1 ≤ 2147483647) :
    Calls P (ρ.f 230) #[.func (.func g) #[] lb, .string s] w fun e w' => e = .returned (.string ⟨(mapS F c0 s.data.toList).toArray⟩) ∧ ∃ c, St c w' ∧ w.heap.size ≤ w'.heap.size := by
  have t0 := L.t0; have a0 := L.a0; have z0 := L.z0; have v0 := L.v0; have t3 := L.t3; have a3 := L.a3; have z3 := L.z3; have v3 := L.v3; have t4 := L.t4; have a4 := L.a4; have z4 := L.z4; have v4 := L.v4; have t5 := L.t5; have a5 := L.a5; have z5 := L.z5; have v5 := L.v5; have t9 := L.t9; have a9 := L.a9; have z9 := L.z9; have v9 := L.v9; have t20 := L.t20; have a20 := L.a20; have z20 := L.z20; have v20 := L.v20; have t21 := L.t21; have a21 := L.a21; have z21 := L.z21; have v21 := L.v21; have t37 := L.t37; have a37 := L.a37; have z37 := L.z37; have v37 := L.v37; have t46 := L.t46; have a46 := L.a46; have z46 := L.z46; have v46 := L.v46; have t51 := L.t51; have a51 := L.a51; have z51 := L.z51; have v51 := L.v51; have t70 := L.t70; have a70 := L.a70; have z70 := L.z70; have v70 := L.v70; have t72 := L.t72; have a72 := L.a72; have z72 := L.z72; have v72 := L.v72; have t75 := L.t75; have a75 := L.a75; have z75 := L.z75; have v75 := L.v75; have t76 := L.t76; have a76 := L.a76; have z76 := L.z76; have v76 := L.v76; have t105 := L.t105; have a105 := L.a105; have z105 := L.z105; have v105 := L.v105; have t107 := L.t107; have a107 := L.a107; have z107 := L.z107; have v107 := L.v107; have t119 := L.t119; have a119 := L.a119; have z119 := L.z119; have t127 := L.t127; have a127 := L.a127; have z127 := L.z127; have v127 := L.v127; have t138 := L.t138; have a138 := L.a138; have z138 := L.z138; have v138 := L.v138; have t139 := L.t139; have a139 := L.a139; have z139 := L.z139; have v139 := L.v139; have t164 := L.t164; have a164 := L.a164; have z164 := L.z164; have v164 := L.v164
  have mixed := L.mixed
  have e118 : ∀ args w, (callFunc (ρ.f 118) args).run P w = .ok (.enter (ρ.f 118) args) w := enters_of L.f118 (by kernel_rfl) rfl
  have e165 : ∀ args w, (callFunc (ρ.f 165) args).run P w = .ok (.enter (ρ.f 165) args) w := enters_of L.f165 (by kernel_rfl) rfl
  have e166 : ∀ args w, (callFunc (ρ.f 166) args).run P w = .ok (.enter (ρ.f 166) args) w := enters_of L.f166 (by kernel_rfl) rfl
  have e167 : ∀ args w, (callFunc (ρ.f 167) args).run P w = .ok (.enter (ρ.f 167) args) w := enters_of L.f167 (by kernel_rfl) rfl
  have e168 : ∀ args w, (callFunc (ρ.f 168) args).run P w = .ok (.enter (ρ.f 168) args) w := enters_of L.f168 (by kernel_rfl) rfl
  have e169 : ∀ args w, (callFunc (ρ.f 169) args).run P w = .ok (.enter (ρ.f 169) args) w := enters_of L.f169 (by kernel_rfl) rfl
  have e197 : ∀ args w, (callFunc (ρ.f 197) args).run P w = .ok (.enter (ρ.f 197) args) w := enters_of L.f197 (by kernel_rfl) rfl
  have e270 : ∀ args w, (callFunc (ρ.f 270) args).run P w = .ok (.enter (ρ.f 270) args) w := enters_of L.f270 (by kernel_rfl) rfl
  obtain ⟨ANS, hANS⟩ : ∃ ANS, mapS F c0 s.data.toList = ANS := ⟨_, rfl⟩
  rw [hANS]
  have hlen : s.data.toList.length = s.size := (size_eq s).symm
  go_enter L.f230, Body.n230_ntmps ρ
  go_wp2
  -- loop 1: nothing has turned yet
  go_loopg [1] s.size (fun gk s1 wx => s1 = .string s ∧ ∃ (pos : Nat) (c : σ), wx.heap[w.heap.size]? = some (.cells #[.pointer none, .slice none 0 0] (ρ.t 72) (0, 0)) ∧ wx.heap[w.heap.size + 1]? = some (.stringIter s pos) ∧ St c wx ∧
    s.data.toList.take pos ++ mapS F c (s.data.toList.drop pos) = ANS ∧ s.size ≤ pos + gk ∧ pos ≤ s.size)
  case atStart =>
    have hb : Below w.heap.size w _ := ((Below.refl w.heap.size w).alloc (Nat.le_refl _) (.cells #[.pointer none, .slice none 0 0] (ρ.t 72))).alloc (by simp) (.stringIter s 0)
    refine ⟨rfl, 0, c0, ?_, ?_, hbel _ _ _ hc0 hb, by simpa using hANS, by omega, by omega⟩
    · exact (Below.heap_alloc _ _ _ (by simp)).trans (heap_alloc_new w (.cells #[.pointer none, .slice none 0 0] (ρ.t 72)))
    · have := World.iter_heap (w.alloc (.cells #[.pointer none, .slice none 0 0] (ρ.t 72))) s 0
      simpa using this
  case round =>
    obtain ⟨rfl, pos, c, hfr, hit, hst, hsp, hfu, hps⟩ := hrel
    have hszr : w.heap.size + 1 < wr.heap.size := (Array.getElem?_eq_some_iff.1 hit).1
    by_cases hlt : pos < s.size
    · obtain ⟨g', rfl⟩ : ∃ g', gk = g' + 1 := ⟨gk - 1, by omega⟩
      have hnx : ∀ ty, (Instr.next (.pointer (some ⟨w.heap.size + 1, 0, none⟩)) true ty).run P wr = _ := fun ty => run_next_any_at wr (w.heap.size + 1) s pos ty hit hlt
      obtain ⟨R, K, hRK, hwd, hwn, hrl, hdc, hstep, hsame⟩ := runeAt F c s pos hlt
      have hoR := hok pos hlt
      rw [hdc] at hoR
      replace hoR : Ok R := hoR
      have hrlen := runeLen_decode (s.data.toList.drop pos)
      have hdg := decodeGo_extract s pos hlt
      rw [hdc] at hrlen
      rw [hRK] at hnx
      try rw [hRK] at hdg
      have hit2 := iterAt_heap wr (w.heap.size + 1) s pos (pos + K) hit
      have hst2 := hbel _ _ _ hst (below_iterAt (Below.refl w.heap.size wr) (k := w.heap.size + 1) (by omega) s (pos + K))
      have hfr2 : (wr.iterAt (w.heap.size + 1) s (pos + K)).heap[w.heap.size]? = _ := (iterAt_other wr (w.heap.size + 1) w.heap.size s (pos + K) (by omega)).trans hfr
      obtain ⟨W, hWd⟩ : ∃ W, wr.iterAt (w.heap.size + 1) s (pos + K) = W := ⟨_, rfl⟩
      rw [hWd] at hit2 hst2 hfr2
      try simp only [hRK, hWd] at hnx
      try simp only [hRK] at hdg
      have cS : Calls P g (#[.int .i32 (R : Int)] ++ lb) W _ := hf W c R hrl hoR (by have := (Array.getElem?_eq_some_iff.1 hit2).1; omega) hst2
      obtain ⟨hM0, hM1⟩ := hnn c R hrl hoR
      obtain ⟨M, hM⟩ : ∃ M, (F c (R : Int)).1 = M := ⟨_, rfl⟩
      obtain ⟨c', hc'⟩ : ∃ c', (F c (R : Int)).2 = c' := ⟨_, rfl⟩
      rw [hM, hc'] at cS hstep hsame
      rw [hM] at hM0 hM1
      have hszW : w.heap.size + 1 < W.heap.size := (Array.getElem?_eq_some_iff.1 hit2).1
      clear hit hfr hWd hRK hdc hst
      by_cases hc : M = (R : Int) ∧ R ≠ 65533
      · obtain ⟨hc1, hc2⟩ := hc
        have hc2' : ¬ ((R : Int) = 65533) := by omega
        subst hc1
        have HS : Aside (s.data.toList.take (pos + K) ++ mapS F c' (s.data.toList.drop (pos + K)) = ANS) := by
          show _ = _
          rw [← hsp, hsame rfl (fun h => hc2 h.1), ← List.append_assoc, ← List.take_add]
        clear hsame hstep hrlen hsp
        go_wp2_with (go_at_fn g; go_must (refine cS.mono ?_; rintro e W' ⟨rfl, hst', hab⟩))
        go_roundg g'
        case measure => omega
        case rel => exact ⟨rfl, pos + K, c', hab.at (Nat.le_refl _) hfr2, hab.at (by omega) hit2, hst', HS.out, by omega, hwn⟩
      · have HS : Aside (s.data.toList.take pos ++ (encodeRune M ++ mapS F c' (s.data.toList.drop (pos + K))) = ANS) := by
          show _ = _
          rw [← hsp, hstep]
        have HSame : Aside (M = (R : Int) → ¬ (R = 65533 ∧ K = 1) → s.data.toList.take (pos + K) ++ mapS F c' (s.data.toList.drop (pos + K)) = ANS) := by
          intro h1 h2
          rw [← hsp, hsame h1 h2, ← List.append_assoc, ← List.take_add]
        have HLen : Aside (R ≠ 65533 → runeLen (R : Int) = (K : Int)) := hrlen
        clear hsame hstep hrlen hsp
        by_cases hMR : M = (R : Int)
        all_goals go_upto_if 30 with (go_at_fn g; go_must (refine cS.mono ?_; rintro e W' ⟨rfl, hst', hab⟩))
        all_goals (
          have hfr3 := hab.at (Nat.le_refl _) hfr2
          have hit3 := hab.at (show w.heap.size ≤ w.heap.size + 1 by omega) hit2
          have hz3 : w.heap.size + 1 < W'.heap.size := by have := hab.size; omega
          go_cut [7, 8, 9, 15] (fun s7 s8 s9 s15 wx => s8 = .int .i32 M ∧ s9 = .int .i64 K ∧ wx.heap[w.heap.size]? = some (.cells #[.pointer none, .slice none 0 0] (ρ.t 72) (0, 0)) ∧ St c' wx)
          case first =>
            by_cases h5 : R = 65533
            · have h5z : (R : Int) = 65533 := by omega
              have cD := Any.utf8_DecodeRuneInString { L with } (s.extract pos s.size) W' (hT (h5 ▸ hoR) _ _ hst')
              rw [hdg] at cD
              by_cases hk : K = 1
              · have hkz : (K : Int) = 1 := by omega
                have hkb : ((K : Int) != 1) = false := by simp [hkz]
                go_wp2_with (go_at_fn (ρ.f 197); go_must (refine cD.mono ?_; rintro e W3 ⟨rfl, b3⟩))
                all_goals (go_meet; exact ⟨by first | rfl | (show Value.int _ _ = _; congr 1; omega), by first | rfl | (show Value.int _ _ = _; congr 1; omega), (b3.block _ (by omega)).trans hfr3, hbel _ _ _ hst' (b3.mono (by omega))⟩)
              · have hkz : ¬ ((K : Int) = 1) := by omega
                have hkb : ((K : Int) != 1) = true := by simp [hkz]
                by_cases hm : M = 65533
                · first
                    | (exfalso; omega)
                    | (have hs3 := HSame.out (by omega) (fun h => hk h.2)
                       have hmb : (M == 65533) = true := by simp [hm]
                       go_wp2_with (go_at_fn (ρ.f 197); go_must (refine cD.mono ?_; rintro e W3 ⟨rfl, b3⟩))
                       all_goals (go_roundg g' <;> first
                         | omega
                         | exact ⟨rfl, pos + K, c', (b3.block _ (by omega)).trans hfr3, (b3.block _ (by omega)).trans hit3, hbel _ _ _ hst' (b3.mono (by omega)), hs3, by omega, hwn⟩))
                · first
                    | (exfalso; omega)
                    | (have hmb : (M == 65533) = false := by simp [hm]
                       go_wp2_with (go_at_fn (ρ.f 197); go_must (refine cD.mono ?_; rintro e W3 ⟨rfl, b3⟩))
                       all_goals (go_meet; exact ⟨by first | rfl | (show Value.int _ _ = _; congr 1; omega), by first | rfl | (show Value.int _ _ = _; congr 1; omega), (b3.block _ (by omega)).trans hfr3, hbel _ _ _ hst' (b3.mono (by omega))⟩))
            · have h5' : ¬ ((R : Int) = 65533) := by omega
              first
                | (exfalso; exact hc ⟨hMR, h5⟩)
                | (have cR := Any.utf8_RuneLen { L with } (R : Int) W'
                   rw [HLen.out h5] at cR
                   go_wp2_with (go_at_fn (ρ.f 118); go_must (refine cR.mono ?_; rintro e W3 ⟨rfl, rfl⟩))
                   all_goals (go_meet; exact ⟨rfl, rfl, hfr3, hst'⟩))
          case rest =>
            obtain ⟨rfl, rfl, hfrC, hstC⟩ := hcut
            clear cS hnx hit2 hfr2 hit3 hfr3 hst' hab HSame HLen hdg hszW hMR hc hst2
            have hBC : w.heap.size ≤ wc.heap.size := Nat.le_of_lt (Array.getElem?_eq_some_iff.1 hfrC).1
            have hxs : (s.extract 0 pos).size = pos := by rw [size_eq, extract_data, List.length_take, List.length_drop, hlen]; omega
            have hxd : (s.extract 0 pos).data.toList = s.data.toList.take pos := by rw [extract_data]; simp
            have cG := Any.Builder_Grow_fresh_cap { L with } X w.heap.size w.heap.size (s.size + 4) wc (Nat.le_refl _) hfrC hBC (by omega)
            have hM0' : ¬ (M < 0) := by omega
            have hM0' : M ≥ 0 := by omega
            go_wp2_with (go_at_fn (ρ.f 165); go_must (go_fit cG; rintro e W4 ⟨rfl, ⟨h4, b4⟩, p4, cap4, hc4, hcap4⟩))
            refine (Any.Builder_WriteString_k { L with } X w.heap.size w.heap.size [] (s.extract 0 pos) W4 (IsBuilderF.of (Or.inr h4)) (by rw [hxs]; simp; omega) (Nat.le_trans hBC b4.size)).mono ?_
            rintro e W5 ⟨rfl, h5w, b5, -⟩
            have hl5 : ([] ++ strCells (s.extract 0 pos)).length = pos := by simp [strCells_length, hxs]
            have hr4 := enc_len M
            clear hc4
            go_wp2
            refine (Any.Builder_WriteRune_k { L with } X w.heap.size w.heap.size _ M (by omega) hM1 W5 (Or.inr h5w) (by rw [hl5]; omega) (Nat.le_trans hBC (Nat.le_trans b4.size b5.size))).mono ?_
            rintro e W6 ⟨rfl, h6w, b6, -⟩
            have hst6 := hbel _ _ _ hstC ((b4.trans b5).trans b6)
            have hB6 : w.heap.size ≤ W6.heap.size := Nat.le_of_lt h6w.lt
            have hcells : [] ++ strCells (s.extract 0 pos) ++ runeCells M = byteCells (s.data.toList.take pos ++ encodeRune M) := by
              rw [List.nil_append, strCells_eq, hxd, byteCells_append, byteCells_encodeRune]
            rw [hcells] at h6w
            obtain ⟨g6, cap6, hc6, hcap6⟩ : ∃ g6 cap6, W6.cell? ⟨w.heap.size, 1, none⟩ = some (.slice (some ⟨g6, 0, none⟩) (byteCells (s.data.toList.take pos ++ encodeRune M)).length cap6) ∧ 1 ≤ cap6 := by
              obtain ⟨_, v6, hv6, hown6, _⟩ := h6w
              have hln : 1 ≤ (byteCells (s.data.toList.take pos ++ encodeRune M)).length := by rw [byteCells_length, List.length_append]; omega
              rcases hown6.2 with ⟨_, h0⟩ | ⟨g6, cap6, _, _, rfl, _, _, _, hnc, _⟩
              · omega
              · exact ⟨g6, cap6, by rw [cell_of_heap hv6]; rfl, by omega⟩
            clear h5w b4 b5 b6 hfrC hstC
            have hcapz : ¬ ((cap6 : Int) = 0) := by omega
            have hcapb : ((cap6 : Int) == 0) = false := by simp; omega
            go_wp2
            refine (Any.Builder_Cap_cell { L with } w.heap.size _ _ cap6 W6 hc6).mono ?_
            rintro e W6' ⟨rfl, rfl⟩
            obtain ⟨s2, hs2⟩ : ∃ s2, s.extract (pos + K) s.size = s2 := ⟨_, rfl⟩
            have hl2 : s2.data.toList = s.data.toList.drop (pos + K) := by
              rw [← hs2, extract_data, List.take_of_length_le (by rw [List.length_drop, hlen]; omega)]
            have hz2 : s2.size = s.size - (pos + K) := by rw [size_eq, hl2, List.length_drop, hlen]
            have hpk : ((pos : Int) + (K : Int)).toNat = pos + K := by omega
            go_wp2
            go_loopg [] s2.size (fun gk wx => ∃ (p2 : Nat) (c2 : σ) (acc : List UInt8), IsBuilderF (ρ.t 72) (ρ.t 5) w.heap.size w.heap.size (byteCells acc) wx ∧ wx.heap[W6'.heap.size]? = some (.stringIter s2 p2) ∧ St c2 wx ∧
              acc ++ mapS F c2 (s2.data.toList.drop p2) = ANS ∧ s2.size ≤ p2 + gk ∧ p2 ≤ s2.size ∧ acc.length ≤ 4 * (pos + K + p2) + 4)
            case atStart =>
              refine ⟨0, c', s.data.toList.take pos ++ encodeRune M, IsBuilderF.alloc (Or.inr h6w) _, World.iter_heap W6' s2 0, hbel _ _ _ hst6 ((Below.refl w.heap.size W6').alloc hB6 _), ?_, by omega, by omega, ?_⟩
              · rw [List.drop_zero, hl2, List.append_assoc]; exact HS.out
              · rw [List.length_append, List.length_take, hlen]; omega
            case round =>
              obtain ⟨p2, c2, acc, hI, hit, hstr, hacc, hfu2, hp2, hal⟩ := hrel
              have hszI : W6'.heap.size < wr.heap.size := (Array.getElem?_eq_some_iff.1 hit).1
              have hBlt : w.heap.size < W6'.heap.size := h6w.lt
              by_cases hlt2 : p2 < s2.size
              · obtain ⟨g2, rfl⟩ : ∃ g2, gk = g2 + 1 := ⟨gk - 1, by omega⟩
                have hnx : ∀ ty, (Instr.next (.pointer (some ⟨W6'.heap.size, 0, none⟩)) true ty).run P wr = _ := fun ty => run_next_any_at wr W6'.heap.size s2 p2 ty hit hlt2
                obtain ⟨R2, K2, hRK2, hwd2, hwn2, hrl2, hdc2, hstep2, -⟩ := runeAt F c2 s2 p2 hlt2
                have hoR2 := hok (pos + K + p2) (by omega)
                rw [← List.drop_drop, ← hl2, hdc2] at hoR2
                replace hoR2 : Ok R2 := hoR2
                clear hdc2
                rw [hRK2] at hnx
                have hI2 := hI.iterAt hit (p2 + K2)
                have hit2 := iterAt_heap wr W6'.heap.size s2 p2 (p2 + K2) hit
                have hst2 := hbel _ _ _ hstr (below_iterAt (Below.refl w.heap.size wr) (k := W6'.heap.size) hB6 s2 (p2 + K2))
                have hsz2 : w.heap.size ≤ (wr.iterAt W6'.heap.size s2 (p2 + K2)).heap.size := by rw [iterAt_size]; omega
                obtain ⟨Wa, hWa⟩ : ∃ Wa, wr.iterAt W6'.heap.size s2 (p2 + K2) = Wa := ⟨_, rfl⟩
                rw [hWa] at hI2 hit2 hst2 hsz2
                try simp only [hRK2, hWa] at hnx
                have cS2 : Calls P g (#[.int .i32 (R2 : Int)] ++ lb) Wa _ := hf Wa c2 R2 hrl2 hoR2 hsz2 hst2
                obtain ⟨hN0, hN1⟩ := hnn c2 R2 hrl2 hoR2
                obtain ⟨M2, hM2⟩ : ∃ M2, (F c2 (R2 : Int)).1 = M2 := ⟨_, rfl⟩
                obtain ⟨c3, hc3⟩ : ∃ c3, (F c2 (R2 : Int)).2 = c3 := ⟨_, rfl⟩
                rw [hM2, hc3] at cS2 hstep2
                rw [hM2] at hN0 hN1
                have HS2 : Aside ((acc ++ encodeRune M2) ++ mapS F c3 (s2.data.toList.drop (p2 + K2)) = ANS) := by
                  show _ = _
                  rw [← hacc, hstep2, List.append_assoc]
                have hq4 := enc_len M2
                have hszA : W6'.heap.size < Wa.heap.size := (Array.getElem?_eq_some_iff.1 hit2).1
                clear hit hI hWa hstep2 hacc HS hRK2 hstr
                have hN0' : ¬ (M2 < 0) := by omega
                have hN0'' : M2 ≥ 0 := hN0
                by_cases h128 : M2 < 128
                · go_wp2_with (go_at_fn g; go_must (refine cS2.mono ?_; rintro e W' ⟨rfl, hst', hab⟩))
                  refine (Any.Builder_WriteByte_k { L with } X w.heap.size w.heap.size _ M2 W' (hab.builder hI2) (by rw [byteCells_length]; omega) (Nat.le_trans hsz2 hab.size)).mono ?_
                  rintro e W7 ⟨rfl, h7, b7, k7⟩
                  go_wp2
                  go_roundg g2
                  case measure => omega
                  case rel =>
                    refine ⟨p2 + K2, c3, acc ++ encodeRune M2, Or.inr ?_, k7.iter (hab.at hB6 hit2) (by omega), hbel _ _ _ hst' b7, HS2.out, by omega, hwn2, by rw [List.length_append]; omega⟩
                    rw [byteCells_append, byteCells_encodeRune]
                    unfold runeCells
                    rw [encodeRuneZ_one hN0 (by omega)]
                    exact h7
                · have h128' : ¬ (M2 < 128) := h128
                  go_wp2_with (go_at_fn g; go_must (refine cS2.mono ?_; rintro e W' ⟨rfl, hst', hab⟩))
                  refine (Any.Builder_WriteRune_k { L with } X w.heap.size w.heap.size _ M2 (by omega) hN1 W' (hab.builder hI2) (by rw [byteCells_length]; omega) (Nat.le_trans hsz2 hab.size)).mono ?_
                  rintro e W7 ⟨rfl, h7, b7, k7⟩
                  go_wp2
                  go_roundg g2
                  case measure => omega
                  case rel =>
                    refine ⟨p2 + K2, c3, acc ++ encodeRune M2, Or.inr ?_, k7.iter (hab.at hB6 hit2) (by omega), hbel _ _ _ hst' b7, HS2.out, by omega, hwn2, by rw [List.length_append]; omega⟩
                    rw [byteCells_append, byteCells_encodeRune]
                    exact h7
              · obtain rfl : p2 = s2.size := by omega
                have hnx : ∀ ty, (Instr.next (.pointer (some ⟨W6'.heap.size, 0, none⟩)) true ty).run P wr = _ := fun ty => run_next_end_at wr W6'.heap.size s2 s2.size ty hit hlt2
                go_wp2
                refine (Any.Builder_String_any_f { L with } X w.heap.size w.heap.size acc wr hI (by omega)).mono ?_
                rintro e W8 ⟨rfl, _, b8⟩
                go_wp2
                go_ret
                refine ⟨?_, c2, hbel _ _ _ hstr b8, by have := b8.size; omega⟩
                rw [size_eq, List.drop_length, mapS_nil, List.append_nil] at hacc
                subst hacc
                rfl)
    · obtain rfl : pos = s.size := by omega
      have hnx : ∀ ty, (Instr.next (.pointer (some ⟨w.heap.size + 1, 0, none⟩)) true ty).run P wr = _ := fun ty => run_next_end_at wr (w.heap.size + 1) s s.size ty hit hlt
      have cC := Any.Builder_Cap_cell { L with } w.heap.size none 0 0 wr (by rw [cell_of_heap hfr]; rfl)
      go_wp2_with (go_at_fn (ρ.f 270); go_must (refine cC.mono ?_; rintro e W' ⟨rfl, rfl⟩))
      go_ret
      refine ⟨?_, c, hst, by omega⟩
      rw [← hsp, ← hlen, List.drop_length, List.take_length, mapS_nil, List.append_nil]
      rfl
end Go.Proofs.YthjpchabeemfmaaDoor
