import Derived.Test.YtmljkiohekogbaaGreatDoorMk
namespace Go.Proofs.YtmljkiohekogbaaGreatDoor
open Go.RowKit
set_option linter.unusedVariables false
set_option linter.unusedSimpArgs false
set_option maxHeartbeats 4000000
set_option maxRecDepth 100000
attribute [local go_sem] S_extract S_append run_cut_S run_head_S run_tail_S Nat.add_sub_cancel_left

theorem Atoi_some {l : List UInt8} {n : Int} (h : atoiF l = some n) (w : World) (hl : l.length ≤ 1000000000) :
    Calls Tryz.prog 58 #[.string ⟨l.toArray⟩] w fun e w' => e = .returned (.tuple #[.int .i64 n, .nilIface]) ∧ Below w.heap.size w w' := by
  refine (Atoi_calls l w hl).mono ?_
  rintro e w' ⟨⟨x, v, rfl, h1 | h1⟩, h2⟩
  · obtain ⟨h3, rfl⟩ := h1
    rw [h] at h3
    injection h3 with h3
    rw [h3]
    exact ⟨rfl, h2⟩
  · rw [h] at h1
    cases h1.1
theorem Atoi_none {l : List UInt8} (h : atoiF l = none) (w : World) (hl : l.length ≤ 1000000000) :
    Calls Tryz.prog 58 #[.string ⟨l.toArray⟩] w fun e w' => ∃ (x : Int) (T : Nat) (u : Value), e = .returned (.tuple #[.int .i64 x, .iface T u]) ∧ Below w.heap.size w w' := by
  refine (Atoi_calls l w hl).mono ?_
  rintro e w' ⟨⟨x, v, rfl, h1 | h1⟩, h2⟩
  · rw [h] at h1
    cases h1.1
  · obtain ⟨_, T, u, rfl⟩ := h1
    exact ⟨x, T, u, rfl, h2⟩
/-- block g holds these texts -/
def TxtAt (w : World) (g : Nat) (L : List (List UInt8)) : Prop := ∃ cur, w.heap[g]? = some (.cells cur 9 (0, 0)) ∧ ∀ (j : Nat) x, L[j]? = some x → cur[j]? = some (.string ⟨x.toArray⟩)
theorem TxtAt.cell {w : World} {g : Nat} {L : List (List UInt8)} (h : TxtAt w g L) {j : Nat} {x : List UInt8} (hj : L[j]? = some x) : w.cell? ⟨g, j, none⟩ = some (.string ⟨x.toArray⟩) := by
  obtain ⟨cur, h1, h2⟩ := h
  rw [blk_cell h1 j]
  exact h2 j x hj
theorem TxtAt.below {w w' : World} {g : Nat} {L : List (List UInt8)} (h : TxtAt w g L) (hb : Below w.heap.size w w') : TxtAt w' g L := by
  obtain ⟨cur, h1, h2⟩ := h
  exact ⟨cur, heap_keep h1 hb, h2⟩
theorem TxtAt.frame {w w' : World} {g base : Nat} {cm cm' : Value} {L : List (List UInt8)} (h : TxtAt w g L) (hf : MF w w' base cm cm') (hne : cm ≠ .map (some g)) : TxtAt w' g L := by
  obtain ⟨cur, h1, h2⟩ := h
  exact ⟨cur, hf.keep g _ h1 (fun cs t fz e => by injection e with _ e2 _; subst e2; exact ⟨by decide, by decide⟩) hne, h2⟩
theorem TxtAt.of_own {w : World} {base n : Nat} {v : Value} {L : List (List UInt8)} (h : w.ownsRow base 9 1 v n (strs L)) (hn : 0 < n) (hl : L.length = n) : ∃ g c, v = .slice (some ⟨g, 0, none⟩) n c ∧ n ≤ c ∧ base ≤ g ∧ TxtAt w g L := by
  obtain ⟨hlen, h⟩ := h
  rcases h with ⟨_, h0⟩ | ⟨g, cap, cur, rfl, hg, hrow, hnc, hcm, hsz, htk⟩
  · omega
  · refine ⟨g, cap, rfl, hnc, hg, cur, hrow, fun j x hj => ?_⟩
    have : (strs L)[j]? = some (.string ⟨x.toArray⟩) := by unfold strs; rw [List.getElem?_map, hj]; rfl
    rw [← htk, List.getElem?_take] at this
    split at this
    · rw [← this, Array.getElem?_toList]
    · cases this
/-- what the search for a color of 256 tells -/
def parV : Option (Int × Int) → Value
  | none => .tuple #[.int .i64 0, .int .i64 0, .bool false]
  | some (k, b) => .tuple #[.int .i64 k, .int .i64 b, .bool true]
theorem parse256_calls (p g c i : Nat) (L : List (List UInt8)) (w : World) (hL : L.length ≤ 100000000) (hE : ∀ x ∈ L, x.length ≤ 1000000000) (hc : L.length ≤ c) (hi : i ≤ L.length) (ht : TxtAt w g L) :
    Calls Tryz.prog 55 #[.pointer (some ⟨p, 0, none⟩), .slice (some ⟨g, 0, none⟩) L.length c, .int .i64 i] w fun e w' => e = .returned (parV (par256 atoiF (L.drop i))) ∧ Below w.heap.size w w' := by
  by_cases hlt : i + 2 < L.length
  · obtain ⟨x, hx⟩ : ∃ x, L[i]? = some x := ⟨_, List.getElem?_eq_getElem (by omega)⟩
    obtain ⟨y, hy⟩ : ∃ x, L[i + 1]? = some x := ⟨_, List.getElem?_eq_getElem (by omega)⟩
    obtain ⟨z, hz⟩ : ∃ x, L[i + 2]? = some x := ⟨_, List.getElem?_eq_getElem (by omega)⟩
    have hd : L.drop i = x :: y :: z :: L.drop (i + 3) := by
      obtain ⟨h1, h2⟩ := List.getElem?_eq_some_iff.1 hx
      obtain ⟨h3, h4⟩ := List.getElem?_eq_some_iff.1 hy
      obtain ⟨h5, h6⟩ := List.getElem?_eq_some_iff.1 hz
      rw [List.drop_eq_getElem_cons h1, h2, List.drop_eq_getElem_cons h3, h4, List.drop_eq_getElem_cons h5, h6]
    have HP := hid hd
    have hge : ¬ (L.length : Int) ≤ (i : Int) + 2 := by omega
    have hi1 : (i : Int) < (L.length : Int) := by omega
    have hi2 : (i : Int) + 1 < (L.length : Int) := by omega
    have hi3 : (i : Int) + 2 < (L.length : Int) := by omega
    have ei1 : ((i : Int) + 1).toNat = i + 1 := by omega
    have ei2 : ((i : Int) + 2).toNat = i + 2 := by omega
    have hcx : w.cell? ⟨g, i, none⟩ = some (.string ⟨x.toArray⟩) := ht.cell hx
    have HY := hid (fun (w1 : World) (hb : Below w.heap.size w w1) => (ht.below hb).cell hy)
    have HZ := hid (fun (w1 : World) (hb : Below w.heap.size w w1) => (ht.below hb).cell hz)
    have lx := hid (hE x (List.mem_of_getElem? hx))
    have ly := hid (hE y (List.mem_of_getElem? hy))
    have lz := hid (hE z (List.mem_of_getElem? hz))
    clear hd hx hy hz ht hE hlt
    cases ax : atoiF x with
    | none =>
      have KX := hid (fun w' => Atoi_none ax w' lx.out)
      have AX := hid ax
      clear ax
      have HQ := hid (show parV (par256 atoiF (L.drop i)) = .tuple #[.int .i64 0, .int .i64 0, .bool false] by rw [HP.out]; simp [par256, parV, AX.out])
      clear HP
      go_enter Tryz.func55, Tryz.ntmps55
      go_wp2_with (first | (go_at_call 58; (with_reducible refine (KX.out _).mono ?_); rintro e w1 ⟨x0, T0, u0, rfl, hb1⟩; have B1 := hid hb1; clear KX hb1))
      go_ret3
      exact ⟨(congrArg Ending.returned HQ.out).symm, B1.out⟩
    | some n =>
      have KX := hid (fun w' => Atoi_some ax w' lx.out)
      have AX := hid ax
      clear ax
      by_cases hn : n = 38 ∨ n = 48
      · cases ay : atoiF y with
        | none =>
          have KY := hid (fun w' => Atoi_none ay w' ly.out)
          have AY := hid ay
          clear ay
          have HN := hid hn
          rcases hn with rfl | rfl
          all_goals
            have HQ := hid (show parV (par256 atoiF (L.drop i)) = .tuple #[.int .i64 0, .int .i64 0, .bool false] by rw [HP.out]; simp [par256, parV, AX.out, AY.out])
            clear HP
            go_enter Tryz.func55, Tryz.ntmps55
            go_wp2_with (first | (go_at_call 58; (with_reducible refine (KX.out _).mono ?_); rintro e w1 ⟨rfl, hb1⟩; have B1 := hid hb1; have hcy := HY.out w1 hb1; clear KX hb1) | (go_at_call 58; (with_reducible refine (KY.out _).mono ?_); rintro e w2 ⟨x0, T0, u0, rfl, hb2⟩; have B2 := hid (B1.out.trans (hb2.mono B1.out.size)); clear KY hb2))
            go_ret3
            exact ⟨(congrArg Ending.returned HQ.out).symm, B2.out⟩
        | some m =>
          have KY := hid (fun w' => Atoi_some ay w' ly.out)
          have AY := hid ay
          clear ay
          by_cases hm : m = 5
          · cases az : atoiF z with
            | none =>
              have KZ := hid (fun w' => Atoi_none az w' lz.out)
              have AZ := hid az
              clear az
              subst hm
              have HN := hid hn
              rcases hn with rfl | rfl
              all_goals
                have HQ := hid (show parV (par256 atoiF (L.drop i)) = .tuple #[.int .i64 0, .int .i64 0, .bool false] by rw [HP.out]; simp [par256, parV, AX.out, AY.out, AZ.out])
                clear HP
                go_enter Tryz.func55, Tryz.ntmps55
                go_wp2_with (first | (go_at_call 58; (with_reducible refine (KX.out _).mono ?_); rintro e w1 ⟨rfl, hb1⟩; have B1 := hid hb1; have hcy := HY.out w1 hb1; clear KX hb1) | (go_at_call 58; (with_reducible refine (KY.out _).mono ?_); rintro e w2 ⟨rfl, hb2⟩; have B2 := hid (B1.out.trans (hb2.mono B1.out.size)); have hcz := HZ.out w2 B2.out; clear KY hb2) | (go_at_call 58; (with_reducible refine (KZ.out _).mono ?_); rintro e w3 ⟨x0, T0, u0, rfl, hb3⟩; have B3 := hid (B2.out.trans (hb3.mono B2.out.size)); clear KZ hb3))
                go_ret3
                exact ⟨(congrArg Ending.returned HQ.out).symm, B3.out⟩
            | some k =>
              have KZ := hid (fun w' => Atoi_some az w' lz.out)
              have AZ := hid az
              clear az
              subst hm
              have HN := hid hn
              by_cases hk : 0 ≤ k ∧ k ≤ 255
              · have HK := hid hk
                obtain ⟨hk1, hk2⟩ := hk
                rcases hn with rfl | rfl
                · have HQ := hid (show parV (par256 atoiF (L.drop i)) = .tuple #[.int .i64 k, .int .i64 1000, .bool true] by rw [HP.out]; simp [par256, parV, AX.out, AY.out, AZ.out, HK.out])
                  clear HP
                  go_enter Tryz.func55, Tryz.ntmps55
                  go_wp2_with (first | (go_at_call 58; (with_reducible refine (KX.out _).mono ?_); rintro e w1 ⟨rfl, hb1⟩; have B1 := hid hb1; have hcy := HY.out w1 hb1; clear KX hb1) | (go_at_call 58; (with_reducible refine (KY.out _).mono ?_); rintro e w2 ⟨rfl, hb2⟩; have B2 := hid (B1.out.trans (hb2.mono B1.out.size)); have hcz := HZ.out w2 B2.out; clear KY hb2) | (go_at_call 58; (with_reducible refine (KZ.out _).mono ?_); rintro e w3 ⟨rfl, hb3⟩; have B3 := hid (B2.out.trans (hb3.mono B2.out.size)); clear KZ hb3))
                  go_ret3
                  exact ⟨(congrArg Ending.returned HQ.out).symm, B3.out⟩
                · have HQ := hid (show parV (par256 atoiF (L.drop i)) = .tuple #[.int .i64 k, .int .i64 2000, .bool true] by rw [HP.out]; simp [par256, parV, AX.out, AY.out, AZ.out, HK.out])
                  clear HP
                  go_enter Tryz.func55, Tryz.ntmps55
                  go_wp2_with (first | (go_at_call 58; (with_reducible refine (KX.out _).mono ?_); rintro e w1 ⟨rfl, hb1⟩; have B1 := hid hb1; have hcy := HY.out w1 hb1; clear KX hb1) | (go_at_call 58; (with_reducible refine (KY.out _).mono ?_); rintro e w2 ⟨rfl, hb2⟩; have B2 := hid (B1.out.trans (hb2.mono B1.out.size)); have hcz := HZ.out w2 B2.out; clear KY hb2) | (go_at_call 58; (with_reducible refine (KZ.out _).mono ?_); rintro e w3 ⟨rfl, hb3⟩; have B3 := hid (B2.out.trans (hb3.mono B2.out.size)); clear KZ hb3))
                  go_ret3
                  exact ⟨(congrArg Ending.returned HQ.out).symm, B3.out⟩
              · have HK := hid hk
                by_cases hk1 : k < 0
                all_goals
                  first | have hk2 : ¬ k < 0 ∧ 255 < k := by omega
                        | skip
                  rcases hn with rfl | rfl
                all_goals
                  first | obtain ⟨_, hk3⟩ := hk2
                        | skip
                  clear hk
                  have HQ := hid (show parV (par256 atoiF (L.drop i)) = .tuple #[.int .i64 0, .int .i64 0, .bool false] by rw [HP.out]; simp [par256, parV, AX.out, AY.out, AZ.out, HK.out])
                  clear HP
                  go_enter Tryz.func55, Tryz.ntmps55
                  go_wp2_with (first | (go_at_call 58; (with_reducible refine (KX.out _).mono ?_); rintro e w1 ⟨rfl, hb1⟩; have B1 := hid hb1; have hcy := HY.out w1 hb1; clear KX hb1) | (go_at_call 58; (with_reducible refine (KY.out _).mono ?_); rintro e w2 ⟨rfl, hb2⟩; have B2 := hid (B1.out.trans (hb2.mono B1.out.size)); have hcz := HZ.out w2 B2.out; clear KY hb2) | (go_at_call 58; (with_reducible refine (KZ.out _).mono ?_); rintro e w3 ⟨rfl, hb3⟩; have B3 := hid (B2.out.trans (hb3.mono B2.out.size)); clear KZ hb3))
                  go_ret3
                  exact ⟨(congrArg Ending.returned HQ.out).symm, B3.out⟩
          · have hm2 : (m == 5) = false := by simpa using hm
            have hm3 : (m != 5) = true := by simpa using hm
            have HM := hid hm
            clear hm
            have HN := hid hn
            rcases hn with rfl | rfl
            all_goals
              have HQ := hid (show parV (par256 atoiF (L.drop i)) = .tuple #[.int .i64 0, .int .i64 0, .bool false] by rw [HP.out]; simp [par256, parV, AX.out, AY.out, HM.out])
              clear HP
              go_enter Tryz.func55, Tryz.ntmps55
              go_wp2_with (first | (go_at_call 58; (with_reducible refine (KX.out _).mono ?_); rintro e w1 ⟨rfl, hb1⟩; have B1 := hid hb1; have hcy := HY.out w1 hb1; clear KX hb1) | (go_at_call 58; (with_reducible refine (KY.out _).mono ?_); rintro e w2 ⟨rfl, hb2⟩; have B2 := hid (B1.out.trans (hb2.mono B1.out.size)); have hcz := HZ.out w2 B2.out; clear KY hb2))
              go_ret3
              exact ⟨(congrArg Ending.returned HQ.out).symm, B2.out⟩
      · have hn1 : (n == 38) = false := by simp; omega
        have hn2 : (n == 48) = false := by simp; omega
        have HN := hid hn
        clear hn
        have HQ := hid (show parV (par256 atoiF (L.drop i)) = .tuple #[.int .i64 0, .int .i64 0, .bool false] by rw [HP.out]; simp [par256, parV, AX.out, HN.out])
        clear HP
        go_enter Tryz.func55, Tryz.ntmps55
        go_wp2_with (first | (go_at_call 58; (with_reducible refine (KX.out _).mono ?_); rintro e w1 ⟨rfl, hb1⟩; have B1 := hid hb1; have hcy := HY.out w1 hb1; clear KX hb1))
        go_ret3
        exact ⟨(congrArg Ending.returned HQ.out).symm, B1.out⟩
  · have hge : (L.length : Int) ≤ (i : Int) + 2 := by omega
    have hd : (L.drop i).length ≤ 2 := by rw [List.length_drop]; omega
    have HQ := hid (show parV (par256 atoiF (L.drop i)) = .tuple #[.int .i64 0, .int .i64 0, .bool false] by
      match hm : L.drop i, hd with
      | [], _ => rfl
      | [_], _ => rfl
      | [_, _], _ => rfl)
    clear hd hlt ht hE
    go_enter Tryz.func55, Tryz.ntmps55
    go_wp2_with fail
    go_ret3
    exact ⟨(congrArg Ending.returned HQ.out).symm, Below.refl _ _⟩
end Go.Proofs.YtmljkiohekogbaaGreatDoor
