import Derived.Test.YtmljkiohekogbaaGreatDoorMr
import Derived.Sort.OwnSortedInts
namespace Go.Proofs.YtmljkiohekogbaaGreatDoor
open Go.RowKit Go.Maps
set_option linter.unusedVariables false
set_option linter.unusedSimpArgs false
set_option maxHeartbeats 4000000
set_option maxRecDepth 100000
attribute [local go_sem] S_extract S_append run_cut_S run_head_S run_tail_S Nat.add_sub_cancel_left

/-- one character is read -/
theorem Consume_calls (base p : Nat) (cm ev : Value) (st : PSt) (r : Int) (w : World) (hbw : base ≤ w.heap.size) (ht : Tabs base w) (H : PA w base p cm ev st) (hr0 : -2147483648 ≤ r) (hr1 : r ≤ 2147483647) (hl : st.codes.length ≤ 8000000000000000) (hes : st.esc.length ≤ 2048) : ConsSaid base p cm st r w := by
  cases hi : st.inn with
  | true => exact consume_in base p cm st r w ev hbw ht H hr0 hr1 hl hes (.inr hi)
  | false =>
    by_cases h : r = 27
    · exact consume_in base p cm st r w ev hbw ht H hr0 hr1 hl hes (.inl ⟨hi, h⟩)
    · exact consume_out base p cm st r w ev H hi h
theorem infoIntM : (Tryz.prog.info? 3).map (fun i => (i.zero, i.size, i.bytes)) = some (some (.int .i64 0), 1, 8) := by kernel_rfl
def nums (c : List Int) : List Value := c.map (Value.int .i64)
theorem own_made (w : World) (t : Nat) : (w.alloc (.cells #[] t)).ownsRow w.heap.size t 1 (.slice (some ⟨w.heap.size, 0, none⟩) 0 0) 0 [] :=
  ⟨rfl, .inr ⟨w.heap.size, 0, #[], rfl, Nat.le_refl _, alloc_heap_new w _, Nat.le_refl _, Nat.zero_le _, rfl, rfl⟩⟩
theorem below_none {w w' : World} (h : w.grownBy w' none) : Below w.heap.size w w' := (Below.refl _ _).grown h (Nat.le_refl _) (fun k hk => by cases hk)
theorem has_setD (x : Int) (c : List Int) : Go.Maps.has (setD c) (.int .i64 x) = decide (x ∈ c) := by
  unfold setD setE
  rw [has_eq, Bool.eq_iff_iff, List.any_eq_true]
  simp only [List.mem_map, decide_eq_true_eq]
  constructor
  · rintro ⟨p, ⟨y, hy, rfl⟩, h⟩
    simp [Lit.sameKey] at h
    exact h ▸ hy
  · intro h
    exact ⟨_, ⟨x, h, rfl⟩, by simp [Lit.sameKey]⟩
theorem sorted_codes {L c : List Int} (hc : Rise c) (hn : L.Nodup) (h : ∀ x, x ∈ L ↔ x ∈ c) : L.mergeSort (fun x y => decide (x ≤ y)) = c := by
  have hp := List.mergeSort_perm L (fun x y => decide (x ≤ y))
  have hs : (L.mergeSort fun x y => decide (x ≤ y)).Pairwise fun a b => decide (a ≤ b) = true := List.pairwise_mergeSort (fun a b c h1 h2 => by simp at *; omega) (fun a b => by simp; omega) L
  have hnd : (L.mergeSort fun x y => decide (x ≤ y)).Nodup := hp.nodup_iff.2 hn
  refine Rise.ext ?_ hc fun x => (hp.mem_iff).trans (h x)
  unfold Rise
  refine (hs.and hnd).imp fun {a b} hab => ?_
  have := of_decide_eq_true hab.1
  have h2 : a ≠ b := hab.2
  omega
theorem perm_len {L c : List Int} (hc : Rise c) (hn : L.Nodup) (h : ∀ x, x ∈ L ↔ x ∈ c) : L.length = c.length := by
  rw [← sorted_codes hc hn h, List.length_mergeSort]
section
variable {ops : Array Oper} {rest : List Oper} {o : Oper} {a : Act} {Q : Exit → Act → World → Prop}
theorem wpList_nextD (w : World) (hg : o.guard = none) (it : Operand) (hop : o.op = Op.next it false) (b r n : Nat) (c : List Int) (left : Lit → Bool) (cnt : Nat) (hit : a.eval it = .pointer (some ⟨r, 0, none⟩))
    (h : w.ranges Tryz.prog 3 (plainElem (H := Unit) Tryz.prog 4) b r n (setD c) left cnt)
    (hDone : (∀ kl, left kl = false) → wpList Tryz.prog ops Q rest (a.put o.dst (.tuple #[.bool false])) w)
    (hMore : ∀ (x : Int) (w' : World) (cnt' : Nat), left (.int .i64 x) = true → x ∈ c → w'.ranges Tryz.prog 3 (plainElem (H := Unit) Tryz.prog 4) b r n (setD c) (fun z => left z && !z.sameKey (.int .i64 x)) cnt' → cnt' < cnt →
      w.grownBy w' (some r) → (Instr.entry (.pointer (some ⟨r, 0, none⟩))).run Tryz.prog w' = .ok (.tuple #[.int .i64 x, .bool true]) w' → wpList Tryz.prog ops Q rest (a.put o.dst (.tuple #[.bool true, .int .i64 x, .bool true])) w') :
    wpList Tryz.prog ops Q (o :: rest) a w :=
  wpList_nextC w hg it hop b r n c left cnt hit h (fun _ h1 => hDone h1) (fun x w' cnt' _ h1 h2 h3 h4 h5 _ h6 => hMore x w' cnt' h1 h2 h3 h4 h5 h6)
end
theorem nodup_len : ∀ (L c : List Int), L.Nodup → (∀ x ∈ L, x ∈ c) → L.length ≤ c.length
  | [], _, _, _ => Nat.zero_le _
  | x :: t, c, hn, h => by
    have hx := h x (by simp)
    have h1 : ∀ y ∈ t, y ∈ c.erase x := fun y hy => (List.mem_erase_of_ne (fun e => by subst e; exact (List.nodup_cons.1 hn).1 hy)).2 (h y (List.mem_cons_of_mem _ hy))
    have h2 := nodup_len t (c.erase x) (List.nodup_cons.1 hn).2 h1
    have h3 := List.length_erase_of_mem hx
    have h4 := List.length_pos_of_mem hx
    simp only [List.length_cons]
    omega
theorem own_ranges {w : World} {base b R n m cnt : Nat} {v : Value} {xs : List Value} {D : DataW Unit} {left : Lit → Bool} (h : w.ownsRow base 3 1 v n xs) (hrg : w.ranges Tryz.prog 3 (plainElem (H := Unit) Tryz.prog 4) b R m D left cnt) :
    some b ≠ v.ownBlock ∧ some R ≠ v.ownBlock := by
  obtain ⟨es, clock, since, seen, c0, hb, _, _, _, hr, _⟩ := hrg
  constructor
  · intro e
    obtain ⟨C, fz, hC⟩ := own_typed h b e.symm
    rw [hb] at hC
    injection hC with hC
    cases hC
  · intro e
    obtain ⟨C, fz, hC⟩ := own_typed h R e.symm
    rw [hr] at hC
    injection hC with hC
    cases hC
theorem own_next {w w2 : World} {base b R n m cnt : Nat} {v : Value} {xs : List Value} {D : DataW Unit} {left : Lit → Bool} (h : w.ownsRow base 3 1 v n xs) (hrg : w.ranges Tryz.prog 3 (plainElem (H := Unit) Tryz.prog 4) b R m D left cnt) (hgr : w.grownBy w2 (some R)) : w2.ownsRow base 3 1 v n xs :=
  own_step h fun k hk => hgr.block k (own_lt h k hk).1 fun e => (own_ranges h hrg).2 (e.symm.trans hk.symm)
theorem below_next' {B : Nat} {w w1 w2 : World} {R : Nat} (h : Below B w w1) (hgr : w1.grownBy w2 (some R)) (hB : B ≤ w1.heap.size) (hR : B < R) : Below B w w2 := h.grown hgr hB fun k hk => by cases hk; omega
theorem sort_own {w : World} {base : Nat} {v : Value} {L : List Int} (h : w.ownsRow base 3 1 v L.length (nums L)) (hl : L.length ≤ 4000000000000) :
    Calls Tryz.prog 32 #[v] w fun e w' => e = .returned (.tuple #[]) ∧ w'.ownsRow base 3 1 v L.length (nums (L.mergeSort fun x y => decide (x ≤ y))) ∧ w.grownBy w' v.ownBlock := by
  have hlen := List.length_mergeSort (le := fun (x y : Int) => decide (x ≤ y)) L
  rcases h.2 with ⟨rfl, h0⟩ | ⟨g, cap, cur, rfl, hg, hrow, hnc, hcm, hsz, htk⟩
  · refine (Tryz.sort_Ints_none none 0 w).mono ?_
    rintro e w' ⟨rfl, rfl⟩
    have hL : L = [] := List.eq_nil_of_length_eq_zero h0
    subst hL
    exact ⟨rfl, ⟨by simp [nums], .inl ⟨rfl, rfl⟩⟩, ⟨rfl, rfl, rfl, Nat.le_refl _, fun _ _ _ => rfl⟩⟩
  · rw [Nat.mul_one] at htk
    refine (Tryz.sort_Ints g 0 cap L w (Go.holds_of_blockI hrow htk) (heap_lt hrow) (by omega)).mono ?_
    rintro e w' ⟨rfl, n, os, rfl⟩
    exact ⟨rfl, Go.ownsRow_sortedI hlen hg hrow hnc hcm (by omega), Go.grownBy_sortedI _⟩
@[local go_sem] theorem mk0I (w : World) : (Instr.makeSlice 33 (.int .i64 0) (.int .i64 0)).run Tryz.prog w = .ok (.slice (some ⟨w.heap.size, 0, none⟩) 0 0) (w.alloc (.cells #[] 3)) := by kernel_rfl
theorem Codes_calls (base p b : Nat) (ev : Value) (st : PSt) (w : World) (H : PA w base p (.map (some b)) ev st) (hc : CM w b st.codes) (hr : Rise st.codes) (hl : st.codes.length ≤ 4000000000000) :
    Calls Tryz.prog 21 #[.pointer (some ⟨p, 0, none⟩)] w fun e w' => ∃ v, e = .returned v ∧ w'.ownsRow w.heap.size 3 1 v st.codes.length (nums st.codes) ∧ Below w.heap.size w w' := by
  have z0 := H.facts.1
  have HC := hid hc
  have HR := hid hr
  have HL := hid hl
  have HM := hid (hc.alloc (.cells #[] 3))
  have HB0 := hid ((Below.refl w.heap.size w).alloc (Nat.le_refl _) (.cells #[] 3))
  have HO0 := hid (own_made w 3)
  have z0' := cell_keep HB0.out z0
  clear H hc hr
  go_enter Tryz.func21, Tryz.ntmps21
  go_wp2_with (refine wpList_rangeC _ rfl _ rfl b _ rfl HM.out ?_; intro w1 hrg hgr hsz)
  have HB1 := hid ((below_none hgr).mono HB0.out.size |> HB0.out.trans)
  have HO1 := hid (own_below HO0.out (below_none hgr))
  generalize hR : (w.alloc (.cells #[] 3)).heap.size = R at *
  have hRw : w.heap.size < R := by rw [← hR]; show w.heap.size < (w.heap.push _).size; rw [Array.size_push]; exact Nat.lt_succ_self _
  clear hR hgr hsz
  go_wp2_with fail
  go_simp
  go_loopw [3] (fun u wr => ∃ (L : List Int) (left : Lit → Bool) (cnt : Nat), wr.ownsRow w.heap.size 3 1 u L.length (nums L) ∧ wr.ranges Tryz.prog 3 (plainElem (H := Unit) Tryz.prog 4) b R st.codes.length (setD st.codes) left cnt ∧ Hid (∀ x, left (.int .i64 x) = decide (x ∈ st.codes ∧ x ∉ L)) ∧ L.Nodup ∧ Hid (∀ x ∈ L, x ∈ st.codes) ∧ Below w.heap.size w wr) (fun u wr => wr.rangeLeft b R)
  case atStart => exact ⟨[], _, _, HO1.out, hrg, hid fun x => by rw [has_setD]; simp, List.nodup_nil, hid (by simp), HB1.out⟩
  case round =>
    obtain ⟨L, left, cnt, hown, hrg, hleft, hnd, hsub, hbr⟩ := hrel
    have HOK := hid (show (∀ kl, left kl = false) → ∀ x, x ∈ L ↔ x ∈ st.codes from fun h x => ⟨hsub.out x, fun hx => by
      have := hleft.out x
      rw [h] at this
      have := of_decide_eq_false this.symm
      exact Classical.byContradiction fun hn => this ⟨hx, hn⟩⟩)
    have HLL := hid (show L.length ≤ st.codes.length from nodup_len L _ hnd hsub.out)
    go_wp2_with (first
      | (refine wpList_nextD _ rfl _ rfl b R _ _ left cnt rfl hrg (fun h1 => ?_) (fun x w2 cnt2 hlx hxc hrg2 hlt hgr2 hen => ?_))
      | (at_builtin; have hown2 := own_next hown hrg hgr2; have hb2 := below_next' hbr hgr2 hbr.size hRw; refine append_box rfl _ _ 33 3 (.int .i64 0) 1 8 rfl Tryz.underlying33 infoIntM rfl (by decide) w.heap.size u3 L.length (nums L) rfl hown2 1 3 [.int .i64 x] rfl rfl (by simp; rfl) (by have := HLL.out; omega) (by decide) hb2.size ?_; intro v1 w3 hown1 hg1)
      | (go_at_call 32; (with_reducible refine (sort_own hown (by have := HLL.out; have := HL.out; omega)).mono ?_); rintro e w3 ⟨rfl, hown3, hgr3⟩))
    · go_ret
      refine ⟨u3, rfl, ?_, hbr.grown hgr3 hbr.size (fun k hk => (own_lt hown k hk).2)⟩
      rw [sorted_codes HR.out hnd (HOK.out h1), perm_len HR.out hnd (HOK.out h1)] at hown3
      exact hown3
    · go_roundw
      case rel =>
        obtain ⟨n1, n2⟩ := own_ranges hown2 hrg2
        refine ⟨L ++ [x], _, cnt2, by simpa [nums] using hown1, hrg2.kept hg1 n1 n2, hid fun y => ?_, ?_, hid fun y hy => ?_, hb2.grown hg1 hb2.size (fun k hk => (own_lt hown2 k hk).2)⟩
        · simp only [hleft.out, Lit.sameKey, List.mem_append, List.mem_singleton]
          by_cases hyL : y ∈ L <;> by_cases hyc : y ∈ st.codes <;> by_cases hxy : y = x <;> simp [hyL, hyc, hxy]
        · have hxL : x ∉ L := by
            have := hleft.out x
            rw [hlx] at this
            exact (of_decide_eq_true this.symm).2
          rw [List.nodup_append]
          exact ⟨hnd, by simp, fun a ha b hb e => by simp at hb; subst hb; subst e; exact hxL ha⟩
        · rw [List.mem_append] at hy
          rcases hy with h | h
          · exact hsub.out y h
          · simp at h; subst h; exact hxc
      case measure =>
        obtain ⟨n1, n2⟩ := own_ranges hown2 hrg2
        rw [(hrg2.kept hg1 n1 n2).left_eq, hrg.left_eq]
        exact hlt
end Go.Proofs.YtmljkiohekogbaaGreatDoor
