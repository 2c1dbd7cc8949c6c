import Derived.Test.YtbbmboklpfjliaaPn
namespace Go.Proofs.Ytbbmboklpfjliaa
open Go.RowKit
set_option linter.unusedVariables false
set_option linter.unusedSimpArgs false
set_option maxHeartbeats 4000000
set_option maxRecDepth 100000

/-- a slice of ints, read, whose block is of the type of ints -/
def IntS (w : World) (v : Value) (l : List Int) : Prop := RdI w v l ∧ Typ w v 3
theorem IntS.below {w w1 : World} {v : Value} {l : List Int} (h : IntS w v l) (hb : Below w.heap.size w w1) : IntS w1 v l := ⟨h.1.below hb, h.2.below hb⟩
theorem IntS.grown {w w1 : World} {u v : Value} {l : List Int} {base e sz n : Nat} {xs : List Value} (h : IntS w v l) (ho : w.ownsRow base e sz u n xs) (hne : 3 ≠ e) (hg : w.grownBy w1 u.ownBlock) : IntS w1 v l := ⟨h.1.grown h.2 ho hne hg, h.2.grown ho hne hg⟩
theorem IntS.new (w : World) (l : List Int) (c : Nat) (cells : Array Value) (he : cells.toList = ints l) (hc : l.length ≤ c) (hl : l.length ≤ 4611686018427387904) (h0 : l ≠ []) : IntS (w.alloc (.cells cells 3)) (.slice (some ⟨w.heap.size, 0, none⟩) l.length c) l := by
  have hn := alloc_heap_new w (.cells cells 3)
  refine ⟨⟨hl, _, c, rfl, hc, fun h => (by cases h), fun _ => ⟨w.heap.size, 0, rfl, fun j x hx => ?_⟩⟩, fun k hk => ?_⟩
  · rw [blk_cell hn, ← Array.getElem?_toList, he, Nat.zero_add]
    simp [ints, hx]
  · simp only [Value.ownBlock, Option.some.injEq] at hk
    subst hk
    exact ⟨_, _, hn⟩
theorem Texts.new (w : World) (t : Nat) (cells : Array Value) (xs : List (List UInt8)) (he : cells.toList = xs.map fun x => .string ⟨x.toArray⟩) : Texts (w.alloc (.cells cells t)) w.heap.size 0 xs := by
  have hn := alloc_heap_new w (.cells cells t)
  refine ⟨by simp, fun j x hx => ?_⟩
  rw [blk_cell hn, ← Array.getElem?_toList, he, Nat.zero_add]
  simp [hx]
theorem own_src {w : World} {base e sz n : Nat} {A : Option Addr} {m c : Nat} {xs : List Value} (h : w.ownsRow base e sz (.slice A m c) n xs) : n ≠ 0 → ∃ g o', A = some ⟨g, o', none⟩ ∧ ∀ j u, xs[j]? = some u → w.cell? ⟨g, o' + j, none⟩ = some u := by
  intro hn
  obtain ⟨g, c', hv, _, _, _, hc⟩ := own_cells h (by omega)
  injection hv with h1 _ _
  exact ⟨g, 0, h1, fun j u hj => by rw [Nat.zero_add]; exact hc j u hj⟩
theorem painted_one (rs : List Int) (r : Int) (A : Option Addr) (n c : Nat) : ∀ u ∈ painted rs (.slice A n c), u.oneCell' = true := by
  intro u hu
  simp only [painted, List.mem_flatMap, List.mem_cons, List.not_mem_nil, or_false] at hu
  obtain ⟨_, _, rfl | rfl⟩ := hu <;> rfl
theorem painted_len (rs : List Int) (v : Value) : (painted rs v).length = rs.length * 2 := by
  induction rs with
  | nil => rfl
  | cons r t ih => simp [painted] at ih ⊢; omega
theorem accCells_painted (rs : List Int) (v : Value) (l : List Int) : accCells (rs.map fun r => (r, v, l)) = painted rs v := by
  simp [accCells, painted, List.flatMap_map]
theorem accCells_append (x y : Acc) : accCells (x ++ y) = accCells x ++ accCells y := by simp [accCells]
theorem AccOk.append {w : World} {x y : Acc} (h : AccOk w x) (h' : AccOk w y) : AccOk w (x ++ y) := fun q hq => (List.mem_append.1 hq).elim (h q) (h' q)
theorem AccOk.const {w : World} {v : Value} {l : List Int} (h : IntS w v l) (rs : List Int) : AccOk w (rs.map fun r => (r, v, l)) := fun q hq => by
  obtain ⟨r, _, rfl⟩ := List.mem_map.1 hq
  exact h

theorem FnPaintNest_walk (o i : Int) (a b c : List UInt8) (w : World) :
    Calls Try.prog 3 #[.int .i64 o, .int .i64 i, .string ⟨a.toArray⟩, .string ⟨b.toArray⟩, .string ⟨c.toArray⟩] w fun e w' => e = .returned (.bool true) ∧ Below w.heap.size w w' := by
  by_cases hl : a.length ≤ 2147483647 ∧ b.length ≤ 2147483647 ∧ c.length ≤ 2147483647
  · obtain ⟨hla, hlb, hlc⟩ := hl
    go_enter Try.func3, Try.ntmps3
    go_wp2_with fail
    go_loopw [32] (fun u wr => ∃ k : Nat, k ≤ 3 ∧ u = .int .i64 k ∧ Hid (∀ j x, [a, b, c][j]? = some x → j < k → x ≠ [] ∧ x.length ≤ 200 ∧ Kn x) ∧ Below w.heap.size w wr ∧ w.heap.size < wr.heap.size ∧ Hid (∀ (j : Nat) x, [a, b, c][j]? = some x → wr.cell? ⟨w.heap.size, j, none⟩ = some (.string ⟨x.toArray⟩))) (fun u _ => 3 - (intOf u).toNat)
    case atStart =>
      refine ⟨0, by omega, rfl, hid (fun j x _ h => by omega), (Below.refl _ w).alloc (Nat.le_refl _) _, by simp, hid (fun j x hx => ?_)⟩
      rw [blk_cell (alloc_heap_new w _) j]
      match j, hx with
      | 0, hx => simp at hx; subst hx; rfl
      | 1, hx => simp at hx; subst hx; rfl
      | 2, hx => simp at hx; subst hx; rfl
      | j + 3, hx => simp at hx
    case round =>
      obtain ⟨k, hk, rfl, hok, hbw, hbs, hcl⟩ := hrel
      by_cases hlt : k < 3
      · obtain ⟨x, hx⟩ : ∃ x, [a, b, c][k]? = some x := ⟨_, List.getElem?_eq_getElem (by simpa using hlt)⟩
        have hcell := hcl.out k x hx
        have hxl : x.length ≤ 2147483647 := by
          have := List.mem_of_getElem? hx
          simp at this
          rcases this with rfl | rfl | rfl <;> assumption
        have HX := hid hx
        clear hx
        have hlt' : (k : Int) < 3 := by omega
        by_cases hx0 : x = []
        · subst hx0
          go_wp2_with fail
          go_ret
          exact ⟨rfl, hbw⟩
        · have h1 : x.isEmpty = false := by simpa using hx0
          have h2 : (x == []) = false := by simpa using hx0
          have HX0 := hid hx0
          clear hx0
          by_cases hx2 : x.length ≤ 200
          · cases hs : txSimple ⟨x.toArray⟩ false
            · go_wp2_with (go_at_call 4; (with_reducible refine (TxSimple_calls _ _ _ (by rw [S_size]; omega)).mono ?_); rintro e w' ⟨rfl, hb⟩; rw [hs])
              go_ret
              exact ⟨rfl, hbw.trans (hb.mono hbw.size)⟩
            · have HS := hid hs
              go_wp2_with (go_at_call 4; (with_reducible refine (TxSimple_calls _ _ _ (by rw [S_size]; omega)).mono ?_); rintro e w' ⟨rfl, hb⟩; rw [hs])
              go_roundw
              case rel =>
                refine ⟨k + 1, by omega, by go_num, hid (fun j y hy hj => ?_), hbw.trans (hb.mono hbw.size), Nat.lt_of_lt_of_le hbs hb.size, hid fun j y hy => cell_keep hb (hcl.out j y hy)⟩
                by_cases hjk : j = k
                · subst hjk
                  have : y = x := by have := hy.symm.trans HX.out; simpa using this
                  subst this
                  exact ⟨HX0.out, hx2, by have := Kn.of_simple HS.out; simpa using this⟩
                · exact hok.out j y hy (by omega)
              case measure => simp [intOf]; omega
          · have hx3 : (200 : Int) < (x.length : Int) := by omega
            go_wp2_with fail
            go_ret
            exact ⟨rfl, hbw⟩
      · have hok3 : ∀ j x, [a, b, c][j]? = some x → x ≠ [] ∧ x.length ≤ 200 ∧ Kn x := fun j x hx => hok.out j x hx (by
          have := (List.getElem?_eq_some_iff.1 hx).1
          simp at this; omega)
        obtain ⟨ha0, ha1, ha2⟩ := hok3 0 a rfl
        obtain ⟨hb0, hbl, hbk⟩ := hok3 1 b rfl
        obtain ⟨hc0, hc1, hc2⟩ := hok3 2 c rfl
        clear hok hok3 hcl
        have hlt' : ¬ (k : Int) < 3 := by omega
        cases ho : txAttr o <;> cases hi : txAttr i
        all_goals try (
          go_wp2_with (first
            | (go_at_call_of 5 o; (with_reducible refine (TxAttribute_calls o _).mono ?_); rintro e w' ⟨rfl, rfl⟩; rw [ho])
            | (go_at_call 5; (with_reducible refine (TxAttribute_calls i _).mono ?_); rintro e w' ⟨rfl, rfl⟩; rw [hi]))
          go_ret
          exact ⟨rfl, hbw⟩)
        have hob : 1 ≤ o ∧ o < 1000 := by simp [txAttr] at ho; omega
        have hib : 1 ≤ i ∧ i < 1000 := by simp [txAttr] at hi; omega
        obtain ⟨O, rfl⟩ : ∃ n : Nat, o = n := ⟨o.toNat, by omega⟩
        obtain ⟨I, rfl⟩ : ∃ n : Nat, i = n := ⟨i.toNat, by omega⟩
        have o0 : 1 ≤ O := by omega
        have o1 : O < 1000 := by omega
        have i0 : 1 ≤ I := by omega
        have i1 : I < 1000 := by omega
        have HN := hid (nest_reads ha2 hbk hc2 ha0 hb0 hc0 o0 o1 i0 i1)
        have L1 : (esc b (seq1 I)).length ≤ 300 := by
          rw [esc_plain hbk.no27 hb0 i0 i1]
          have := seq1_len I i1
          rw [seq1_eq] at this
          simp at this ⊢; omega
        have L2 : (esc (a ++ (esc b (seq1 I) ++ c)) (seq1 O)).length ≤ 1000000 := by
          rw [esc_plain hbk.no27 hb0 i0 i1, esc_nest ha2.no27 hbk.no27 hc2.no27 ha0 hb0 hc0 o0 o1 i0 i1]
          have h1 := seq1_len I i1
          have h2 := seq1_len O o1
          rw [seq1_eq] at h1 h2
          simp at h1 h2 ⊢; omega
        have KP := hid (fun (x : List UInt8) (h : x.length ≤ 200) A n c w => runes_L x ▸ PtPainted_calls ⟨x.toArray⟩ A n c w (by rw [S_size]; omega))
        have K1 := hid (fun bk w (h : Texts w bk 0 [b]) => show Calls Try.prog 8 #[.int .i64 I, .slice (some ⟨bk, 0, none⟩) 1 1] w fun e w' => e = .returned (.string ⟨(esc b (seq1 I)).toArray⟩) ∧ Below w.heap.size w w' from by
          have := TextColorPrint_calls I bk 0 1 [b] w i1 h (by simp) (by simp) (by simp; omega)
          simpa using this)
        have K2 := hid (fun bk w (h : Texts w bk 0 [a, esc b (seq1 I), c]) => show Calls Try.prog 8 #[.int .i64 O, .slice (some ⟨bk, 0, none⟩) 3 3] w fun e w' => e = .returned (.string ⟨(esc (a ++ (esc b (seq1 I) ++ c)) (seq1 O)).toArray⟩) ∧ Below w.heap.size w w' from by
          have := TextColorPrint_calls O bk 0 3 [a, esc b (seq1 I), c] w o1 h (by simp) (by simp) (by simp; omega)
          simpa using this)
        have KI := hid (fun u w h => ptIs_calls ⟨(esc (a ++ (esc b (seq1 I) ++ c)) (seq1 O)).toArray⟩ u (.slice none 0 0) ((runesL a).map (·, [(O : Int)]) ++ ((runesL b).map (·, [(O : Int), (I : Int)]) ++ (runesL c).map (·, [(O : Int)]))) [] w (by rw [S_size]; exact L2) h (RdI.nil w))
        rw [HN.out] at KI
        have La : (runesL a).length ≤ 200 := by have := runes_len ⟨a.toArray⟩; rw [runes_L, S_size] at this; omega
        have Lb : (runesL b).length ≤ 200 := by have := runes_len ⟨b.toArray⟩; rw [runes_L, S_size] at this; omega
        have Lc : (runesL c).length ≤ 200 := by have := runes_len ⟨c.toArray⟩; rw [runes_L, S_size] at this; omega
        clear HN
        go_wp2_with (first
          | (go_at_call_of 5 (O : Int); (with_reducible refine (TxAttribute_calls (O : Int) _).mono ?_); rintro e w' ⟨rfl, rfl⟩; rw [ho])
          | (go_at_call 5; (with_reducible refine (TxAttribute_calls (I : Int) _).mono ?_); rintro e w' ⟨rfl, rfl⟩; rw [hi]))
        have hi1 := IntS.new wr [(O : Int)] 1 #[.int .i64 O] rfl (by simp) (by simp) (by simp)
        have hbA : Below w.heap.size w (wr.alloc (.cells #[.int .i64 O] 3)) := hbw.alloc hbw.size _
        have hsA := hbA.size
        go_at_call 6
        (with_reducible refine (KP.out a ha1 _ _ _ _).mono ?_)
        rintro e w1 ⟨v1, rfl, ho1, hb1⟩
        replace hi1 := hi1.below hb1
        have hb1' := hb1
        replace hb1 := hbA.trans (hb1.mono hsA)
        obtain ⟨A1, c1, rfl, _⟩ := own_slice ho1
        have hi2 := IntS.new w1 [(O : Int), (I : Int)] 2 #[.int .i64 O, .int .i64 I] rfl (by simp) (by simp) (by simp)
        have hbB := hb1.alloc hb1.size (.cells #[.int .i64 O, .int .i64 I] 3)
        have hB0 := (Below.refl w1.heap.size w1).alloc (Nat.le_refl _) (.cells #[.int .i64 O, .int .i64 I] 3)
        have hs1 := hb1.size
        have hs1' := hb1'.size
        go_wp2_with fail
        go_at_call 6
        (with_reducible refine (KP.out b hbl _ _ _ _).mono ?_)
        rintro e w2 ⟨v2, rfl, ho2, hb2⟩
        obtain ⟨A2, c2, rfl, hA2⟩ := own_slice ho2
        have hB12 : Below w1.heap.size w1 w2 := hB0.trans (hb2.mono hB0.size)
        replace hi2 := hi2.below hb2
        replace hb2 := hb1.trans (hB12.mono hb1.size)
        replace hi1 := hi1.below hB12
        replace ho1 := own_below ho1 hB12
        go_wp2_with (at_builtin; refine append_read _ rfl _ _ 25 33 (.agg #[.int .i32 0, .slice none 0 0]) 2 32 rfl Try.underlying25 infoCell rfl (by decide) _ _ _ _ rfl ho1 A2 (runesL b).length c2 _ rfl hA2.2 (painted_len _ _) (own_src ho2) (painted_one _ 0 _ _ _) (by omega) (by decide) (Nat.le_trans hs1' hB12.size) ?_; intro v3 w3 ho3 hg3)
        have hb3 := below_grown hb2 hb2.size hsA ho1 hg3
        replace hi1 := hi1.grown ho1 (by decide) hg3
        replace hi2 := hi2.grown ho1 (by decide) hg3
        have hs12 := hB12.size
        clear hb2 hB12 ho1 ho2 hB0 hbB
        have hi3 := IntS.new w3 [(O : Int)] 1 #[.int .i64 O] rfl (by simp) (by simp) (by simp)
        have hB0 := (Below.refl w3.heap.size w3).alloc (Nat.le_refl _) (.cells #[.int .i64 O] 3)
        go_at_call 6
        (with_reducible refine (KP.out c hc1 _ _ _ _).mono ?_)
        rintro e w4 ⟨v4, rfl, ho4, hb4⟩
        obtain ⟨A4, c4, rfl, hA4⟩ := own_slice ho4
        replace hi3 := hi3.below hb4
        have hB34 : Below w3.heap.size w3 w4 := hB0.trans (hb4.mono hB0.size)
        have hs4 : w3.heap.size ≤ w4.heap.size := hB34.size
        have hb4' := hb3.trans (hB34.mono hb3.size)
        replace hi1 := hi1.below hB34
        replace hi2 := hi2.below hB34
        obtain ⟨A3, c3, rfl, hA3⟩ := own_slice ho3
        replace ho3 := own_below ho3 hB34
        have hs34 : (wr.alloc (.cells #[.int .i64 O] 3)).heap.size ≤ w4.heap.size := by
          have := hg3.size
          exact Nat.le_trans (Nat.le_trans (Nat.le_trans hs1' hs12) this) hs4
        go_wp2_with (at_builtin; refine append_read _ rfl _ _ 25 33 (.agg #[.int .i32 0, .slice none 0 0]) 2 32 rfl Try.underlying25 infoCell rfl (by decide) _ _ _ _ rfl ho3 A4 (runesL c).length c4 _ rfl hA4.2 (painted_len _ _) (own_src ho4) (painted_one _ 0 _ _ _) (by omega) (by decide) hs34 ?_; intro v5 w5 ho5 hg5)
        have hb5 := below_grown hb4' hb4'.size hsA ho3 hg5
        replace hi1 := hi1.grown ho3 (by decide) hg5
        replace hi2 := hi2.grown ho3 (by decide) hg5
        replace hi3 := hi3.grown ho3 (by decide) hg5
        have HR : RdCells w5 v5 ((runesL a).map (·, [(O : Int)]) ++ ((runesL b).map (·, [(O : Int), (I : Int)]) ++ (runesL c).map (·, [(O : Int)]))) := by
          have h1 := AccOk.const hi1 (runesL a)
          have h2 := AccOk.const hi2 (runesL b)
          have h3 := AccOk.const hi3 (runesL c)
          have h4 := h1.append (h2.append h3)
          have h5 := RdCells.of_own (by rw [accCells_append, accCells_append, accCells_painted, accCells_painted, accCells_painted, ← List.append_assoc]; exact ho5) (by simp; omega) h4
          simpa [Function.comp_def] using h5
        obtain ⟨A5, c5, hv5⟩ := HR.form
        generalize List.length _ = n5 at hv5
        subst hv5
        have HR := hid HR
        clear ho3 ho4 ho5 hg5 hg3 hi1 hi2 hi3 hb3 hb4 hb4'
        go_at_call 8
        (with_reducible refine (K1.out _ _ (Texts.new w5 9 #[.string ⟨b.toArray⟩] [b] rfl)).mono ?_)
        rintro e w6 ⟨rfl, hb6⟩
        have h56 := ((Below.refl w5.heap.size w5).alloc (Nat.le_refl _) _).trans (hb6.mono (by simp))
        go_wp2_with fail
        go_at_call 8
        (with_reducible refine (K2.out _ _ (Texts.new w6 9 #[.string ⟨a.toArray⟩, .string ⟨(esc b (seq1 I)).toArray⟩, .string ⟨c.toArray⟩] [a, esc b (seq1 I), c] rfl)).mono ?_)
        rintro e w7 ⟨rfl, hb7⟩
        have h67 := ((Below.refl w6.heap.size w6).alloc (Nat.le_refl _) _).trans (hb7.mono (by simp))
        have h57 := h56.trans (h67.mono h56.size)
        go_wp2_with fail
        go_at_call 7
        (with_reducible refine (KI.out _ _ (HR.out.below h57)).mono ?_)
        rintro e w8 ⟨rfl, hb8⟩
        go_wp2_with fail
        go_ret
        exact ⟨rfl, hb5.trans ((h57.trans (hb8.mono h57.size)).mono hb5.size)⟩
  · rcases (show 2147483647 < a.length ∨ (a.length ≤ 2147483647 ∧ 2147483647 < b.length) ∨ (a.length ≤ 2147483647 ∧ b.length ≤ 2147483647 ∧ 2147483647 < c.length) by omega) with h | ⟨h1, h2⟩ | ⟨h1, h2, h3⟩
    all_goals
      go_enter Try.func3, Try.ntmps3
      go_wp2_with fail
      go_ret
      exact ⟨rfl, Below.refl _ w⟩
end Go.Proofs.Ytbbmboklpfjliaa
