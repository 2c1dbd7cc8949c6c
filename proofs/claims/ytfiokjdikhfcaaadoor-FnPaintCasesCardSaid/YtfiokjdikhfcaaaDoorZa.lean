import Derived.Test.YtfiokjdikhfcaaaDoorYx
import Derived.Test.YtfiokjdikhfcaaaDoorZb
namespace Go.Proofs.YtfiokjdikhfcaaaDoor
open Go.RowKit Go.Lib
set_option linter.unusedVariables false
set_option linter.unusedSimpArgs false
set_option maxHeartbeats 4000000
set_option maxRecDepth 100000

/-- toTitle of ASCII, rune by rune. -/
def tiR : Int × Bool → List Int → List Int
  | _, [] => []
  | c, r :: t => (tiF c r).1 :: tiR (tiF c r).2 t
theorem tiR_cons (c : Int × Bool) (r : Int) (t : List Int) : tiR c (r :: t) = (tiF c r).1 :: tiR (tiF c r).2 t := rfl
theorem titleOk_cases {r : Int} (h : titleOk r = true) : (97 ≤ r ∧ r ≤ 122) ∨ (65 ≤ r ∧ r ≤ 90) ∨ r = 32 ∨ r = 45 := by
  unfold titleOk letterR at h
  simp only [Bool.or_eq_true, Bool.and_eq_true, decide_eq_true_eq] at h
  omega
theorem sep_letter {r : Int} (h : titleOk r = true) : sepF r = !letterR r := by
  have h1 : ∀ i : Fin 128, titleOk (i.val : Int) = true → sepF (i.val : Int) = !letterR (i.val : Int) := by decide
  have hc := titleOk_cases h
  have := h1 ⟨r.toNat, by omega⟩
  have e : ((r.toNat : Nat) : Int) = r := by omega
  simp only [e] at this
  exact this h
theorem up_up3 {r : Int} (h : titleOk r = true) : toUpperR r = up3 r ∧ toUpperR r ≠ 27 := by
  have h1 : ∀ i : Fin 128, titleOk (i.val : Int) = true → toUpperR (i.val : Int) = up3 (i.val : Int) ∧ toUpperR (i.val : Int) ≠ 27 := by decide
  have hc := titleOk_cases h
  have := h1 ⟨r.toNat, by omega⟩
  have e : ((r.toNat : Nat) : Int) = r := by omega
  simp only [e] at this
  exact this h
theorem ti_reads : ∀ (rs : List Int) (m : Nat) (n : Int) (d : Nat) (on : List Int) (c : Int × Bool) (cells : List (Int × List Int)) (on' : List Int),
    rdA rs m n d on = some (cells, on') → c.2 = decide (m ≠ 0) → cells.all (fun p => titleOk p.1) = true → rdA (tiR c rs) m n d on = some (titled (sepF c.1) cells, on')
  | [], m, n, d, on, c, cells, on', h, hc, ht => by
    unfold rdA at h
    split at h
    · injection h with h
      injection h with h1 h2
      subst h1 h2
      rename_i h0
      show rdA [] m n d on = _
      unfold rdA
      rw [if_pos h0]
      rfl
    · cases h
  | r :: t, m, n, d, on, c, cells, on', h, hc, ht => by
    rw [tiR_cons]
    by_cases h0 : m = 0
    · subst h0
      have hc' : c.2 = false := by rw [hc]; rfl
      by_cases h27 : r = 27
      · subst h27
        have e : tiF c 27 = (27, (c.1, true)) := by unfold tiF; rw [hc']; rfl
        rw [e]
        unfold rdA at h ⊢
        rw [if_pos rfl, if_pos rfl] at h
        rw [if_pos rfl, if_pos rfl]
        exact ti_reads t 1 0 0 on (c.1, true) cells on' h rfl ht
      · unfold rdA at h
        rw [if_pos rfl, if_neg h27] at h
        obtain ⟨p, hp, hq⟩ := Option.map_eq_some_iff.1 h
        injection hq with hq1 hq2
        subst hq1 hq2
        rw [List.all_cons, Bool.and_eq_true] at ht
        have hr := ht.1
        dsimp only at hr
        have ih := ti_reads t 0 0 0 on (r, false) p.1 p.2 hp rfl ht.2
        dsimp only at ih
        rw [sep_letter hr] at ih
        have hu := up_up3 hr
        rw [titled_cons]
        have e : tiF c r = ((if sepF c.1 then up3 r else r), (r, false)) := by
          unfold tiF
          rw [hc', decide_eq_false h27, if_neg (by decide)]
          cases sepF c.1
          · rfl
          · rw [if_pos rfl, if_pos rfl, hu.1]
        rw [e]
        dsimp only
        unfold rdA
        rw [if_pos rfl, if_neg (by cases sepF c.1 with
          | false => exact h27
          | true => rw [if_pos rfl, ← hu.1]; exact hu.2), ih]
        rfl
    · have hc' : c.2 = true := by rw [hc, decide_eq_true h0]
      have e : tiF c r = (r, (c.1, !decide (r = 109))) := by unfold tiF; rw [hc', Bool.true_or, if_pos rfl]
      rw [e]
      dsimp only
      unfold rdA at h ⊢
      rw [if_neg h0] at h ⊢
      by_cases h1 : m = 1
      · rw [if_pos h1] at h ⊢
        by_cases h91 : r = 91
        · subst h91
          rw [if_pos rfl] at h ⊢
          exact ti_reads t 2 0 0 on (c.1, _) cells on' h rfl ht
        · rw [if_neg h91] at h
          cases h
      · rw [if_neg h1] at h ⊢
        split at h
        · rename_i hd
          rw [if_pos hd]
          exact ti_reads t 2 _ _ on (c.1, _) cells on' h (by show (!decide (r = 109)) = _; rw [decide_eq_false (by omega)]; rfl) ht
        · rename_i hd
          rw [if_neg hd]
          split at h
          · rename_i he
            rw [if_pos he]
            split at h
            · rename_i hm
              rw [if_pos hm]
              exact ti_reads t 0 0 0 _ (c.1, _) cells on' h (by show (!decide (r = 109)) = _; rw [decide_eq_true hm]; rfl) ht
            · rename_i hm
              rw [if_neg hm]
              exact ti_reads t 2 0 0 _ (c.1, _) cells on' h (by show (!decide (r = 109)) = _; rw [decide_eq_false hm]; rfl) ht
          · cases h
theorem ti_ascii : ∀ (rs : List Int) (m : Nat) (n : Int) (d : Nat) (on : List Int) (cells : List (Int × List Int)) (on' : List Int),
    rdA rs m n d on = some (cells, on') → cells.all (fun p => titleOk p.1) = true → ∀ r ∈ rs, r < 128
  | [], m, n, d, on, cells, on', h, ht => by simp
  | r :: t, m, n, d, on, cells, on', h, ht => by
    unfold rdA at h
    have key : ∀ (m' : Nat) (n' : Int) (d' : Nat) (on1 : List Int) (cs : List (Int × List Int)) (on2 : List Int), rdA t m' n' d' on1 = some (cs, on2) → cs.all (fun p => titleOk p.1) = true → r < 128 → ∀ x ∈ r :: t, x < 128 := fun m' n' d' on1 cs on2 h1 h2 h3 x hx => by
      rcases List.mem_cons.1 hx with rfl | hx
      · exact h3
      · exact ti_ascii t m' n' d' on1 cs on2 h1 h2 x hx
    split at h
    · split at h
      · exact key _ _ _ _ _ _ h ht (by omega)
      · obtain ⟨p, hp, hq⟩ := Option.map_eq_some_iff.1 h
        injection hq with hq1 hq2
        subst hq1 hq2
        rw [List.all_cons, Bool.and_eq_true] at ht
        have := titleOk_cases ht.1
        dsimp only at this
        exact key _ _ _ _ p.1 p.2 hp ht.2 (by omega)
    · split at h
      · split at h
        · exact key _ _ _ _ _ _ h ht (by omega)
        · cases h
      · split at h
        · exact key _ _ _ _ _ _ h ht (by omega)
        · split at h
          · split at h
            · exact key _ _ _ _ _ _ h ht (by omega)
            · exact key _ _ _ _ _ _ h ht (by omega)
          · cases h
theorem enc_smallZ {r : Nat} (h : r < 128) : encodeRune (r : Int) = [UInt8.ofNat r] := by
  have := enc_byte ⟨r, h⟩
  exact this
theorem runes_small : ∀ (n : Nat) (l : List UInt8), l.length ≤ n → (∀ r ∈ runesL l, r < 128) → asciiL l
  | _, [], _, _ => by intro b hb; simp at hb
  | 0, _ :: _, h, _ => by simp at h
  | n + 1, b :: t, h, hr => by
    rw [runesL_cons (b :: t) (by simp)] at hr
    have h1 : (decodeL (b :: t)).1 < 128 := by have := hr _ (List.mem_cons_self ..); omega
    have he := encode_decode (b :: t) (by simp) (by intro hx; omega)
    rw [enc_smallZ h1] at he
    have hw := decodeL_width (b :: t)
    obtain ⟨k, hk⟩ : ∃ k, (decodeL (b :: t)).2 = k + 1 := ⟨(decodeL (b :: t)).2 - 1, by omega⟩
    rw [hk, List.take_succ_cons] at he
    injection he with he1 he2
    have hb : b.toNat < 128 := by rw [← he1, UInt8.toNat_ofNat']; omega
    rw [decodeL_ascii b t hb] at hr
    dsimp only at hr
    rw [List.drop_succ_cons, List.drop_zero] at hr
    intro x hx
    rcases List.mem_cons.1 hx with rfl | hx
    · exact hb
    · exact runes_small n t (by simpa using h) (fun r h => hr r (List.mem_cons_of_mem _ h)) x hx
theorem runes_of_ascii : ∀ (l : List UInt8), asciiL l → runesL l = l.map fun b => (b.toNat : Int)
  | [], _ => rfl
  | b :: t, h => by
    have hb : b.toNat < 128 := h b (by simp)
    rw [runesL_cons (b :: t) (by simp), decodeL_ascii b t hb]
    dsimp only
    rw [List.drop_succ_cons, List.drop_zero, runes_of_ascii t fun x hx => h x (by simp [hx])]
    rfl
theorem ti_small {c : Int × Bool} {r : Int} (h0 : 0 ≤ r) (h : r < 128) : 0 ≤ (tiF c r).1 ∧ (tiF c r).1 < 128 := by
  unfold tiF toUpperR
  split
  · exact ⟨h0, h⟩
  · split
    · dsimp only
      split <;> omega
    · exact ⟨h0, h⟩
/-- the runes of a title of ASCII -/
theorem ti_runes : ∀ (l : List UInt8) (c : Int × Bool), asciiL l → runesL (mapS tiF c l) = tiR c (l.map fun b => (b.toNat : Int)) ∧ asciiL (mapS tiF c l) ∧ (mapS tiF c l).length = l.length
  | [], c, _ => ⟨rfl, (by intro b hb; rw [mapS_nil] at hb; simp at hb), rfl⟩
  | b :: t, c, h => by
    have hb : b.toNat < 128 := h b (by simp)
    have ih := fun c => ti_runes t c fun x hx => h x (by simp [hx])
    rw [mapS_step tiF c (b :: t) (by simp), decodeL_ascii b t hb]
    dsimp only
    rw [List.drop_succ_cons, List.drop_zero, List.map_cons, tiR_cons]
    have hs := ti_small (c := c) (r := (b.toNat : Int)) (by omega) (by omega)
    obtain ⟨k, hk⟩ : ∃ k : Nat, (tiF c (b.toNat : Int)).1 = (k : Int) := ⟨(tiF c (b.toNat : Int)).1.toNat, by omega⟩
    have hk2 : k < 128 := by omega
    rw [hk, enc_smallZ hk2, List.singleton_append]
    have hkb : (UInt8.ofNat k).toNat = k := by rw [UInt8.toNat_ofNat']; omega
    obtain ⟨i1, i2, i3⟩ := ih (tiF c (b.toNat : Int)).2
    refine ⟨?_, ?_, by rw [List.length_cons, List.length_cons, i3]⟩
    · rw [runesL_cons _ (by simp), decodeL_ascii _ _ (by rw [hkb]; exact hk2)]
      dsimp only
      rw [List.drop_succ_cons, List.drop_zero, i1, hkb]
    · intro x hx
      rcases List.mem_cons.1 hx with rfl | hx
      · rw [hkb]; exact hk2
      · exact i2 x hx
theorem cellsSelf_alike (l : List Int) : alike l l = true := by
  unfold alike allIn
  rw [Bool.and_self, List.all_eq_true]
  exact fun x hx => (among_iff l x).2 hx
/-- the law: the title of what reads as cells of letters, blanks and hyphens reads as these cells, titled -/
theorem title_law (l : List UInt8) (cells : List (Int × List Int)) (on : List Int) (h : txRead (runes ⟨l.toArray⟩) = some (cells, on)) (ht : cells.all (fun p => titleOk p.1) = true) :
    asciiL l ∧ txRead (runes ⟨(mapS tiF (32, false) l).toArray⟩) = some (titled true cells, on) ∧ (mapS tiF (32, false) l).length = l.length := by
  rw [runes_L] at h
  unfold txRead at h
  have ha : asciiL l := runes_small _ l (Nat.le_refl _) (ti_ascii _ _ _ _ _ _ _ h ht)
  obtain ⟨h1, _, h3⟩ := ti_runes l (32, false) ha
  refine ⟨ha, ?_, h3⟩
  rw [runes_L, h1, ← runes_of_ascii l ha]
  exact ti_reads _ 0 0 0 [] (32, false) cells on h rfl ht
end Go.Proofs.YtfiokjdikhfcaaaDoor
