import Derived.Test.YteenhipldfdkaaaDoorUn
namespace Go.Proofs.YteenhipldfdkaaaDoor
open Go.RowKit
set_option linter.unusedVariables false
set_option linter.unusedSimpArgs false
set_option maxHeartbeats 4000000
set_option maxRecDepth 100000
attribute [local go_sem] S_extract S_append run_cut_S run_head_S run_tail_S Nat.add_sub_cancel_left

section
variable {P : Program}
theorem append_boxN {w0 : World} {ops : Array Oper} {rest : List Oper} {o : Oper} {a : Act} {Q : Exit → Act → World → Prop} (hgd : o.guard = none) (sl x : Operand) (t e : TypeId) (z : Value) (size bytes : Nat)
    (ho : o.op = .call { callee := .builtin .append, args := #[sl, x], argTypes := #[t, t] })
    (ht : P.underlying t = some (.slice e)) (hi : (P.info? e).map (fun i => (i.zero, i.size, i.bytes)) = some (some z, size, bytes)) (hzs : z.cells.size = size) (hsz : 0 < size)
    (base : Nat) (v : Value) (n : Nat) (xs : List Value) (hs : a.eval sl = v) (hown : w0.ownsRow base e size v n xs)
    (c tb : Nat) (news : List Value) (N : Nat) (hN : w0.heap.size = N) (hx : a.eval x = .slice (some ⟨N, 0, none⟩) 1 c) (hl : news.length = size) (h1 : ∀ u ∈ news, u.oneCell' = true)
    (hb : (n + 1) * bytes ≤ 140737488355328) (hb0 : 0 < bytes) (hbase : base ≤ w0.heap.size)
    (h : ∀ v' w', w'.ownsRow base e size v' (n + 1) (xs ++ news) → w0.grownBy w' v.ownBlock → wpList P ops Q rest (a.put o.dst v') w') : wpList P ops Q (o :: rest) a (w0.alloc (.cells news.toArray tb)) := by
  subst hN
  exact append_box hgd sl x t e z size bytes ho ht hi hzs hsz base v n xs hs hown c tb news hx hl h1 hb hb0 hbase h
end
/-- the steps, each of several texts parted into items -/
def splitP (l : List Stp) : List Stp := l.flatMap fun p => if p.kind = 1 then p.texts.map (bare 0) else [p]
theorem splitP_app (a b : List Stp) : splitP (a ++ b) = splitP a ++ splitP b := by simp [splitP]
theorem splitP_len (l : List Stp) (h : ∀ p ∈ l, p.texts.length ≤ 10) : (splitP l).length ≤ 10 * l.length := by
  induction l with
  | nil => simp [splitP]
  | cons p t ih =>
    have h1 := ih (fun x hx => h x (by simp [hx]))
    have h2 := h p (by simp)
    have : splitP (p :: t) = (if p.kind = 1 then p.texts.map (bare 0) else [p]) ++ splitP t := by simp [splitP]
    rw [this, List.length_append, List.length_cons]
    split
    · rw [List.length_map]; omega
    · simp only [List.length_cons, List.length_nil]; omega
theorem fold_bare : ∀ (ts : List (List UInt8)) (q : List It × Nat), (ts.map (bare 0)).foldl stepP q = (q.1 ++ ts.map (q.2, ·), q.2)
  | [], q => by simp
  | t :: r, q => by
    rw [List.map_cons, List.foldl_cons, fold_bare r]
    have : stepP q (bare 0 t) = (q.1 ++ [(q.2, t)], q.2) := rfl
    rw [this]
    simp
theorem split_fold : ∀ (l : List Stp) (q : List It × Nat), (splitP l).foldl stepP q = l.foldl stepP q
  | [], q => rfl
  | p :: t, q => by
    have : splitP (p :: t) = (if p.kind = 1 then p.texts.map (bare 0) else [p]) ++ splitP t := by simp [splitP]
    rw [this, List.foldl_append, List.foldl_cons, split_fold t]
    congr 1
    split
    · rename_i h
      rw [fold_bare]
      unfold stepP
      rw [if_neg (by omega), if_pos h]
    · rfl
theorem split_law (l : List Stp) : playK (splitP l) (splitP l).length = playK l l.length := by rw [playK_all, playK_all, split_fold]
theorem splitP_sh (l : List Stp) (h : ∀ p ∈ l, StSh p) : ∀ p ∈ splitP l, StSh p := by
  intro p hp
  obtain ⟨x, hx, hp2⟩ := List.mem_flatMap.1 hp
  obtain ⟨h1, h2, h3, h4⟩ := h x hx
  split at hp2
  · obtain ⟨t, ht, rfl⟩ := List.mem_map.1 hp2
    exact bare_sh 0 (h4 t ht).1 (h4 t ht).2
  · simp only [List.mem_singleton] at hp2
    rw [hp2]
    exact h x hx
theorem stp_three (p : Stp) : stpCells [p] = [.int .i64 p.kind, .string ⟨p.text.toArray⟩, p.val] := rfl
theorem splitP_rd {w : World} (l : List Stp) (h : ∀ p ∈ l, RdS w p.val p.texts) : ∀ p ∈ splitP l, RdS w p.val p.texts := by
  intro p hp
  obtain ⟨x, hx, hp2⟩ := List.mem_flatMap.1 hp
  split at hp2
  · obtain ⟨t, ht, rfl⟩ := List.mem_map.1 hp2
    exact bare_rd w 0 t
  · simp only [List.mem_singleton] at hp2
    subst hp2
    exact h p hx
theorem LtSplit_calls (l : List Stp) (v : Value) (w : World) (hl : l.length ≤ 80) (hok : ∀ p ∈ l, p.texts.length ≤ 10) (h : RdSt w v l) :
    Calls Tryd.prog 24 #[v] w fun e w' => ∃ v', e = .returned v' ∧ Below w.heap.size w w' ∧ RdSt w' v' (splitP l) := by
  obtain ⟨A0, c0, rfl, _, _⟩ := h.1.form
  have HR := hid h
  clear h
  go_enter Tryd.func24, Tryd.ntmps24
  go_wp2_with fail
  go_loopw [3, 10] (fun v3 u wr => ∃ k : Nat, k ≤ l.length ∧ u = .int .i64 k ∧ Below w.heap.size w wr ∧ Hid ((splitP (l.take k)).length ≤ 10 * k) ∧ wr.ownsRow w.heap.size 33 3 v3 (splitP (l.take k)).length (stpCells (splitP (l.take k)))) (fun _ u _ => l.length - (intOf u).toNat)
  case atStart => exact ⟨0, by omega, rfl, Below.refl _ w, hid (by simp [splitP]), by simpa [splitP, stpCells] using own_nil w w.heap.size 33 3⟩
  case round =>
    obtain ⟨k, hk, rfl, hbw, hlen, hown⟩ := hrel
    by_cases hlt : k < l.length
    · obtain ⟨p, hp⟩ : ∃ p, l[k]? = some p := ⟨_, List.getElem?_eq_getElem hlt⟩
      have hp10 := hok p (List.mem_of_getElem? hp)
      obtain ⟨g, o, rfl, hcell⟩ := HR.out.1.at (by omega)
      have hcs := stp_get hp
      have hc0 : wr.cell? ⟨g, o + k * 3, none⟩ = some (.int .i64 p.kind) := cell_keep hbw (hcell _ _ hcs.1)
      have hc1 : wr.cell? ⟨g, o + k * 3 + 1, none⟩ = some (.string ⟨p.text.toArray⟩) := cell_keep hbw (hcell _ _ hcs.2.1)
      have hc2 : wr.cell? ⟨g, o + k * 3 + 2, none⟩ = some p.val := cell_keep hbw (hcell _ _ hcs.2.2)
      have HT := hid (HR.out.2 p (List.mem_of_getElem? hp))
      obtain ⟨At, ct, hval, _, _⟩ := HT.out.form
      rw [hval] at hc2 HT
      have hlt' : (k : Int) < (l.length : Int) := by omega
      have htk : splitP (l.take (k + 1)) = splitP (l.take k) ++ (if p.kind = 1 then p.texts.map (bare 0) else [p]) := by
        rw [List.take_add_one, hp, splitP_app]
        congr 1
        simp [splitP]
      have hlen' := hlen.out
      have HTKL := hid (show (splitP (l.take (k + 1))).length ≤ 10 * (k + 1) by
        rw [htk, List.length_append]
        split
        · rw [List.length_map]; omega
        · simp only [List.length_cons, List.length_nil]; omega)
      clear hcell hcs hp
      have hbA := hbw.alloc hbw.size (.cells #[.int .i64 p.kind, .string ⟨p.text.toArray⟩, .slice At p.texts.length ct] 33)
      have hownA := hown.alloc (.cells #[.int .i64 p.kind, .string ⟨p.text.toArray⟩, .slice At p.texts.length ct] 33)
      have hsA := hbA.size
      by_cases k1 : p.kind = 1
      · have E1 : (p.kind != 1) = false := by simpa using k1
        have HTK := hid (show splitP (l.take (k + 1)) = splitP (l.take k) ++ p.texts.map (bare 0) by rw [htk, if_pos k1])
        clear htk k1
        generalize splitP (l.take k) = done at *
        go_wp2_with fail
        generalize hW1 : wr.alloc (.cells #[.int .i64 p.kind, .string ⟨p.text.toArray⟩, .slice At p.texts.length ct] 33) = W1 at *
        clear hW1 hown hlen hbw
        go_loopw [3, 24] (fun v3 u ws => ∃ j : Nat, j ≤ p.texts.length ∧ u = .int .i64 j ∧ Below w.heap.size w ws ∧ ws.ownsRow w.heap.size 33 3 v3 (done.length + j) (stpCells done ++ stpCells ((p.texts.take j).map (bare 0)))) (fun _ u _ => p.texts.length - (intOf u).toNat)
        case atStart => exact ⟨0, by omega, rfl, hbA, by simpa [stpCells] using hownA⟩
        case round =>
          obtain ⟨j, hj, rfl, hbs, hown⟩ := hrel
          by_cases hjl : j < p.texts.length
          · obtain ⟨t, ht⟩ : ∃ t, p.texts[j]? = some t := ⟨_, List.getElem?_eq_getElem hjl⟩
            obtain ⟨gt, ot, rfl, hct⟩ := RdF.at (HT.out.below hbs) (by omega)
            have hctj := hct j (.string ⟨t.toArray⟩) (by simp [strs, ht])
            have hjl' : (j : Int) < (p.texts.length : Int) := by omega
            have hbsz := hbs.size
            have HTJ := hid (show (stpCells done ++ stpCells ((p.texts.take j).map (bare 0))) ++ [.int .i64 0, .string ⟨t.toArray⟩, .slice none 0 0] = stpCells done ++ stpCells ((p.texts.take (j + 1)).map (bare 0)) by
              rw [List.take_add_one, ht, List.map_append, stpCells_app, List.append_assoc]; rfl)
            clear ht hct
            go_wp2_with (at_builtin; refine append_box rfl _ _ 22 33 (.agg #[.int .i64 0, .string ⟨#[]⟩, .slice none 0 0]) 3 48 rfl Tryd.underlying22 infoStep rfl (by decide) w.heap.size u3 (done.length + j) _ rfl hown 1 33 [.int .i64 0, .string ⟨t.toArray⟩, .slice none 0 0] rfl rfl (by simp; exact ⟨rfl, rfl, rfl⟩) (by omega) (by decide) hbsz ?_; intro v1 w1 hown1 hg1)
            rw [HTJ.out] at hown1
            go_roundw
            case rel => exact ⟨j + 1, by omega, by go_num, below_grown hbs hbsz (Nat.le_refl _) hown hg1, by simpa [Nat.add_assoc] using hown1⟩
            case measure => simp [intOf]; omega
          · have hj2 : j = p.texts.length := by omega
            have hjl' : ¬ (j : Int) < (p.texts.length : Int) := by omega
            have hown2 := hown
            rw [hj2, List.take_length] at hown2
            clear hown hj2
            go_wp2_with fail
            go_roundw
            case rel => exact ⟨k + 1, by omega, by go_num, hbs, HTKL, by rw [HTK.out, stpCells_app, List.length_append, List.length_map]; exact hown2⟩
            case measure => simp [intOf]; omega
      · have E1 : (p.kind != 1) = true := by simpa using k1
        have HTK := hid (show splitP (l.take (k + 1)) = splitP (l.take k) ++ [p] by rw [htk, if_neg k1])
        clear htk k1
        generalize splitP (l.take k) = done at *
        have H3 := hid (show stpCells done ++ [.int .i64 p.kind, .string ⟨p.text.toArray⟩, .slice At p.texts.length ct] = stpCells (done ++ [p]) by rw [stpCells_app, stp_three, hval])
        clear hval hown hlen
        go_wp2_with (at_builtin; refine append_boxN rfl _ _ 22 33 (.agg #[.int .i64 0, .string ⟨#[]⟩, .slice none 0 0]) 3 48 rfl Tryd.underlying22 infoStep rfl (by decide) w.heap.size u3 done.length (stpCells done) rfl hownA 1 33 [.int .i64 p.kind, .string ⟨p.text.toArray⟩, .slice At p.texts.length ct] (wr.heap.size + 1) (by simp) rfl rfl (by simp; exact ⟨rfl, rfl, rfl⟩) (by omega) (by decide) hsA ?_; intro v1 w1 hown1 hg1)
        rw [H3.out] at hown1
        go_roundw
        case rel => exact ⟨k + 1, by omega, by go_num, below_grown hbA hsA (Nat.le_refl _) hownA hg1, HTKL, by rw [HTK.out, List.length_append]; exact hown1⟩
        case measure => simp [intOf]; omega
    · have hk2 : k = l.length := by omega
      have hlt' : ¬ (k : Int) < (l.length : Int) := by omega
      rw [hk2, List.take_length] at hown hlen
      have RD := hid (RdSt.own hown (by have := hlen.out; omega) (splitP_rd l fun p hp => (HR.out.2 p hp).below hbw))
      clear hown hlen
      go_wp2_with fail
      go_ret
      exact ⟨_, rfl, hbw, RD.out⟩
end Go.Proofs.YteenhipldfdkaaaDoor
