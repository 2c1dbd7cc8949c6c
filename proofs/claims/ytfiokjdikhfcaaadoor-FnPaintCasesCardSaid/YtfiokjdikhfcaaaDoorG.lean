import Derived.Test.YtfiokjdikhfcaaaDoorGa
namespace Go.Proofs.YtfiokjdikhfcaaaDoor
open Go.RowKit
set_option linter.unusedVariables false
set_option linter.unusedSimpArgs false
set_option maxHeartbeats 4000000
set_option maxRecDepth 100000
attribute [local go_sem] S_extract S_append run_cut_S run_head_S run_tail_S Nat.add_sub_cancel_left

theorem infoInt : (Tryd.prog.info? 3).map (fun i => (i.zero, i.size, i.bytes)) = some (some (.int .i64 0), 1, 8) := by kernel_rfl
theorem drop_step {α : Type} {l : List α} {k : Nat} (h : k < l.length) : l.drop k = l[k] :: l.drop (k + 1) := List.drop_eq_getElem_cons h

def among (l : List Int) (n : Int) : Bool := l.contains n
theorem among_cons (x : Int) (l : List Int) (n : Int) : among (x :: l) n = ((x == n) || among l n) := by
  have h : (n == x) = (x == n) := by rw [Bool.eq_iff_iff, beq_iff_eq, beq_iff_eq]; exact eq_comm
  simp only [among, List.contains_cons, h]
theorem among_nil (n : Int) : among [] n = false := rfl
theorem among_iff (l : List Int) (n : Int) : among l n = true ↔ n ∈ l := by simp [among]

theorem TxAmong_calls (v : Value) (l : List Int) (n : Int) (w : World) (h : RdI w v l) :
    Calls Tryd.prog 30 #[v, .int .i64 n] w fun e w' => e = .returned (.bool (among l n)) ∧ w = w' := by
  obtain ⟨hl, A, c, rfl, hc, _, hr⟩ := h
  go_enter Tryd.func30, Tryd.ntmps30
  go_wp2
  go_loop [9] (fun i => ∃ k : Nat, k ≤ l.length ∧ i = .int .i64 k ∧ among l n = among (l.drop k) n) (fun i => l.length - (intOf i).toNat)
  case atStart => exact ⟨0, Nat.zero_le _, rfl, by simp⟩
  case round =>
    obtain ⟨k, hk, rfl, hacc⟩ := hrel
    by_cases hlt : k < l.length
    · obtain ⟨g, o, rfl, hcl⟩ := hr (by intro e; subst e; simp at hlt)
      have hcell := hcl k _ (List.getElem?_eq_getElem hlt)
      have HA := hid (hacc.trans (congrArg (among · n) (drop_step hlt)))
      generalize l[k] = x at *
      clear hacc hcl hr
      cases hx : (x == n)
      all_goals go_wp2
      all_goals first
        | (go_ret; exact ⟨ret_bool (by rw [HA.out]; simp [among_cons, hx]), rfl⟩)
        | (go_round
           case rel => exact ⟨k + 1, by omega, by go_num, by rw [HA.out]; simp [among_cons, hx]⟩
           case measure => simp [intOf]; omega)
    · have HA := hid hacc
      clear hacc hr
      go_wp2
      go_ret
      exact ⟨ret_bool (by rw [HA.out, List.drop_of_length_le (by omega)]; rfl), rfl⟩

def allIn (a b : List Int) : Bool := a.all (among b)
theorem allIn_cons (x : Int) (a b : List Int) : allIn (x :: a) b = (among b x && allIn a b) := rfl
theorem allIn_nil (b : List Int) : allIn [] b = true := rfl
def alike (a b : List Int) : Bool := allIn a b && allIn b a

theorem TxAlike_calls (v u : Value) (a b : List Int) (w : World) (h : RdI w v a) (h' : RdI w u b) :
    Calls Tryd.prog 20 #[v, u] w fun e w' => e = .returned (.bool (alike a b)) ∧ w = w' := by
  have KV := hid (fun n => TxAmong_calls v a n w h)
  have KU := hid (fun n => TxAmong_calls u b n w h')
  obtain ⟨hl, A, c, rfl, hc, _, hr⟩ := h
  obtain ⟨hl', A', c', rfl, hc', _, hr'⟩ := h'
  have HR := hid hr
  have HR' := hid hr'
  clear hr hr'
  go_enter Tryd.func20, Tryd.ntmps20
  go_wp2
  go_loop [11] (fun i => ∃ k : Nat, k ≤ a.length ∧ i = .int .i64 k ∧ alike a b = (allIn (a.drop k) b && allIn b a)) (fun i => a.length - (intOf i).toNat)
  case atStart => exact ⟨0, Nat.zero_le _, rfl, by simp [alike]⟩
  case round =>
    obtain ⟨k, hk, rfl, hacc⟩ := hrel
    by_cases hlt : k < a.length
    · obtain ⟨g, o, rfl, hcl⟩ := HR.out (by intro e; subst e; simp at hlt)
      have hcell := hcl k _ (List.getElem?_eq_getElem hlt)
      have HA := hid (hacc.trans (congrArg (fun l => allIn l b && allIn b a) (drop_step hlt)))
      generalize a[k] = x at *
      clear hacc hcl
      cases hx : among b x
      all_goals go_wp2_with (go_at_call 30; (with_reducible refine (KU.out _).mono ?_); rintro e w' ⟨rfl, rfl⟩; rw [hx])
      all_goals first
        | (go_ret; exact ⟨ret_bool (by rw [HA.out]; simp [allIn_cons, hx]), rfl⟩)
        | (go_round
           case rel => exact ⟨k + 1, by omega, by go_num, by rw [HA.out]; simp [allIn_cons, hx]⟩
           case measure => simp [intOf]; omega)
    · have HA := hid (show alike a b = allIn b a by rw [hacc, List.drop_of_length_le (by omega)]; rfl)
      clear hacc
      go_wp2
      go_loop [22] (fun i => ∃ k : Nat, k ≤ b.length ∧ i = .int .i64 k ∧ alike a b = allIn (b.drop k) a) (fun i => b.length - (intOf i).toNat)
      case atStart => exact ⟨0, Nat.zero_le _, rfl, by rw [HA.out]; simp⟩
      case round =>
        clear HA
        obtain ⟨j, hj, rfl, hacc⟩ := hrel
        by_cases hjt : j < b.length
        · obtain ⟨g, o, rfl, hcl⟩ := HR'.out (by intro e; subst e; simp at hjt)
          have hcell := hcl j _ (List.getElem?_eq_getElem hjt)
          have HA := hid (hacc.trans (congrArg (fun l => allIn l a) (drop_step hjt)))
          generalize b[j] = x at *
          clear hacc hcl
          cases hx : among a x
          all_goals go_wp2_with (go_at_call 30; (with_reducible refine (KV.out _).mono ?_); rintro e w' ⟨rfl, rfl⟩; rw [hx])
          all_goals first
            | (go_ret; exact ⟨ret_bool (by rw [HA.out]; simp [allIn_cons, hx]), rfl⟩)
            | (go_round
               case rel => exact ⟨j + 1, by omega, by go_num, by rw [HA.out]; simp [allIn_cons, hx]⟩
               case measure => simp [intOf]; omega)
        · have HA := hid (show alike a b = true by rw [hacc, List.drop_of_length_le (by omega)]; rfl)
          clear hacc
          go_wp2
          go_ret
          exact ⟨ret_bool HA.out.symm, rfl⟩

def with1 (l : List Int) (c : Int) : List Int := if c = 0 then [] else if among l c then l else l ++ [c]

theorem txWith_calls (v : Value) (l : List Int) (n : Int) (w : World) (h : RdI w v l) (hn : l.length ≤ 1000000) :
    Calls Tryd.prog 25 #[v, .int .i64 n] w fun e w' => (∃ v', e = .returned v' ∧ RdI w' v' (with1 l n) ∧ Below w.heap.size w w' ∧ (v' = v ∨ Typ w' v' 3)) := by
  have hfull := h
  obtain ⟨hl, A, c, rfl, hc, hA, hr⟩ := h
  have HF := hid hfull
  have HAN := hid hA
  have HR := hid hr
  clear hfull hr hA
  by_cases hz : n = 0
  · have hb : (n == 0) = true := by simpa using hz
    have HZ := hid (show with1 l n = [] by simp [with1, hz])
    clear hz
    go_enter Tryd.func25, Tryd.ntmps25
    go_wp2
    go_ret
    exact ⟨_, rfl, by rw [HZ.out]; exact RdI.nil w, Below.refl _ w, .inr (Typ.nil _ _ _ _)⟩
  · have hb : (n == 0) = false := by simpa using hz
    have HZ := hid (show with1 l n = if among l n then l else l ++ [n] by simp [with1, hz])
    clear hz
    go_enter Tryd.func25, Tryd.ntmps25
    go_wp2
    go_loop [11] (fun i => ∃ k : Nat, k ≤ l.length ∧ i = .int .i64 k ∧ among l n = among (l.drop k) n) (fun i => l.length - (intOf i).toNat)
    case atStart => exact ⟨0, Nat.zero_le _, rfl, by simp⟩
    case round =>
      obtain ⟨k, hk, rfl, hacc⟩ := hrel
      by_cases hlt : k < l.length
      · obtain ⟨g, o, rfl, hcl⟩ := HR.out (by intro e; subst e; simp at hlt)
        have hcell := hcl k _ (List.getElem?_eq_getElem hlt)
        have HA := hid (hacc.trans (congrArg (among · n) (drop_step hlt)))
        generalize l[k] = x at *
        clear hacc hcl
        cases hx : (x == n)
        all_goals go_wp2
        all_goals first
          | (go_ret; exact ⟨_, rfl, by rw [HZ.out, HA.out]; simp [among_cons, hx]; exact HF.out, Below.refl _ w, .inl rfl⟩)
          | (go_round
             case rel => exact ⟨k + 1, by omega, by go_num, by rw [HA.out]; simp [among_cons, hx]⟩
             case measure => simp [intOf]; omega)
      · have HA := hid (show with1 l n = l ++ [n] by rw [HZ.out, hacc, List.drop_of_length_le (by omega)]; simp [among_nil])
        clear hacc
        have OWN0 := own_empty w 3 1
        have SRC := hid (RdI.src (HF.out.below ((Below.refl _ w).alloc (Nat.le_refl _) (.cells #[] 3))))
        go_wp2_with (first
          | (at_builtin; refine append_read _ rfl _ _ 25 3 (.int .i64 0) 1 8 rfl Tryd.underlying25 infoInt rfl (by decide) w.heap.size (.slice (some ⟨w.heap.size, 0, none⟩) 0 0) 0 [] rfl OWN0 A l.length c (ints l) rfl HAN.out (by simp [ints]) SRC.out (ints_one l) (by omega) (by decide) (by simp) ?_; intro v1 w1 hown1 hg1; have hbs1 : w.heap.size ≤ w1.heap.size := Nat.le_trans (by simp) hg1.size)
          | (at_builtin; refine append_box rfl _ _ 25 3 (.int .i64 0) 1 8 rfl Tryd.underlying25 infoInt rfl (by decide) w.heap.size v1 (0 + l.length) ([] ++ ints l) rfl hown1 1 3 [.int .i64 n] rfl rfl (by simp; rfl) (by omega) (by decide) hbs1 ?_; intro v2 w2 hown2 hg2))
        go_ret
        have hb1 : Below w.heap.size w w1 := below_grown (((Below.refl _ w).alloc (Nat.le_refl _) _)) (by simp) (Nat.le_refl _) OWN0 hg1
        have hb2 : Below w.heap.size w w2 := below_grown hb1 hbs1 (Nat.le_refl _) hown1 hg2
        exact ⟨_, rfl, by rw [HA.out]; exact RdI.of_own (by simpa [ints] using hown2) (by simp; omega), hb2, .inr (Typ.own hown2)⟩
end Go.Proofs.YtfiokjdikhfcaaaDoor
