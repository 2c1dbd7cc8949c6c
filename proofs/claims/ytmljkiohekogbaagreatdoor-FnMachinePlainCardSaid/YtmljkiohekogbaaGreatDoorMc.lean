import Derived.Test.YtmljkiohekogbaaGreatDoorMb
namespace Go.Proofs.YtmljkiohekogbaaGreatDoor
open Go.RowKit
set_option linter.unusedVariables false
set_option linter.unusedSimpArgs false
set_option maxHeartbeats 2000000
set_option maxRecDepth 100000

/-! ### a sequence of numbers -/
theorem enc_one (b : UInt8) (h : b.toNat < 128) : Lib.encodeRune (b.toNat : Int) = [b] := by
  have : ∀ n : Nat, n < 128 → Lib.encodeRune (n : Int) = [UInt8.ofNat n] := by decide
  rw [this _ h]
  simp
theorem zIdx_none_one (x : UInt8) : ∀ l : List UInt8, (∀ b ∈ l, b ≠ x) → zIdx [x] l = none
  | [], _ => rfl
  | c :: t, h => by
    unfold zIdx
    have hc : (x == c) = false := by rw [beq_eq_false_iff_ne]; exact fun e => h c (by simp) e.symm
    rw [if_neg (by simp [List.isPrefixOf, hc]), zIdx_none_one x t (fun b hb => h b (List.mem_cons_of_mem _ hb))]
    rfl
theorem zIdx_end_one (x : UInt8) : ∀ l : List UInt8, (∀ b ∈ l, b ≠ x) → zIdx [x] (l ++ [x]) = some l.length
  | [], _ => by simp [zIdx, List.isPrefixOf]
  | c :: t, h => by
    rw [List.cons_append]
    unfold zIdx
    have hc : (x == c) = false := by rw [beq_eq_false_iff_ne]; exact fun e => h c (by simp) e.symm
    rw [if_neg (by simp [List.isPrefixOf, hc]), zIdx_end_one x t (fun b hb => h b (List.mem_cons_of_mem _ hb))]
    rfl
theorem strip_seq (ds : List UInt8) (h : ∀ b ∈ ds, b ≠ 109) : stripSeq 1 (27 :: 91 :: (ds ++ [109])) = ds := by
  have h1 : strike1 [27, 91] (27 :: 91 :: (ds ++ [109])) = ds ++ [109] := by simp [strike1, zIdx, List.isPrefixOf]
  unfold stripSeq
  rw [if_neg (by decide), h1]
  unfold strike1
  rw [zIdx_end_one 109 ds h]
  simp
theorem splitX_none (x : UInt8) : ∀ l : List UInt8, (∀ b ∈ l, b ≠ x) → splitX x l = [l]
  | [], _ => rfl
  | c :: t, h => by
    unfold splitX
    rw [if_neg (h c (by simp)), splitX_none x t (fun b hb => h b (List.mem_cons_of_mem _ hb))]
theorem splitX_cons (x b : UInt8) (t : List UInt8) : splitX x (b :: t) = if b = x then [] :: splitX x t else match splitX x t with
    | [] => [[b]]
    | l :: r => (b :: l) :: r := rfl
theorem splitX_sep (x : UInt8) : ∀ (l r : List UInt8), (∀ b ∈ l, b ≠ x) → splitX x (l ++ x :: r) = l :: splitX x r
  | [], r, _ => by rw [List.nil_append, splitX_cons, if_pos rfl]
  | c :: t, r, h => by rw [List.cons_append, splitX_cons, if_neg (h c (by simp)), splitX_sep x t r (fun b hb => h b (List.mem_cons_of_mem _ hb))]
/-- texts with a mark between -/
def joinX (x : UInt8) : List (List UInt8) → List UInt8
  | [] => []
  | [l] => l
  | l :: m :: t => l ++ x :: joinX x (m :: t)
theorem splitX_join (x : UInt8) : ∀ (l : List (List UInt8)), l ≠ [] → (∀ p ∈ l, ∀ b ∈ p, b ≠ x) → splitX x (joinX x l) = l
  | [], h, _ => absurd rfl h
  | [l], _, h => splitX_none x l (h l (by simp))
  | l :: m :: t, _, h => by
    show splitX x (l ++ x :: joinX x (m :: t)) = _
    rw [splitX_sep x l _ (h l (by simp)), splitX_join x (m :: t) (by simp) (fun p hp => h p (List.mem_cons_of_mem _ hp))]
section
variable (atoi : List UInt8 → Option Int)
theorem par256_plain {x : List UInt8} {t : List (List UInt8)} {v : Int} (h : atoi x = some v) (h1 : v ≠ 38) (h2 : v ≠ 48) : par256 atoi (x :: t) = none := by
  match t with
  | [] => rfl
  | [_] => rfl
  | _ :: _ :: _ => simp [par256, h, h1, h2]
theorem all_plain : ∀ (f : Nat) (l : List (List UInt8)) (c : List Int), (∀ x ∈ l, ∃ v, atoi x = some v ∧ v ≠ 38 ∧ v ≠ 48) → (all256 atoi f l c).1 = c ∧ ∀ b ∈ (all256 atoi f l c).2, b = false
  | 0, _, c, _ => ⟨rfl, fun b hb => by simp [all256] at hb⟩
  | _ + 1, [], c, _ => ⟨rfl, fun b hb => by simp [all256] at hb⟩
  | f + 1, x :: t, c, h => by
    obtain ⟨v, h1, h2, h3⟩ := h x (by simp)
    have ih := all_plain f t c (fun y hy => h y (List.mem_cons_of_mem _ hy))
    unfold all256
    rw [par256_plain atoi h1 h2 h3]
    exact ⟨ih.1, fun b hb => by rcases List.mem_cons.1 hb with rfl | hb; exact rfl; exact ih.2 b hb⟩
theorem regular_plain : ∀ (l : List (List UInt8)) (m : List Bool) (vs : List Int) (c : List Int), (∀ b ∈ m, b = false) → l.map atoi = vs.map some → regular atoi l m c = vs.foldl (fun c v => procCode v c) c
  | [], m, [], c, _, _ => rfl
  | [], _, _ :: _, _, _, h => by simp at h
  | _ :: _, _, [], _, _, h => by simp at h
  | x :: t, m, v :: vs, c, hm, h => by
    simp only [List.map_cons, List.cons.injEq] at h
    unfold regular
    have h0 : ¬ m.head? = some true := by
      cases m with
      | nil => simp
      | cons b r => simp [hm b (by simp)]
    rw [if_neg h0, h.1]
    simp only [List.foldl_cons]
    exact regular_plain t m.tail vs _ (fun b hb => hm b (List.mem_of_mem_tail hb)) h.2
theorem pieces_plain (l : List (List UInt8)) (vs : List Int) (c : List Int) (h : l.map atoi = vs.map some) (hv : ∀ v ∈ vs, v ≠ 38 ∧ v ≠ 48) : parsePieces atoi l c = vs.foldl (fun c v => procCode v c) c := by
  have hx : ∀ x ∈ l, ∃ v, atoi x = some v ∧ v ≠ 38 ∧ v ≠ 48 := by
    intro x hx
    have : atoi x ∈ vs.map some := by rw [← h]; exact List.mem_map_of_mem hx
    obtain ⟨v, hv1, hv2⟩ := List.mem_map.1 this
    exact ⟨v, hv2.symm, hv v hv1⟩
  obtain ⟨h1, h2⟩ := all_plain atoi l.length l c hx
  unfold parsePieces
  simp only
  rw [h1]
  exact regular_plain atoi l _ vs c h2 h
variable (trim : List UInt8 → List UInt8)
/-- digits and marks within a sequence -/
theorem run_digits (p : PSt) (hp : p.inn = true) (hk : p.kind = 1) : ∀ (ds : List UInt8) (e : List UInt8), (∀ b ∈ e, b ≠ 93) → (∀ b ∈ ds, b.toNat < 128 ∧ b ≠ 93 ∧ b ≠ 109) → e.length + ds.length ≤ 2048 →
    (ds.map fun b => (b.toNat : Int)).foldl (PSt.consume atoi trim) { p with esc := e } = { p with esc := e ++ ds }
  | [], e, _, _, _ => by simp
  | b :: t, e, he, hd, hl => by
    obtain ⟨hb1, hb2, hb3⟩ := hd b (by simp)
    have hen := enc_one b hb1
    have hne : ∀ x ∈ e ++ [b], x ≠ 93 := fun x hx => by
      rcases List.mem_append.1 hx with hx | hx
      · exact he x hx
      · simp only [List.mem_singleton] at hx; subst hx; exact hb2
    have h109 : ¬ (b.toNat : Int) = 109 := fun x => hb3 (by
      have h : b.toNat = 109 := by omega
      have := UInt8.toNat_inj.1 (h.trans (show (109 : Nat) = (109 : UInt8).toNat from rfl))
      exact this)
    have ho : PSt.opened { p with esc := e } (b.toNat : Int) = { p with esc := e } := by
      unfold PSt.opened
      rw [if_neg (fun x => by have := x.1; simp only at this; rw [hp] at this; exact absurd this (by simp)), if_neg (fun x => by have := x.2; simp only at this; rw [hk] at this; exact absurd this (by decide))]
    have hc : PSt.consume atoi trim { p with esc := e } (b.toNat : Int) = { p with esc := e ++ [b] } := by
      unfold PSt.consume
      rw [ho, hen]
      simp only
      have hl' : ¬ 2048 < (e ++ [b]).length := by simp only [List.length_append, List.length_cons, List.length_nil] at hl ⊢; omega
      rw [if_neg (by rw [hp]; simp), if_neg hl', if_neg (by unfold stopRune; rw [no_conceal hne, hk]; simp [h109])]
    simp only [List.map_cons, List.foldl_cons]
    rw [hc, run_digits p hp hk t (e ++ [b]) hne (fun x hx => hd x (List.mem_cons_of_mem _ hx)) (by simp only [List.length_append, List.length_cons, List.length_nil] at hl ⊢; omega)]
    simp
/-- a sequence, from end to end -/
theorem run_seq (p : PSt) (hp : p.inn = false) (hs : p.kind = 0 ∧ p.esc = []) (ds : List UInt8) (hd : ∀ b ∈ ds, b.toNat < 128 ∧ b ≠ 93 ∧ b ≠ 109) (hl : ds.length ≤ 2000) :
    ((27 :: 91 :: (ds ++ [109])).map fun b => ((b : UInt8).toNat : Int)).foldl (PSt.consume atoi trim) p = { p with codes := parseSeq atoi trim (27 :: 91 :: (ds ++ [109])) 1 p.codes } := by
  have e27 : ((27 : UInt8).toNat : Int) = 27 := rfl
  have e91 : ((91 : UInt8).toNat : Int) = 91 := rfl
  have e109 : ((109 : UInt8).toNat : Int) = 109 := rfl
  have c1 : p.consume atoi trim 27 = { p with inn := true, kind := 0, esc := [27] } := by
    have ho : p.opened 27 = { p with inn := true, kind := 0, esc := [] } := by unfold PSt.opened; rw [if_pos ⟨hp, rfl⟩]
    unfold PSt.consume
    rw [ho, show Lib.encodeRune 27 = [27] by decide]
    simp [stopRune, conceal, List.isPrefixOf]
  have c2 : PSt.consume atoi trim { p with inn := true, kind := 0, esc := [27] } 91 = { p with inn := true, kind := 1, esc := [27, 91] } := by
    have ho : PSt.opened { p with inn := true, kind := 0, esc := [27] } 91 = { p with inn := true, kind := 1, esc := [27] } := by unfold PSt.opened; simp
    unfold PSt.consume
    rw [ho, show Lib.encodeRune 91 = [91] by decide]
    simp [stopRune, conceal, List.isPrefixOf]
  have hne : ∀ x ∈ ([27, 91] : List UInt8) ++ ds, x ≠ 93 := fun x hx => by
    rcases List.mem_append.1 hx with hx | hx
    · simp only [List.mem_cons, List.not_mem_nil, or_false] at hx; rcases hx with rfl | rfl <;> decide
    · exact (hd x hx).2.1
  have c3 := run_digits atoi trim { p with inn := true, kind := 1, esc := [] } rfl rfl ds [27, 91] (by intro x hx; exact hne x (by simp at hx ⊢; rcases hx with h | h <;> simp [h])) hd (by simp only [List.length_cons, List.length_nil]; omega)
  have hcon : conceal.isPrefixOf (27 :: 91 :: (ds ++ [109])) = false := by simp [conceal, List.isPrefixOf]
  have c4 : PSt.consume atoi trim { p with inn := true, kind := 1, esc := [27, 91] ++ ds } 109 = { p with codes := parseSeq atoi trim (27 :: 91 :: (ds ++ [109])) 1 p.codes } := by
    have ho : PSt.opened { p with inn := true, kind := 1, esc := [27, 91] ++ ds } 109 = { p with inn := true, kind := 1, esc := [27, 91] ++ ds } := by unfold PSt.opened; simp
    unfold PSt.consume
    rw [ho, show Lib.encodeRune 109 = [109] by decide]
    have ha : [27, 91] ++ ds ++ [109] = 27 :: 91 :: (ds ++ [109]) := by simp
    simp only
    rw [ha, if_neg (by simp), if_neg (by simp only [List.length_cons, List.length_append, List.length_nil]; omega), if_pos (by unfold stopRune; rw [hcon]; simp)]
    obtain ⟨h1, h2⟩ := hs
    unfold PSt.reset
    cases p
    simp only at hp h1 h2
    subst hp h1 h2
    rfl
  simp only [List.map_cons, List.map_append, List.map_nil, List.foldl_cons, List.foldl_append, List.foldl_nil, e27, e91, e109]
  rw [c1, c2]
  have c3' : (ds.map fun b => ((b : UInt8).toNat : Int)).foldl (PSt.consume atoi trim) { p with inn := true, kind := 1, esc := [27, 91] } = { p with inn := true, kind := 1, esc := [27, 91] ++ ds } := c3
  rw [c3', c4]
end

/-! ### what is on behind sequences -/
def attr (c : Int) : Bool := decide ((1 ≤ c ∧ c ≤ 9) ∨ (30 ≤ c ∧ c ≤ 37) ∨ (40 ≤ c ∧ c ≤ 47) ∨ (90 ≤ c ∧ c ≤ 97) ∨ (100 ≤ c ∧ c ≤ 107))
def offs (n c : Int) : Bool :=
  if n = 22 then decide (c = 1 ∨ c = 2) else if n = 23 ∨ n = 24 ∨ n = 27 ∨ n = 29 then decide (c = n - 20) else if n = 25 then decide (c = 5 ∨ c = 6)
  else if n = 39 then decide ((30 ≤ c ∧ c ≤ 37) ∨ (90 ≤ c ∧ c ≤ 97)) else if n = 49 then decide ((40 ≤ c ∧ c ≤ 47) ∨ (100 ≤ c ∧ c ≤ 107)) else false
def offCode (n : Int) : Bool := decide ((22 ≤ n ∧ n ≤ 25) ∨ n = 27 ∨ n = 29 ∨ n = 39 ∨ n = 49)
theorem mem_on {n x : Int} {c : List Int} (h : attr n = true) : x ∈ procCode n c ↔ x = n ∨ x ∈ c := by
  have h := of_decide_eq_true h
  unfold procCode
  rw [if_neg (by omega), if_neg (by omega), if_neg (by omega), if_neg (by omega), if_neg (by omega), if_neg (by omega), if_neg (by omega), if_neg (by omega), if_neg (by omega), if_pos (by omega)]
  exact mem_insC
theorem mem_off {n x : Int} {c : List Int} (h : offCode n = true) (hc : ∀ y ∈ c, attr y = true) : x ∈ procCode n c ↔ x ∈ c ∧ offs n x = false := by
  have h := of_decide_eq_true h
  have key : ∀ (P : Prop) [Decidable P] (Q : Prop) [Decidable Q], (x ∈ c → (P ↔ ¬ Q)) → ((x ∈ c ∧ P) ↔ (x ∈ c ∧ decide Q = false)) := fun P _ Q _ hh => by
    constructor
    · rintro ⟨a, b⟩; exact ⟨a, decide_eq_false ((hh a).1 b)⟩
    · rintro ⟨a, b⟩; exact ⟨a, (hh a).2 (of_decide_eq_false b)⟩
  have hat : x ∈ c → (1 ≤ x ∧ x ≤ 9) ∨ (30 ≤ x ∧ x ≤ 37) ∨ (40 ≤ x ∧ x ≤ 47) ∨ (90 ≤ x ∧ x ≤ 97) ∨ (100 ≤ x ∧ x ≤ 107) := fun hx => of_decide_eq_true (hc x hx)
  have hcase : n = 22 ∨ n = 23 ∨ n = 24 ∨ n = 25 ∨ n = 27 ∨ n = 29 ∨ n = 39 ∨ n = 49 := by omega
  rcases hcase with rfl | rfl | rfl | rfl | rfl | rfl | rfl | rfl
  · show x ∈ delC 2 (delC 1 c) ↔ x ∈ c ∧ decide (x = 1 ∨ x = 2) = false
    rw [mem_delC, mem_delC, and_assoc]; exact key _ _ fun _ => by omega
  · show x ∈ delC 3 c ↔ x ∈ c ∧ decide (x = 23 - 20) = false
    rw [mem_delC]; exact key _ _ fun _ => by omega
  · show x ∈ delC 4 c ↔ x ∈ c ∧ decide (x = 24 - 20) = false
    rw [mem_delC]; exact key _ _ fun _ => by omega
  · show x ∈ delC 6 (delC 5 c) ↔ x ∈ c ∧ decide (x = 5 ∨ x = 6) = false
    rw [mem_delC, mem_delC, and_assoc]; exact key _ _ fun _ => by omega
  · show x ∈ delC 7 c ↔ x ∈ c ∧ decide (x = 27 - 20) = false
    rw [mem_delC]; exact key _ _ fun _ => by omega
  · show x ∈ delC 9 c ↔ x ∈ c ∧ decide (x = 29 - 20) = false
    rw [mem_delC]; exact key _ _ fun _ => by omega
  · show x ∈ delR 1000 1255 (delR 90 97 (delR 30 37 c)) ↔ x ∈ c ∧ decide ((30 ≤ x ∧ x ≤ 37) ∨ (90 ≤ x ∧ x ≤ 97)) = false
    rw [mem_delR, mem_delR, mem_delR, and_assoc, and_assoc]; exact key _ _ fun hx => by have := hat hx; omega
  · show x ∈ delR 2000 2255 (delR 100 107 (delR 40 47 c)) ↔ x ∈ c ∧ decide ((40 ≤ x ∧ x ≤ 47) ∨ (100 ≤ x ∧ x ≤ 107)) = false
    rw [mem_delR, mem_delR, mem_delR, and_assoc, and_assoc]; exact key _ _ fun hx => by have := hat hx; omega
/-- an operation: its kind, its number -/
def OpR (o : Int × Int) : Prop := (o.1 = 0 ∧ attr o.2 = true) ∨ o.1 = 1 ∨ (o.1 = 2 ∧ offCode o.2 = true)
def opNum (o : Int × Int) : Int := if o.1 = 1 then 0 else o.2
/-- what is on behind operations, as the reference says it -/
def afterOp (on : List Int) (o : Int × Int) : List Int :=
  if o.1 = 0 then (if o.2 ∈ on then on else on ++ [o.2]) else if o.1 = 1 then [] else if o.1 = 2 then on.filter fun c => !offs o.2 c else on
theorem after_step {o : Int × Int} (h : OpR o) {c on : List Int} (hc : ∀ y ∈ c, attr y = true) (he : ∀ x, x ∈ c ↔ x ∈ on) :
    (∀ y ∈ procCode (opNum o) c, attr y = true) ∧ ∀ x, x ∈ procCode (opNum o) c ↔ x ∈ afterOp on o := by
  obtain ⟨k, n⟩ := o
  rcases h with ⟨h1, h2⟩ | h1 | ⟨h1, h2⟩
  · simp only at h1 h2
    subst h1
    have hn : opNum (0, n) = n := rfl
    rw [hn]
    refine ⟨fun y hy => ?_, fun x => ?_⟩
    · rcases (mem_on h2).1 hy with rfl | hy
      · exact h2
      · exact hc y hy
    · rw [mem_on h2, he x]
      show _ ↔ x ∈ (if n ∈ on then on else on ++ [n])
      split
      · rename_i hm
        exact ⟨fun h => h.elim (fun e => e ▸ hm) id, .inr⟩
      · simp only [List.mem_append, List.mem_singleton]
        exact ⟨fun h => h.elim .inr .inl, fun h => h.elim .inr .inl⟩
  · simp only at h1
    subst h1
    exact ⟨fun y hy => by simp [opNum, procCode] at hy, fun x => by simp [opNum, procCode, afterOp]⟩
  · simp only at h1 h2
    subst h1
    have hn : opNum (2, n) = n := rfl
    rw [hn]
    refine ⟨fun y hy => hc y ((mem_off h2 hc).1 hy).1, fun x => ?_⟩
    rw [mem_off h2 hc, he x]
    show _ ↔ x ∈ on.filter fun c => !offs n c
    rw [List.mem_filter]
    simp
theorem opNum_ne {o : Int × Int} (h : OpR o) : opNum o ≠ 38 ∧ opNum o ≠ 48 ∧ 0 ≤ opNum o ∧ opNum o ≤ 107 := by
  obtain ⟨k, n⟩ := o
  rcases h with ⟨h1, h2⟩ | h1 | ⟨h1, h2⟩
  · simp only at h1 h2
    subst h1
    have := of_decide_eq_true h2
    show n ≠ 38 ∧ n ≠ 48 ∧ 0 ≤ n ∧ n ≤ 107
    omega
  · simp only at h1
    subst h1
    show (0 : Int) ≠ 38 ∧ (0 : Int) ≠ 48 ∧ (0 : Int) ≤ 0 ∧ (0 : Int) ≤ 107
    omega
  · simp only at h1 h2
    subst h1
    have := of_decide_eq_true h2
    show n ≠ 38 ∧ n ≠ 48 ∧ 0 ≤ n ∧ n ≤ 107
    omega
theorem after_all : ∀ (os : List (Int × Int)) (c on : List Int), (∀ o ∈ os, OpR o) → (∀ y ∈ c, attr y = true) → (∀ x, x ∈ c ↔ x ∈ on) →
    (∀ y ∈ os.foldl (fun c o => procCode (opNum o) c) c, attr y = true) ∧ ∀ x, x ∈ os.foldl (fun c o => procCode (opNum o) c) c ↔ x ∈ os.foldl afterOp on
  | [], c, on, _, hc, he => ⟨hc, he⟩
  | o :: t, c, on, ho, hc, he => by
    obtain ⟨h1, h2⟩ := after_step (ho o (by simp)) hc he
    exact after_all t _ _ (fun x hx => ho x (List.mem_cons_of_mem _ hx)) h1 h2
end Go.Proofs.YtmljkiohekogbaaGreatDoor
