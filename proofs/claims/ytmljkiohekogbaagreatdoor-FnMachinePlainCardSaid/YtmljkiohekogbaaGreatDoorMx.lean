import Derived.Test.YtmljkiohekogbaaGreatDoorMw
namespace Go.Proofs.YtmljkiohekogbaaGreatDoor
open Go.RowKit Go.Maps
set_option linter.unusedVariables false
set_option linter.unusedSimpArgs false
set_option maxHeartbeats 4000000
set_option maxRecDepth 100000

/-! ### sequences of operations -/
theorem ascii_runes : ∀ (l : List UInt8), (∀ b ∈ l, b.toNat < 128) → encs (l.map fun b => (b.toNat : Int)) = l
  | [], _ => rfl
  | b :: t, h => by
    rw [List.map_cons, encs_cons, enc_one b (h b (by simp)), ascii_runes t (fun x hx => h x (List.mem_cons_of_mem _ hx))]
    rfl
theorem ascii_VR {l : List UInt8} (h : ∀ b ∈ l, b.toNat < 128) : ∀ r ∈ l.map (fun b => (b.toNat : Int)), VR r := by
  intro r hr
  obtain ⟨b, hb, rfl⟩ := List.mem_map.1 hr
  have := h b hb
  unfold VR
  omega
theorem ascii_runesL {l : List UInt8} (h : ∀ b ∈ l, b.toNat < 128) (t : List UInt8) : runesL (l ++ t) = (l.map fun b => (b.toNat : Int)) ++ runesL t := by
  have := runesL_encs _ (ascii_VR h) t
  rwa [ascii_runes l h] at this
theorem ascii_runes0 {l : List UInt8} (h : ∀ b ∈ l, b.toNat < 128) : runesL l = l.map fun b => (b.toNat : Int) := by
  have := ascii_runesL h []
  rw [List.append_nil, runesL_nil, List.append_nil] at this
  exact this
theorem dig_facts : ∀ n : Nat, n < 108 → (∀ b ∈ Lib.decDigits n, b.toNat < 128 ∧ b ≠ 93 ∧ b ≠ 109 ∧ b ≠ 59) ∧ atoiF (Lib.trimSpaceD (Lib.decDigits n)) = some (n : Int) ∧ (Lib.decDigits n).length ≤ 3 := by
  intro n hn
  rw [dec_dg3 n (by omega)]
  exact (show ∀ n : Nat, n < 108 → (∀ b ∈ dg3 n, b.toNat < 128 ∧ b ≠ 93 ∧ b ≠ 109 ∧ b ≠ 59) ∧ atoiF (Lib.trimSpaceD (dg3 n)) = some (n : Int) ∧ (dg3 n).length ≤ 3 by decide +kernel) n hn
def seqB (ds : List UInt8) : List UInt8 := 27 :: 91 :: (ds ++ [109])
def opDs (o : Int × Int) : List UInt8 := Lib.decDigits (opNum o).toNat
def opText (o : Int × Int) : List UInt8 := seqB (opDs o)
theorem op_dig {o : Int × Int} (h : OpR o) : (∀ b ∈ opDs o, b.toNat < 128 ∧ b ≠ 93 ∧ b ≠ 109 ∧ b ≠ 59) ∧ atoiF (Lib.trimSpaceD (opDs o)) = some (opNum o) ∧ (opDs o).length ≤ 3 := by
  obtain ⟨h1, h2, h3, h4⟩ := opNum_ne h
  have := dig_facts (opNum o).toNat (by omega)
  rw [show (((opNum o).toNat : Nat) : Int) = opNum o by omega] at this
  exact this
theorem seqB_ascii {ds : List UInt8} (h : ∀ b ∈ ds, b.toNat < 128) : ∀ b ∈ seqB ds, b.toNat < 128 := by
  intro b hb
  simp only [seqB, List.mem_cons, List.mem_append, List.not_mem_nil, or_false] at hb
  rcases hb with rfl | rfl | hb | rfl
  · decide
  · decide
  · exact h b hb
  · decide
theorem op_ascii {o : Int × Int} (h : OpR o) : ∀ b ∈ opText o, b.toNat < 128 := seqB_ascii fun b hb => ((op_dig h).1 b hb).1
theorem op_len {o : Int × Int} (h : OpR o) : (opText o).length ≤ 6 := by
  have := (op_dig h).2.2
  simp only [opText, seqB, List.length_cons, List.length_append, List.length_nil]
  omega
/-- outside of a sequence -/
def Out (p : PSt) : Prop := p.inn = false ∧ p.kind = 0 ∧ p.esc = []
theorem Out.reset {p : PSt} (h : Out p) : p.reset = p := by
  obtain ⟨h1, h2, h3⟩ := h
  cases p
  simp only [PSt.reset] at *
  subst h1 h2 h3
  rfl
theorem Out.zero : Out p0 := ⟨rfl, rfl, rfl⟩
def codesTo (os : List (Int × Int)) (c : List Int) : List Int := os.foldl (fun c o => procCode (opNum o) c) c
theorem Out.codes {p : PSt} (h : Out p) (c : List Int) : Out { p with codes := c } := h
theorem parse_nums (ds : List (List UInt8)) (vs : List Int) (hne : ds ≠ []) (hs : ∀ d ∈ ds, ∀ b ∈ d, b ≠ 59) (hm : ∀ b ∈ joinX 59 ds, b ≠ 109) (ha : ds.map (fun d => atoiF (Lib.trimSpaceD d)) = vs.map some) (hv : ∀ v ∈ vs, v ≠ 38 ∧ v ≠ 48) (c : List Int) :
    parseSeq atoiF Lib.trimSpaceD (seqB (joinX 59 ds)) 1 c = vs.foldl (fun c v => procCode v c) c := by
  unfold parseSeq seqB
  rw [strip_seq _ hm, splitX_join 59 ds hne hs]
  refine pieces_plain atoiF _ vs c ?_ hv
  rw [List.map_map]
  exact ha
theorem run_nums {p : PSt} (hp : Out p) (ds : List (List UInt8)) (vs : List Int) (hne : ds ≠ []) (hs : ∀ d ∈ ds, ∀ b ∈ d, b.toNat < 128 ∧ b ≠ 93 ∧ b ≠ 109 ∧ b ≠ 59) (hj : ∀ b ∈ joinX 59 ds, b.toNat < 128 ∧ b ≠ 93 ∧ b ≠ 109) (hl : (joinX 59 ds).length ≤ 2000)
    (ha : ds.map (fun d => atoiF (Lib.trimSpaceD d)) = vs.map some) (hv : ∀ v ∈ vs, v ≠ 38 ∧ v ≠ 48) :
    ((seqB (joinX 59 ds)).map fun b => ((b : UInt8).toNat : Int)).foldl (PSt.consume atoiF Lib.trimSpaceD) p = { p with codes := vs.foldl (fun c v => procCode v c) p.codes } := by
  have := run_seq atoiF Lib.trimSpaceD p hp.1 hp.2 (joinX 59 ds) hj hl
  rw [show (27 :: 91 :: (joinX 59 ds ++ [109]) : List UInt8) = seqB (joinX 59 ds) from rfl, parse_nums ds vs hne (fun d hd b hb => (hs d hd b hb).2.2.2) (fun b hb => (hj b hb).2.2) ha hv] at this
  exact this
theorem run_op {p : PSt} (hp : Out p) {o : Int × Int} (h : OpR o) : ((opText o).map fun b => ((b : UInt8).toNat : Int)).foldl (PSt.consume atoiF Lib.trimSpaceD) p = { p with codes := procCode (opNum o) p.codes } := by
  obtain ⟨h1, h2, h3⟩ := op_dig h
  obtain ⟨h4, h5, _⟩ := opNum_ne h
  exact run_nums hp [opDs o] [opNum o] (by simp) (by intro d hd; simp only [List.mem_singleton] at hd; subst hd; exact h1) (by show ∀ b ∈ opDs o, _; exact fun b hb => ⟨(h1 b hb).1, (h1 b hb).2.1, (h1 b hb).2.2.1⟩) (by show (opDs o).length ≤ 2000; omega) (by simp [h2]) (by simp [h4, h5])
def opsText (os : List (Int × Int)) : List UInt8 := os.flatMap opText
theorem ops_ascii {os : List (Int × Int)} (h : ∀ o ∈ os, OpR o) : ∀ b ∈ opsText os, b.toNat < 128 := by
  intro b hb
  obtain ⟨o, ho, hb⟩ := List.mem_flatMap.1 hb
  exact op_ascii (h o ho) b hb
theorem ops_len : ∀ {os : List (Int × Int)}, (∀ o ∈ os, OpR o) → (opsText os).length ≤ 6 * os.length
  | [], _ => by simp [opsText]
  | o :: t, h => by
    have h1 := op_len (h o (by simp))
    have h2 := ops_len (os := t) fun x hx => h x (List.mem_cons_of_mem _ hx)
    have e : opsText (o :: t) = opText o ++ opsText t := rfl
    rw [e, List.length_append, List.length_cons]
    omega
theorem run_ops : ∀ (os : List (Int × Int)) {p : PSt}, Out p → (∀ o ∈ os, OpR o) → ((opsText os).map fun b => ((b : UInt8).toNat : Int)).foldl (PSt.consume atoiF Lib.trimSpaceD) p = { p with codes := codesTo os p.codes }
  | [], p, _, _ => rfl
  | o :: t, p, hp, h => by
    have e : opsText (o :: t) = opText o ++ opsText t := rfl
    rw [e, List.map_append, List.foldl_append, run_op hp (h o (by simp)), run_ops t (hp.codes _) (fun x hx => h x (List.mem_cons_of_mem _ hx))]
    rfl
theorem parse_ops (os : List (Int × Int)) {p : PSt} (hp : Out p) (h : ∀ o ∈ os, OpR o) : p.parse atoiF Lib.trimSpaceD (runesL (opsText os)) = { p with codes := codesTo os p.codes } := by
  unfold PSt.parse
  rw [hp.reset, ascii_runes0 (ops_ascii h), run_ops os hp h]
theorem ops_ok {os : List (Int × Int)} (h : ∀ o ∈ os, OpR o) (hl : os.length ≤ 40) : SqOk 400 (pS (opsText os)) := by
  have hlen := ops_len h
  refine ⟨by simp [pS], by simp [pS], ?_, by show (opsText os).length ≤ _; omega⟩
  show (encs (runesL (opsText os))).length ≤ 400
  rw [ascii_runes0 (ops_ascii h), ascii_runes _ (ops_ascii h)]
  omega
/-- a sequence that is begun behind them -/
theorem parse_open (os : List (Int × Int)) {p : PSt} (hp : Out p) (h : ∀ o ∈ os, OpR o) : p.parse atoiF Lib.trimSpaceD (runesL (opsText os ++ [27, 91, 51])) = { p with inn := true, kind := 1, esc := [27, 91, 51], codes := codesTo os p.codes } := by
  have ha : ∀ b ∈ opsText os ++ [27, 91, 51], b.toNat < 128 := by
    intro b hb
    rcases List.mem_append.1 hb with hb | hb
    · exact ops_ascii h b hb
    · simp only [List.mem_cons, List.not_mem_nil, or_false] at hb
      rcases hb with rfl | rfl | rfl <;> decide
  unfold PSt.parse
  rw [hp.reset, ascii_runes0 ha, List.map_append, List.foldl_append, run_ops os hp h]
  obtain ⟨h1, h2, h3⟩ := hp
  generalize codesTo os p.codes = c
  cases p
  simp only at h1 h2 h3
  subst h1 h2 h3
  have e27 : Lib.encodeRune 27 = [27] := by decide
  have e91 : Lib.encodeRune 91 = [91] := by decide
  have e51 : Lib.encodeRune 51 = [51] := by decide
  simp [PSt.consume, PSt.opened, e27, e91, e51, stopRune, conceal, List.isPrefixOf]
theorem open_ok {os : List (Int × Int)} (h : ∀ o ∈ os, OpR o) (hl : os.length ≤ 40) : SqOk 400 (pS (opsText os ++ [27, 91, 51])) := by
  have ha : ∀ b ∈ opsText os ++ [27, 91, 51], b.toNat < 128 := by
    intro b hb
    rcases List.mem_append.1 hb with hb | hb
    · exact ops_ascii h b hb
    · simp only [List.mem_cons, List.not_mem_nil, or_false] at hb
      rcases hb with rfl | rfl | rfl <;> decide
  have hlen := ops_len h
  refine ⟨by simp [pS], by simp [pS], ?_, by show (opsText os ++ [27, 91, 51]).length ≤ _; simp; omega⟩
  show (encs (runesL (opsText os ++ [27, 91, 51]))).length ≤ 400
  rw [ascii_runes0 ha, ascii_runes _ ha]
  simp
  omega
/-- what is on, by the reference -/
theorem after_alike {os : List (Int × Int)} (h : ∀ o ∈ os, OpR o) : alikeB (codesTo os []) (os.foldl afterOp []) = true :=
  alikeB_of (after_all os [] [] h (by simp) (by simp)).2
/-- outside, what is no escape changes nothing -/
theorem out_consume {p : PSt} (hp : Out p) {r : Int} (hr : r ≠ 27) : p.consume atoiF Lib.trimSpaceD r = p := by
  have ho : p.opened r = p := by
    unfold PSt.opened
    rw [if_neg (fun x => hr x.2), if_neg (fun x => by rw [hp.1] at x; exact absurd x.1 (by simp))]
  unfold PSt.consume
  rw [ho]
  simp [hp.1]
theorem out_fold : ∀ (rs : List Int) {p : PSt}, Out p → (∀ r ∈ rs, r ≠ 27) → rs.foldl (PSt.consume atoiF Lib.trimSpaceD) p = p
  | [], _, _, _ => rfl
  | r :: t, p, hp, h => by
    rw [List.foldl_cons, out_consume hp (h r (by simp)), out_fold t hp (fun x hx => h x (List.mem_cons_of_mem _ hx))]
/-- characters, one by one: the last state -/
theorem runQ_last : ∀ (rs : List Int) (p : PSt), ((runQ (rs.map cS) p).map (·.1)).getLastD p = rs.foldl (PSt.consume atoiF Lib.trimSpaceD) p := by
  intro rs p
  rw [cons_steps, statesL_last]
theorem plain_fold (os : List (Int × Int)) (h : ∀ o ∈ os, OpR o) (s : List UInt8) (hs : ∀ r ∈ runesL s, r ≠ 27) :
    (runesL (opsText os ++ s)).foldl (PSt.consume atoiF Lib.trimSpaceD) p0 = { p0 with codes := codesTo os [] } := by
  rw [ascii_runesL (ops_ascii h), List.foldl_append, run_ops os Out.zero h]
  exact out_fold _ (Out.zero.codes _) hs
/-- the sequence of colors -/
theorem joinX_all {P : UInt8 → Prop} (x : UInt8) (hx : P x) : ∀ (l : List (List UInt8)), (∀ d ∈ l, ∀ b ∈ d, P b) → ∀ b ∈ joinX x l, P b
  | [], _, b, hb => by simp [joinX] at hb
  | [d], h, b, hb => h d (by simp) b hb
  | d :: m :: t, h, b, hb => by
    have e : joinX x (d :: m :: t) = d ++ x :: joinX x (m :: t) := rfl
    rw [e] at hb
    rcases List.mem_append.1 hb with hb | hb
    · exact h d (by simp) b hb
    · rcases List.mem_cons.1 hb with rfl | hb
      · exact hx
      · exact joinX_all x hx (m :: t) (fun y hy => h y (List.mem_cons_of_mem _ hy)) b hb
theorem joinX_len (x : UInt8) (k : Nat) : ∀ (l : List (List UInt8)), (∀ d ∈ l, d.length ≤ k) → (joinX x l).length ≤ (k + 1) * l.length
  | [], _ => by simp [joinX]
  | [d], h => by
    have := h d (by simp)
    simp [joinX]
    omega
  | d :: m :: t, h => by
    have e : joinX x (d :: m :: t) = d ++ x :: joinX x (m :: t) := rfl
    have h1 := h d (by simp)
    have h2 := joinX_len x k (m :: t) (fun y hy => h y (List.mem_cons_of_mem _ hy))
    rw [e, List.length_append, List.length_cons, List.length_cons, Nat.mul_add]
    omega
def colDs (c : Int) : List UInt8 := Lib.decDigits c.toNat
theorem attr_ok {c : Int} (h : attr c = true) : OpR (0, c) := .inl ⟨rfl, h⟩
theorem run_colors (cs : List Int) (hne : cs ≠ []) (h : ∀ c ∈ cs, attr c = true) (hl : cs.length ≤ 20) :
    (p0.parse atoiF Lib.trimSpaceD (runesL (seqB (joinX 59 (cs.map colDs)))) = { p0 with codes := cs.foldl (fun c v => procCode v c) [] }) ∧ (∀ b ∈ seqB (joinX 59 (cs.map colDs)), b.toNat < 128) ∧ (seqB (joinX 59 (cs.map colDs))).length ≤ 100 := by
  have hd : ∀ d ∈ cs.map colDs, (∀ b ∈ d, b.toNat < 128 ∧ b ≠ 93 ∧ b ≠ 109 ∧ b ≠ 59) ∧ d.length ≤ 3 := by
    intro d hd
    obtain ⟨c, hc, rfl⟩ := List.mem_map.1 hd
    have := op_dig (attr_ok (h c hc))
    exact ⟨this.1, this.2.2⟩
  have hj : ∀ b ∈ joinX 59 (cs.map colDs), b.toNat < 128 ∧ b ≠ 93 ∧ b ≠ 109 := joinX_all 59 (by decide) _ fun d hd' b hb => by
    have := (hd d hd').1 b hb
    exact ⟨this.1, this.2.1, this.2.2.1⟩
  have hjl := joinX_len 59 3 (cs.map colDs) (fun d h => (hd d h).2)
  rw [List.length_map] at hjl
  have hasc := seqB_ascii fun b hb => (hj b hb).1
  refine ⟨?_, hasc, ?_⟩
  · unfold PSt.parse
    rw [p0_reset, ascii_runes0 hasc]
    refine run_nums Out.zero (cs.map colDs) cs (by simpa using hne) (fun d h => (hd d h).1) hj (by omega) ?_ ?_
    · rw [List.map_map]
      refine List.map_congr_left fun c hc => ?_
      exact (op_dig (attr_ok (h c hc))).2.1
    · intro v hv
      have := opNum_ne (attr_ok (h v hv))
      exact ⟨this.1, this.2.1⟩
  · simp only [seqB, List.length_cons, List.length_append, List.length_nil]
    omega
theorem colors_mem : ∀ (cs : List Int) (c : List Int), (∀ x ∈ cs, attr x = true) → ∀ x, x ∈ cs.foldl (fun c v => procCode v c) c ↔ x ∈ c ∨ x ∈ cs
  | [], c, _, x => by simp
  | y :: t, c, h, x => by
    rw [List.foldl_cons, colors_mem t _ (fun z hz => h z (List.mem_cons_of_mem _ hz)), mem_on (h y (by simp)), List.mem_cons]
    constructor
    · rintro ((h1 | h1) | h1)
      · exact .inr (.inl h1)
      · exact .inl h1
      · exact .inr (.inr h1)
    · rintro (h1 | h1 | h1)
      · exact .inl (.inr h1)
      · exact .inl (.inl h1)
      · exact .inr h1
end Go.Proofs.YtmljkiohekogbaaGreatDoor
