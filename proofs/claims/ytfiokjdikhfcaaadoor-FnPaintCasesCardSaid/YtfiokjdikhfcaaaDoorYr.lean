import Derived.Test.YtfiokjdikhfcaaaDoorG
namespace Go.Proofs.YtfiokjdikhfcaaaDoor
open Go.RowKit
set_option linter.unusedVariables false
set_option linter.unusedSimpArgs false
set_option maxHeartbeats 4000000
set_option maxRecDepth 100000
attribute [local go_sem] S_extract S_append run_cut_S run_head_S run_tail_S Nat.add_sub_cancel_left

/-- a piece of a text: its codes, its characters, and the value of its slice of codes -/
structure Pc where
  codes : List Int
  text : List UInt8
  val : Value
def pcCells (l : List Pc) : List Value := l.flatMap fun p => [p.val, .string ⟨p.text.toArray⟩]
/-- as RdI, whatever length -/
def RdJ (w : World) (v : Value) (l : List Int) : Prop :=
  ∃ A c, v = .slice A l.length c ∧ l.length ≤ c ∧ (A = none → c = 0) ∧ (l ≠ [] → ∃ g o, A = some ⟨g, o, none⟩ ∧ ∀ i x, l[i]? = some x → w.cell? ⟨g, o + i, none⟩ = some (.int .i64 x))
def RdPj (w : World) (v : Value) (l : List Pc) : Prop := RdF w v 2 l.length (pcCells l) ∧ ∀ p ∈ l, RdJ w p.val p.codes
def RdPc (w : World) (v : Value) (l : List Pc) : Prop := RdF w v 2 l.length (pcCells l) ∧ ∀ p ∈ l, RdI w p.val p.codes
theorem RdPc.below {w w1 : World} {v : Value} {l : List Pc} (h : RdPc w v l) (hb : Below w.heap.size w w1) : RdPc w1 v l := ⟨h.1.below hb, fun p hp => (h.2 p hp).below hb⟩
theorem pc_get : ∀ {l : List Pc} {i : Nat} {p : Pc}, l[i]? = some p → (pcCells l)[i * 2]? = some p.val ∧ (pcCells l)[i * 2 + 1]? = some (.string ⟨p.text.toArray⟩)
  | [], i, q, h => by simp at h
  | p :: t, 0, q, h => by simp at h; subst h; simp [pcCells]
  | p :: t, i + 1, q, h => by
    have := pc_get (l := t) (i := i) (p := q) (by simpa using h)
    rw [show (i + 1) * 2 = i * 2 + 1 + 1 by omega]
    simpa [pcCells] using this
def plainPc (l : List Pc) : List UInt8 := l.flatMap Pc.text
def fitPc (p : Pc) : Bool := decide (p.codes.length ≤ 2147483647) && decide (p.text.length ≤ 2147483647)
theorem zzFits16_calls (p : Pc) (w : World) (h : ∃ A c, p.val = .slice A p.codes.length c) :
    Calls Tryd.prog 13 #[.agg #[p.val, .string ⟨p.text.toArray⟩]] w fun e w' => e = .returned (.bool (fitPc p)) ∧ Below w.heap.size w w' := by
  obtain ⟨A, c, hv⟩ := h
  obtain ⟨cs, tx, v⟩ := p
  dsimp only at hv
  subst hv
  by_cases h1 : cs.length ≤ 2147483647
  · have h1' : ¬ (2147483647 : Int) < (cs.length : Int) := by omega
    by_cases h2 : tx.length ≤ 2147483647
    · have h2' : ¬ (2147483647 : Int) < (tx.length : Int) := by omega
      have HB := hid (show fitPc ⟨cs, tx, .slice A cs.length c⟩ = true by simp [fitPc, h1, h2])
      go_enter Tryd.func13, Tryd.ntmps13
      go_wp2_with fail
      go_ret
      exact ⟨ret_bool HB.out.symm, by first | exact Below.refl _ w | exact (Below.refl _ w).alloc (Nat.le_refl _) _⟩
    · have h2' : (2147483647 : Int) < (tx.length : Int) := by omega
      have HB := hid (show fitPc ⟨cs, tx, .slice A cs.length c⟩ = false by simp [fitPc, h1, h2])
      go_enter Tryd.func13, Tryd.ntmps13
      go_wp2_with fail
      go_ret
      exact ⟨ret_bool HB.out.symm, by first | exact Below.refl _ w | exact (Below.refl _ w).alloc (Nat.le_refl _) _⟩
  · have h1' : (2147483647 : Int) < (cs.length : Int) := by omega
    have HB := hid (show fitPc ⟨cs, tx, .slice A cs.length c⟩ = false by simp [fitPc, h1])
    go_enter Tryd.func13, Tryd.ntmps13
    go_wp2_with fail
    go_ret
    exact ⟨ret_bool HB.out.symm, by first | exact Below.refl _ w | exact (Below.refl _ w).alloc (Nat.le_refl _) _⟩
theorem TxPlain_calls (l : List Pc) (v : Value) (w : World) (h : RdPc w v l) (hl : l.length ≤ 1000000) (ht : ∀ p ∈ l, p.text.length ≤ 1000000) :
    Calls Tryd.prog 8 #[v] w fun e w' => e = .returned (.string ⟨(plainPc l).toArray⟩) ∧ Below w.heap.size w w' := by
  have HR := hid h
  obtain ⟨A, c, rfl, hc, _⟩ := RdF.form h.1
  clear h
  have HT := hid ht
  clear ht
  go_enter Tryd.func8, Tryd.ntmps8
  go_wp2_with fail
  go_loopw [3, 8] (fun s u wr => ∃ (k : Nat) (x : List UInt8), k ≤ l.length ∧ u = .int .i64 k ∧ s = .string ⟨x.toArray⟩ ∧ x.length ≤ 1000000 * k ∧ Hid (x ++ plainPc (l.drop k) = plainPc l) ∧ Below w.heap.size w wr) (fun _ u _ => l.length - (intOf u).toNat)
  case atStart => exact ⟨0, [], by omega, rfl, rfl, by simp, hid rfl, Below.refl _ w⟩
  case round =>
    obtain ⟨k, x, hk, rfl, rfl, hx, hT, hbw⟩ := hrel
    by_cases hlt : k < l.length
    · obtain ⟨p, hp⟩ : ∃ p, l[k]? = some p := ⟨_, List.getElem?_eq_getElem hlt⟩
      have hlt' : (k : Int) < (l.length : Int) := by omega
      obtain ⟨g, o, rfl, hcl⟩ := (HR.out.below hbw).1.at (by omega)
      obtain ⟨q0, q1⟩ := pc_get hp
      have hc0 := hcl _ _ q0
      have hc1 := hcl _ _ q1
      rw [← Nat.add_assoc] at hc1
      have hpl := HT.out p (List.mem_of_getElem? hp)
      obtain ⟨A2, c2, hvv⟩ := (HR.out.2 p (List.mem_of_getElem? hp)).form
      have HA := hid (show (x ++ p.text) ++ plainPc (l.drop (k + 1)) = plainPc l by
        rw [← hT.out, List.drop_eq_getElem_cons hlt, (List.getElem?_eq_some_iff.1 hp).2, List.append_assoc]
        rfl)
      obtain ⟨cs, tx, vv⟩ := p
      dsimp only at hc0 hc1 hpl HA hvv
      subst hvv
      have hk2 : (k + 1) * 1000000 = k * 1000000 + 1000000 := by omega
      clear hcl hp q0 q1 hT
      go_wp2_with fail
      go_roundw
      case rel => exact ⟨k + 1, _, by omega, by go_num, rfl, by simp; omega, hid HA.out, by first | exact hbw.alloc hbw.size _ | exact ((hbw.alloc hbw.size _).setCell hbw.size _).setCell hbw.size _ | trace_state⟩
      case measure => simp [intOf]; omega
    · have hlt' : ¬ (k : Int) < (l.length : Int) := by omega
      have HS := hid (show x = plainPc l by rw [← hT.out, List.drop_of_length_le (by omega)]; simp [plainPc])
      clear hT
      go_wp2_with fail
      go_ret
      exact ⟨ret_str HS.out, hbw⟩
end Go.Proofs.YtfiokjdikhfcaaaDoor
