import Derived.Test.YtfiokjdikhfcaaaDoorYv
import Derived.Test.YtfiokjdikhfcaaaDoorH
namespace Go.Proofs.YtfiokjdikhfcaaaDoor
open Go.RowKit
set_option linter.unusedVariables false
set_option linter.unusedSimpArgs false
set_option maxHeartbeats 4000000
set_option maxRecDepth 100000
attribute [local go_sem] S_extract S_append run_cut_S run_head_S run_tail_S Nat.add_sub_cancel_left

theorem okCode_range {n : Nat} {c : Int} (h : okCode n c = true) : 0 ≤ c ∧ c < 1000 := by
  unfold okCode txAttr at h
  simp only [Bool.or_eq_true, Bool.and_eq_true, decide_eq_true_eq] at h
  omega
theorem good_facts {lines : Bool} {l : List Pc} (h : goodL lines l = true) : l.length ≤ 40 ∧ ∀ p ∈ l, p.codes.length ≤ 4 ∧ p.text.length ≤ 500 ∧ (∀ c ∈ p.codes, 0 ≤ c ∧ c < 1000) ∧ txSimple ⟨p.text.toArray⟩ lines = true := by
  unfold goodL at h
  simp only [Bool.and_eq_true, decide_eq_true_eq, List.all_eq_true] at h
  refine ⟨h.2, fun p hp => ?_⟩
  have := h.1 p hp
  unfold goodPc at this
  simp only [Bool.and_eq_true, decide_eq_true_eq, List.all_eq_true] at this
  exact ⟨this.2.2.1, this.2.1, fun c hc => okCode_range (this.2.2.2 c hc), this.1⟩
theorem written_len : ∀ l : List Pc, (∀ p ∈ l, p.codes.length ≤ 4 ∧ p.text.length ≤ 500 ∧ (∀ c ∈ p.codes, 0 ≤ c ∧ c < 1000)) → (writtenPc l).length ≤ 587 * l.length
  | [], _ => by simp [writtenPc]
  | p :: t, h => by
    have h1 := h p (by simp)
    have h2 := written_len t fun q hq => h q (by simp [hq])
    have h3 := txSeq_len p.codes h1.2.2
    have : writtenPc (p :: t) = (txSeq p.codes ++ p.text) ++ writtenPc t := rfl
    rw [this, List.length_append, List.length_append, List.length_cons]
    omega
theorem ptCells_bad (lines : Bool) (l : List Pc) (v : Value) (w : World) (h : RdPc w v l) (ht : ∀ p ∈ l, p.text.length ≤ 2147483647) (hg : goodL lines l = false) :
    Calls Tryd.prog 6 #[v, .bool lines] w fun e w' => e = .returned (.tuple #[.string ⟨#[]⟩, .slice none 0 0, .slice none 0 0, .bool false]) ∧ Below w.heap.size w w' := by
  have KG := TxGood_calls lines l v w h ht
  rw [hg] at KG
  replace KG := hid KG
  clear h ht hg
  go_enter Tryd.func6, Tryd.ntmps6
  go_wp2_with (go_at_call 14; (with_reducible refine KG.out.mono ?_); rintro e w1 ⟨rfl, hb1⟩)
  refine bodyPost_ret (by simp [results, Tryd.results6, go_sem]; try rfl) rfl ?_
  exact ⟨rfl, hb1⟩
theorem ptCells_good (lines : Bool) (l : List Pc) (v : Value) (w : World) (h : RdPc w v l) (hg : goodL lines l = true) (hT : Tab w) :
    Calls Tryd.prog 6 #[v, .bool lines] w fun e w' => Below w.heap.size w w' ∧ match txRead (runes ⟨(writtenPc l).toArray⟩) with
      | none => e = .returned (.tuple #[.string ⟨(writtenPc l).toArray⟩, .slice none 0 0, .slice none 0 0, .bool false])
      | some p => ∃ vc vo, e = .returned (.tuple #[.string ⟨(writtenPc l).toArray⟩, vc, vo, .bool true]) ∧ RdCells w' vc p.1 ∧ RdI w' vo p.2 := by
  obtain ⟨h40, hf⟩ := good_facts hg
  have hwl := written_len l fun p hp => ⟨(hf p hp).1, (hf p hp).2.1, (hf p hp).2.2.1⟩
  have KG := TxGood_calls lines l v w h (fun p hp => by have := (hf p hp).2.1; omega)
  rw [hg] at KG
  replace KG := hid KG
  have KW := hid (fun (W : World) (hb : Below w.heap.size w W) => TxWritten_calls l v W (h.below hb) (fun p hp => (hf p hp).2.2.1) (fun p hp => ⟨(hf p hp).1, (hf p hp).2.1⟩) h40 (hT.below hb))
  have KR := hid (fun (W : World) => TxRead_calls ⟨(writtenPc l).toArray⟩ W (by rw [S_size]; omega))
  generalize writtenPc l = W0 at *
  clear h hf hg hT hwl
  cases hr : txRead (runes ⟨W0.toArray⟩) with
  | none =>
    rw [hr] at KR
    go_enter Tryd.func6, Tryd.ntmps6
    go_wp2_with (first
      | (go_at_call 14; (with_reducible refine KG.out.mono ?_); rintro e w1 ⟨rfl, hb1⟩)
      | (go_at_call 15; (with_reducible refine (KW.out _ hb1).mono ?_); rintro e w2 ⟨rfl, hb2⟩)
      | (go_at_call 16; (with_reducible refine (KR.out _).mono ?_); rintro e w3 ⟨hb3, rfl⟩))
    refine bodyPost_ret (by simp [results, Tryd.results6, go_sem]; try rfl) rfl ?_
    exact ⟨(hb1.trans (hb2.mono hb1.size)).trans (hb3.mono (by have := hb1.size; have := hb2.size; omega)), rfl⟩
  | some q =>
    rw [hr] at KR
    go_enter Tryd.func6, Tryd.ntmps6
    go_wp2_with (first
      | (go_at_call 14; (with_reducible refine KG.out.mono ?_); rintro e w1 ⟨rfl, hb1⟩)
      | (go_at_call 15; (with_reducible refine (KW.out _ hb1).mono ?_); rintro e w2 ⟨rfl, hb2⟩)
      | (go_at_call 16; (with_reducible refine (KR.out _).mono ?_); rintro e w3 ⟨hb3, vc, vo, rfl, hrc, hri⟩))
    refine bodyPost_ret (by simp [results, Tryd.results6, go_sem]; try rfl) rfl ?_
    exact ⟨(hb1.trans (hb2.mono hb1.size)).trans (hb3.mono (by have := hb1.size; have := hb2.size; omega)), vc, vo, rfl, hrc, hri⟩
end Go.Proofs.YtfiokjdikhfcaaaDoor
