/- The row and the card of the law FnListsNamed, out of its contract. (The listed tables are laid in the witness; the call does not read them.) -/
import Derived.Test.YtejjjenjnfaopaaGreatDoorCards
import Derived.Test.YtejjjenjnfaopaaGreatDoorTie
import Derived.Test.YtejjjenjnfaopaaGreatDoorOp
import Derived.Test.YtejjjenjnfaopaaGreatDoorGq
import Derived.WalkKit
import Derived.ProofKit
import Derived.OpenShut
import Derived.ShutString
import Derived.ChangeOld
import Derived.Below
import Derived.SizedLaws
import Derived.LaidMore
import Derived.Lay
import Derived.SevenTiedAt
import Derived.Stop.Joined
import Derived.Deep.DeepHandedRow
import Derived.Lib.LaidTab
namespace Go.Proofs.YtejjjenjnfaopaaGreatDoor.fnListsNamed
open Go.ChangeShapes Go.WideShapes Go.ChangeAt Go.RowKit Go.Proofs.YtejjjenjnfaopaaGreatDoor.P
open Go.ChangeMaps (open_string shut_string)
set_option linter.unusedVariables false
set_option maxHeartbeats 4000000
theorem own : ownKnob Tryz.prog.godebug = none := by kernel_rfl
theorem laidOut : laidOutB Tryz.prog = true := by kernel_rfl
set_option maxRecDepth 100000 in
theorem contract (H : Type) (enc : TypeId × Value → H) (W : World) (base : Nat) (args : Array Value) (ds gs : List (DataW H)) (before : List MemPlace)
    (hval : ∀ (j : Nat) t v, Tryz.f5.params[j]? = some t → args[j]? = some v → Value.okWide Tryz.prog W .any base t v)
    (hW : DataW.Whole enc Tryz.prog Tryz.f5.params.toList Rows.fnListsNamedSpec.vars false W args.toList ds gs before) (hU : Rows.uptoSmall H (ds ++ gs) = true) :
    Calls Tryz.prog 5 args W fun e W' => ∃ v, e = .returned v ∧ Rows.fnListsNamedSpec.post enc Tryz.prog Tryz.f5 false true false false W args v W' := by
  have hW' := hW
  obtain ⟨p, q, hA0, hV, rfl, hfz, hnd⟩ := hW
  have hA : DataW.TrodAll enc Tryz.prog W 0 (fun _ => true) true Tryz.f5.params.toList args.toList ds p := hA0
  rw [Tryz.params5] at hA hval
  obtain ⟨v0, vs0, d0, ds0, p0, q0, hargs, rfl, rfl, h0, r0⟩ := trodAll_cons hA
  obtain ⟨v1, vs1, d1, ds1, p1, q1, rfl, rfl, rfl, h1, r1⟩ := trodAll_cons r0
  obtain ⟨rfl, rfl, rfl⟩ := trodAll_nil r1
  obtain rfl : args = #[v0, v1] := by cases args; simp_all
  obtain ⟨rfl, rfl⟩ := trodVars_none hV
  obtain ⟨a0, len0, cap0, rfl⟩ := okWide_slice Tryz.underlying22 (hval 0 22 v0 rfl rfl)
  have k0 := h0
  have lt0 : ∀ x ∈ p0, x.block < W.heap.size := by obtain ⟨m, hm⟩ := k0; exact DataW.trod_lt m _ _ _ hm
  obtain ⟨fuel0, hf0⟩ := h0
  obtain ⟨l0, ⟨A0, c0, e0, hc0, hr0⟩, hb0⟩ := opens_steps H enc W _ _ fuel0 _ _ hf0

  have e0' : Value.slice a0 len0 cap0 = .slice A0 l0.length c0 := by simpa [Value.cells] using e0
  injection e0' with x0 y0 z0
  subst x0 y0 z0
  obtain ⟨a1, rfl, rfl, rfl, w1⟩ := open_int Tryz.underlying5 (hval 1 5 v1 rfl rfl) h1
  have u0 : Rows.uptoBulk d0 ≤ 1048576 := by
    have h := of_decide_eq_true hU
    simp only [Rows.uptoBulkAll, List.append_nil] at h
    omega
  obtain ⟨k, hk⟩ := named_law l0 a1 w1 (Nat.le_trans hb0 u0)
  refine (laws_FnListsNamed.calls k _ _ l0 a1 true W hr0 hc0 hk).mono fun e W' ⟨he, bel⟩ => ?_
  subst he
  exact ⟨_, rfl, _, _, _, [], _, [], hW', trodAll_mk1 (shut_bool Tryz.underlying4 _), (trodAll_cons_mk (Below.trod laidOut (by kernel_rfl) (of_decide_eq_true (by kernel_rfl)) k0 bel lt0) (trodAll_cons_mk (shut_int Tryz.underlying5 w1) trodAll_mk0)), rfl, bel.frame _, fun h => by cases h⟩
set_option maxRecDepth 100000 in
theorem lifted (os : Os) (started : os.Started) (H : Type) (enc : TypeId × Value → H) (F : Stop.Interp) :
    ReturnsInHanded {} Tryz.checked os 5 .any ((Rows.OpenSpec.upto Rows.fnListsNamedSpec).preRow enc Tryz.prog Tryz.f5 Rows.fnListsNamedUptoRow.domain false Rows.fnListsNamedUptoRow.laid) (((Rows.OpenSpec.upto Rows.fnListsNamedSpec).at F).post enc Tryz.prog Tryz.f5 false true false false) := by
  have hx : DataW.whole enc Tryz.prog ((World.laidAll Tryz.prog os Rows.fnListsNamedUptoRow.laid).forCall (fun _ _ => 0) ⟨#[], #[.slice none 0 0, .int .u8 0], []⟩).memory Tryz.f5.params.toList Rows.fnListsNamedSpec.vars false #[.slice none 0 0, .int .u8 0].toList 8 = some ([.nil, .lit (.int .u8 0)], [], []) := by kernel_rfl
  have hok : Input.okWideB Tryz.prog ((World.laidAll Tryz.prog os Rows.fnListsNamedUptoRow.laid).forCall (fun _ _ => 0) ⟨#[], #[.slice none 0 0, .int .u8 0], []⟩) 5 ⟨#[], #[.slice none 0 0, .int .u8 0], []⟩ = true := by kernel_rfl
  refine returnsInHanded_of_row (C := Tryz.checked) (s := Rows.OpenSpec.upto Rows.fnListsNamedSpec) own started (by kernel_rfl) Tryz.func5
    ⟨World.laidAll Tryz.prog os Rows.fnListsNamedUptoRow.laid, fun _ _ => 0, ⟨#[], #[.slice none 0 0, .int .u8 0], []⟩, World.laidAll_os _ _ _, World.shaped_of_ZipB (by kernel_rfl) (by kernel_rfl), (Input.okWide_of_okWideB (base := 0) hok).1, (Input.okWide_of_okWideB hok).2,
      OpenSpec.preRow_of_cond 8 hx (by kernel_rfl) (fun k hk => by cases hk; kernel_rfl) (by kernel_rfl) (laidMet_laidAll _ (by kernel_rfl) (by kernel_rfl)), by
      simp only [Assume.holds]
      exact ⟨by simp, by simp, fun _ => Modest.zero, by simp, by simp⟩⟩ ?_
  intro W base args ds gs before hval hW _ hcond _ _ _ _
  exact contract H enc W base args ds gs before hval hW (hcond _ rfl)
theorem said : Rows.FnListsNamedUptoSaid :=
  OpenClaim.holds_of_cond 5 Tryz.f5 rfl rfl rfl rfl rfl rfl rfl ⟨rfl, rfl, rfl, rfl, rfl⟩ rfl rfl rfl rfl rfl (by kernel_rfl) Tryz.func5 (by kernel_rfl)
    (of_decide_eq_true (by kernel_rfl)) (by unfold Func.isWrapper; first | (rw [if_pos (by decide +kernel)]; kernel_rfl) | (rw [if_neg (by decide +kernel)]; exact ⟨rfl, rfl⟩))
    (fun os started H enc _ F => by rw [OpenClaim.pre_eq_preRow]; exact lifted os started H enc F)
theorem plain (f : FuncId) (fn : Func) (hf : Tryz.pinned.checked.prog.funcNamed "pub-tattersall/laws.FnListsNamed" = some f) (hfn : Tryz.pinned.checked.prog.funcs[f]? = some fn) :
    true = Tryz.pinned.checked.prog.looks [] ∧ ∀ (j : Nat) t, fn.params[j]? = some t → Tryz.pinned.checked.prog.wantsStandIn t = false := by
  obtain rfl : f = 5 := Option.some.inj ((show Tryz.prog.funcNamed "pub-tattersall/laws.FnListsNamed" = some 5 by kernel_rfl).symm.trans hf) |>.symm
  obtain rfl : fn = Tryz.f5 := (Option.some.inj (Tryz.func5.symm.trans hfn)).symm
  refine ⟨by kernel_rfl, fun j t ht => ?_⟩
  rw [Tryz.params5] at ht
  have hm := Array.mem_of_getElem? ht
  simp only [List.mem_toArray, List.mem_cons, List.not_mem_nil, or_false] at hm
  rcases hm with rfl | rfl
  all_goals exact (show Tryz.prog.wantsStandIn _ = false by kernel_rfl)
theorem card : Rows.FnListsNamedUptoCardSaid :=
  Claim7.holds_tied_plain_at .later [] _ _ _ _ said (fun _ h => by cases h) (by kernel_rfl) (fun _ h => by cases h) fnListsNamedUpto_row_tie rfl ⟨rfl, rfl⟩ (by kernel_rfl) rfl plain (by kernel_rfl)
#print axioms card
end Go.Proofs.YtejjjenjnfaopaaGreatDoor.fnListsNamed
