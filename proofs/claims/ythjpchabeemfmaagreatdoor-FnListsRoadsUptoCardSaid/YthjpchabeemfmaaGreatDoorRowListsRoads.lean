/- The row and the card of the law FnListsRoads, out of its contract. (The listed tables are laid in the witness; the call does not read them.) -/
import Derived.Test.YthjpchabeemfmaaGreatDoorCards
import Derived.Test.YthjpchabeemfmaaGreatDoorTie
import Derived.Test.YthjpchabeemfmaaGreatDoorOp
import Derived.Test.YthjpchabeemfmaaGreatDoorQe
import Derived.WalkKit
import Derived.ProofKit
import Derived.OpenShut
import Derived.ShutString
import Derived.ChangeOld
import Derived.Below
import Derived.SizedLaws
import Derived.LaidMore
import Derived.Lay
import Derived.SevenTiedAt
import Derived.Stop.Joined
import Derived.Deep.DeepHandedRow
import Derived.Lib.LaidTab
namespace Go.Proofs.YthjpchabeemfmaaGreatDoor.fnListsRoads
open Go.ChangeShapes Go.WideShapes Go.ChangeAt Go.RowKit Go.Proofs.YthjpchabeemfmaaGreatDoor.P
open Go.ChangeMaps (open_string shut_string)
set_option linter.unusedVariables false
set_option maxHeartbeats 4000000
theorem own : ownKnob Tryz.prog.godebug = none := by kernel_rfl
theorem laidOut : laidOutB Tryz.prog = true := by kernel_rfl
set_option maxRecDepth 100000 in
theorem contract (H : Type) (enc : TypeId × Value → H) (W : World) (base : Nat) (args : Array Value) (ds gs : List (DataW H)) (before : List MemPlace)
    (hval : ∀ (j : Nat) t v, Tryz.f3.params[j]? = some t → args[j]? = some v → Value.okWide Tryz.prog W .any base t v)
    (hW : DataW.Whole enc Tryz.prog Tryz.f3.params.toList Rows.fnListsRoadsSpec.vars false W args.toList ds gs before) (hU : Rows.uptoSmall H (ds ++ gs) = true) :
    Calls Tryz.prog 3 args W fun e W' => ∃ v, e = .returned v ∧ Rows.fnListsRoadsSpec.post enc Tryz.prog Tryz.f3 false true false false W args v W' := by
  have hW' := hW
  obtain ⟨p, q, hA0, hV, rfl, hfz, hnd⟩ := hW
  have hA : DataW.TrodAll enc Tryz.prog W 0 (fun _ => true) true Tryz.f3.params.toList args.toList ds p := hA0
  rw [Tryz.params3] at hA hval
  obtain ⟨v0, vs0, d0, ds0, p0, q0, hargs, rfl, rfl, h0, r0⟩ := trodAll_cons hA
  obtain ⟨v1, vs1, d1, ds1, p1, q1, rfl, rfl, rfl, h1, r1⟩ := trodAll_cons r0
  obtain ⟨v2, vs2, d2, ds2, p2, q2, rfl, rfl, rfl, h2, r2⟩ := trodAll_cons r1
  obtain ⟨rfl, rfl, rfl⟩ := trodAll_nil r2
  obtain rfl : args = #[v0, v1, v2] := by cases args; simp_all
  obtain ⟨rfl, rfl⟩ := trodVars_none hV
  obtain ⟨a0, len0, cap0, rfl⟩ := okWide_slice Tryz.underlying22 (hval 0 22 v0 rfl rfl)
  have k0 := h0
  have lt0 : ∀ x ∈ p0, x.block < W.heap.size := by obtain ⟨m, hm⟩ := k0; exact DataW.trod_lt m _ _ _ hm
  obtain ⟨fuel0, hf0⟩ := h0
  obtain ⟨l0, ⟨A0, c0, e0, hc0, hr0⟩, hb0⟩ := opens_steps H enc W _ _ fuel0 _ _ hf0

  have e0' : Value.slice a0 len0 cap0 = .slice A0 l0.length c0 := by simpa [Value.cells] using e0
  injection e0' with x0 y0 z0
  subst x0 y0 z0
  obtain ⟨cs1, rfl, _⟩ := okWide_struct Tryz.underlying24 (hval 1 24 v1 rfl rfl)
  have k1 := h1
  have lt1 : ∀ x ∈ p1, x.block < W.heap.size := by obtain ⟨m, hm⟩ := k1; exact DataW.trod_lt m _ _ _ hm
  obtain ⟨fuel1, hf1⟩ := h1
  obtain ⟨s1, hn1, e1⟩ := opens_style H enc W _ _ fuel1 _ _ hf1
  have e1' : cs1.toList = _ := (show cs1.toList = (Value.agg cs1).cells.toList by simp [Value.cells]).trans e1
  have g1 := congrArg List.toArray e1'
  rw [Array.toArray_toList] at g1
  subst g1
  obtain ⟨cs2, rfl, _⟩ := okWide_struct Tryz.underlying24 (hval 2 24 v2 rfl rfl)
  have k2 := h2
  have lt2 : ∀ x ∈ p2, x.block < W.heap.size := by obtain ⟨m, hm⟩ := k2; exact DataW.trod_lt m _ _ _ hm
  obtain ⟨fuel2, hf2⟩ := h2
  obtain ⟨s2, hn2, e2⟩ := opens_style H enc W _ _ fuel2 _ _ hf2
  have e2' : cs2.toList = _ := (show cs2.toList = (Value.agg cs2).cells.toList by simp [Value.cells]).trans e2
  have g2 := congrArg List.toArray e2'
  rw [Array.toArray_toList] at g2
  subst g2
  have u0 : Rows.uptoBulk d0 ≤ 1048576 := by
    have h := of_decide_eq_true hU
    simp only [Rows.uptoBulkAll, List.append_nil] at h
    omega
  obtain ⟨k, hk⟩ := roads_upto l0 s1.fmt (S s1.single) (S s1.top) (S s1.first) (S s1.middle) (S s1.vert) (S s1.bottom) (S s1.newline) (S s1.pre) s2.fmt (S s2.single) (S s2.top) (S s2.first) (S s2.middle) (S s2.vert) (S s2.bottom) (S s2.newline) (S s2.pre) (Nat.le_trans hb0 u0)
  refine (laws_FnListsRoads.calls k _ _ l0 s1.fmt (S s1.single) (S s1.top) (S s1.first) (S s1.middle) (S s1.vert) (S s1.bottom) (S s1.newline) (S s1.pre) s2.fmt (S s2.single) (S s2.top) (S s2.first) (S s2.middle) (S s2.vert) (S s2.bottom) (S s2.newline) (S s2.pre) true W hr0 hc0 hk).mono fun e W' ⟨he, bel⟩ => ?_
  subst he
  exact ⟨_, rfl, _, _, _, [], _, [], hW', trodAll_mk1 (shut_bool Tryz.underlying4 _), (trodAll_cons_mk (Below.trod laidOut (by kernel_rfl) (of_decide_eq_true (by kernel_rfl)) k0 bel lt0) (trodAll_cons_mk (Below.trod laidOut (by kernel_rfl) (of_decide_eq_true (by kernel_rfl)) k1 bel lt1) (trodAll_cons_mk (Below.trod laidOut (by kernel_rfl) (of_decide_eq_true (by kernel_rfl)) k2 bel lt2) trodAll_mk0))), rfl, bel.frame _, fun h => by cases h⟩
set_option maxRecDepth 100000 in
theorem lifted (os : Os) (started : os.Started) (H : Type) (enc : TypeId × Value → H) (F : Stop.Interp) :
    ReturnsInHanded {} Tryz.checked os 3 .any ((Rows.OpenSpec.upto Rows.fnListsRoadsSpec).preRow enc Tryz.prog Tryz.f3 Rows.fnListsRoadsUptoRow.domain false Rows.fnListsRoadsUptoRow.laid) (((Rows.OpenSpec.upto Rows.fnListsRoadsSpec).at F).post enc Tryz.prog Tryz.f3 false true false false) := by
  have hx : DataW.whole enc Tryz.prog ((World.laidAll Tryz.prog os Rows.fnListsRoadsUptoRow.laid).forCall (fun _ _ => 0) ⟨#[], #[.slice none 0 0, .agg #[.int .i64 0, .string ByteArray.empty, .string ByteArray.empty, .string ByteArray.empty, .string ByteArray.empty, .string ByteArray.empty, .string ByteArray.empty, .string ByteArray.empty, .string ByteArray.empty], .agg #[.int .i64 0, .string ByteArray.empty, .string ByteArray.empty, .string ByteArray.empty, .string ByteArray.empty, .string ByteArray.empty, .string ByteArray.empty, .string ByteArray.empty, .string ByteArray.empty]], []⟩).memory Tryz.f3.params.toList Rows.fnListsRoadsSpec.vars false #[.slice none 0 0, .agg #[.int .i64 0, .string ByteArray.empty, .string ByteArray.empty, .string ByteArray.empty, .string ByteArray.empty, .string ByteArray.empty, .string ByteArray.empty, .string ByteArray.empty, .string ByteArray.empty], .agg #[.int .i64 0, .string ByteArray.empty, .string ByteArray.empty, .string ByteArray.empty, .string ByteArray.empty, .string ByteArray.empty, .string ByteArray.empty, .string ByteArray.empty, .string ByteArray.empty]].toList 8 = some ([.nil, .agg [.lit (.int .i64 0), .lit (.string []), .lit (.string []), .lit (.string []), .lit (.string []), .lit (.string []), .lit (.string []), .lit (.string []), .lit (.string [])], .agg [.lit (.int .i64 0), .lit (.string []), .lit (.string []), .lit (.string []), .lit (.string []), .lit (.string []), .lit (.string []), .lit (.string []), .lit (.string [])]], [], []) := by kernel_rfl
  have hok : Input.okWideB Tryz.prog ((World.laidAll Tryz.prog os Rows.fnListsRoadsUptoRow.laid).forCall (fun _ _ => 0) ⟨#[], #[.slice none 0 0, .agg #[.int .i64 0, .string ByteArray.empty, .string ByteArray.empty, .string ByteArray.empty, .string ByteArray.empty, .string ByteArray.empty, .string ByteArray.empty, .string ByteArray.empty, .string ByteArray.empty], .agg #[.int .i64 0, .string ByteArray.empty, .string ByteArray.empty, .string ByteArray.empty, .string ByteArray.empty, .string ByteArray.empty, .string ByteArray.empty, .string ByteArray.empty, .string ByteArray.empty]], []⟩) 3 ⟨#[], #[.slice none 0 0, .agg #[.int .i64 0, .string ByteArray.empty, .string ByteArray.empty, .string ByteArray.empty, .string ByteArray.empty, .string ByteArray.empty, .string ByteArray.empty, .string ByteArray.empty, .string ByteArray.empty], .agg #[.int .i64 0, .string ByteArray.empty, .string ByteArray.empty, .string ByteArray.empty, .string ByteArray.empty, .string ByteArray.empty, .string ByteArray.empty, .string ByteArray.empty, .string ByteArray.empty]], []⟩ = true := by kernel_rfl
  refine returnsInHanded_of_row (C := Tryz.checked) (s := Rows.OpenSpec.upto Rows.fnListsRoadsSpec) own started (by kernel_rfl) Tryz.func3
    ⟨World.laidAll Tryz.prog os Rows.fnListsRoadsUptoRow.laid, fun _ _ => 0, ⟨#[], #[.slice none 0 0, .agg #[.int .i64 0, .string ByteArray.empty, .string ByteArray.empty, .string ByteArray.empty, .string ByteArray.empty, .string ByteArray.empty, .string ByteArray.empty, .string ByteArray.empty, .string ByteArray.empty], .agg #[.int .i64 0, .string ByteArray.empty, .string ByteArray.empty, .string ByteArray.empty, .string ByteArray.empty, .string ByteArray.empty, .string ByteArray.empty, .string ByteArray.empty, .string ByteArray.empty]], []⟩, World.laidAll_os _ _ _, World.shaped_of_ZipB (by kernel_rfl) (by kernel_rfl), (Input.okWide_of_okWideB (base := 0) hok).1, (Input.okWide_of_okWideB hok).2,
      OpenSpec.preRow_of_cond 8 hx (by kernel_rfl) (fun k hk => by cases hk; kernel_rfl) (by kernel_rfl) (laidMet_laidAll _ (by kernel_rfl) (by kernel_rfl)), by
      simp only [Assume.holds]
      exact ⟨by simp, by simp, fun _ => Modest.zero, by simp, by simp⟩⟩ ?_
  intro W base args ds gs before hval hW _ hcond _ _ _ _
  exact contract H enc W base args ds gs before hval hW (hcond _ rfl)
theorem said : Rows.FnListsRoadsUptoSaid :=
  OpenClaim.holds_of_cond 3 Tryz.f3 rfl rfl rfl rfl rfl rfl rfl ⟨rfl, rfl, rfl, rfl, rfl⟩ rfl rfl rfl rfl rfl (by kernel_rfl) Tryz.func3 (by kernel_rfl)
    (of_decide_eq_true (by kernel_rfl)) (by unfold Func.isWrapper; first | (rw [if_pos (by decide +kernel)]; kernel_rfl) | (rw [if_neg (by decide +kernel)]; exact ⟨rfl, rfl⟩))
    (fun os started H enc _ F => by rw [OpenClaim.pre_eq_preRow]; exact lifted os started H enc F)
theorem plain (f : FuncId) (fn : Func) (hf : Tryz.pinned.checked.prog.funcNamed "pub-tattersall/laws.FnListsRoads" = some f) (hfn : Tryz.pinned.checked.prog.funcs[f]? = some fn) :
    true = Tryz.pinned.checked.prog.looks [] ∧ ∀ (j : Nat) t, fn.params[j]? = some t → Tryz.pinned.checked.prog.wantsStandIn t = false := by
  obtain rfl : f = 3 := Option.some.inj ((show Tryz.prog.funcNamed "pub-tattersall/laws.FnListsRoads" = some 3 by kernel_rfl).symm.trans hf) |>.symm
  obtain rfl : fn = Tryz.f3 := (Option.some.inj (Tryz.func3.symm.trans hfn)).symm
  refine ⟨by kernel_rfl, fun j t ht => ?_⟩
  rw [Tryz.params3] at ht
  have hm := Array.mem_of_getElem? ht
  simp only [List.mem_toArray, List.mem_cons, List.not_mem_nil, or_false] at hm
  rcases hm with rfl | rfl | rfl
  all_goals exact (show Tryz.prog.wantsStandIn _ = false by kernel_rfl)
theorem card : Rows.FnListsRoadsUptoCardSaid :=
  Claim7.holds_tied_plain_at .later [] _ _ _ _ said (fun _ h => by cases h) (by kernel_rfl) (fun _ h => by cases h) fnListsRoadsUpto_row_tie rfl ⟨rfl, rfl⟩ (by kernel_rfl) rfl plain (by kernel_rfl)
#print axioms card
end Go.Proofs.YthjpchabeemfmaaGreatDoor.fnListsRoads
