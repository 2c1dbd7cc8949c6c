/- Printed by a program of this session (pf.sh): Go functions as Lean functions, with their contracts. -/
import Derived.Test.YthjpchabeemfmaaGreatDoorPx0
import Derived.Test.YthjpchabeemfmaaGreatDoorPx2
import Derived.Test.YthjpchabeemfmaaGreatDoorPx3
import Derived.Test.YthjpchabeemfmaaGreatDoorPx5
import Derived.Test.YthjpchabeemfmaaGreatDoorPx6
import Derived.Test.YthjpchabeemfmaaGreatDoorPx7
import Derived.Test.YthjpchabeemfmaaGreatDoorPx8
import Derived.Test.YthjpchabeemfmaaGreatDoorPx9
import Derived.Test.YthjpchabeemfmaaGreatDoorFf
import Derived.Test.YthjpchabeemfmaaGreatDoorFz
namespace Go.Proofs.YthjpchabeemfmaaGreatDoor.P
open Go.RowKit Go.Proofs.YthjpchabeemfmaaGreatDoorW.PrintWords Go.Proofs.YthjpchabeemfmaaGreatDoorW.PrintLast Go.Proofs.YthjpchabeemfmaaGreatDoorW.PrintMore
attribute [local go_sem] max2_int min2_int max_two min_two max_three min_three max_four min_four   -- for this text's walks alone
set_option linter.unusedVariables false
set_option linter.unusedSimpArgs false

/-! ### laws_FnListsRoads: function 3 -/
mutual
def laws_FnListsRoads.j0 : Nat → List (S39) → Bool → Int → ByteArray → ByteArray → ByteArray → ByteArray → ByteArray → ByteArray → ByteArray → ByteArray → Int → ByteArray → ByteArray → ByteArray → ByteArray → ByteArray → ByteArray → ByteArray → ByteArray → Option (Bool)
 | 0, _, _, _, _, _, _, _, _, _, _, _, _, _, _, _, _, _, _, _, _ => none
 | k + 1, x0, x28, x186000, x186001, x186002, x186003, x186004, x186005, x186006, x186007, x186008, x187000, x187001, x187002, x187003, x187004, x187005, x187006, x187007, x187008 => if x28 = true then (some true) else ((spec_LtPlayed.f k x0).bind fun t190 => ((spec_LtRight.f k x0).bind fun t193 => (if t193 = true then (if (t190.length : Int) = 0 then (laws_FnListsRoads.j1 k x0 true x186000 x186001 x186002 x186003 x186004 x186005 x186006 x186007 x186008 x187000 x187001 x187002 x187003 x187004 x187005 x187006 x187007 x187008) else ((spec_LsNames.f k t190).bind fun t194 => (if t194 = true then ((spec_LsStyled.f x186000 x186001 x186002 x186003 x186004 x186005 x186006 x186007 x186008).bind fun t195 => (if t195 = true then ((spec_LsStyled.f x187000 x187001 x187002 x187003 x187004 x187005 x187006 x187007 x187008).bind fun t196 => (if t196 = true then ((spec_LsClear.f k x186000 x186001 x186002 x186003 x186004 x186005 x186006 x186007 x186008).bind fun t197 => (if t197 = true then ((spec_LsClear.f k x187000 x187001 x187002 x187003 x187004 x187005 x187006 x187007 x187008).bind fun t198 => (laws_FnListsRoads.j1 k x0 (!t198) x186000 x186001 x186002 x186003 x186004 x186005 x186006 x186007 x186008 x187000 x187001 x187002 x187003 x187004 x187005 x187006 x187007 x187008)) else (laws_FnListsRoads.j1 k x0 true x186000 x186001 x186002 x186003 x186004 x186005 x186006 x186007 x186008 x187000 x187001 x187002 x187003 x187004 x187005 x187006 x187007 x187008))) else (laws_FnListsRoads.j1 k x0 true x186000 x186001 x186002 x186003 x186004 x186005 x186006 x186007 x186008 x187000 x187001 x187002 x187003 x187004 x187005 x187006 x187007 x187008))) else (laws_FnListsRoads.j1 k x0 true x186000 x186001 x186002 x186003 x186004 x186005 x186006 x186007 x186008 x187000 x187001 x187002 x187003 x187004 x187005 x187006 x187007 x187008))) else (laws_FnListsRoads.j1 k x0 true x186000 x186001 x186002 x186003 x186004 x186005 x186006 x186007 x186008 x187000 x187001 x187002 x187003 x187004 x187005 x187006 x187007 x187008)))) else (laws_FnListsRoads.j1 k x0 true x186000 x186001 x186002 x186003 x186004 x186005 x186006 x186007 x186008 x187000 x187001 x187002 x187003 x187004 x187005 x187006 x187007 x187008))))
def laws_FnListsRoads.j1 : Nat → List (S39) → Bool → Int → ByteArray → ByteArray → ByteArray → ByteArray → ByteArray → ByteArray → ByteArray → ByteArray → Int → ByteArray → ByteArray → ByteArray → ByteArray → ByteArray → ByteArray → ByteArray → ByteArray → Option (Bool)
 | 0, _, _, _, _, _, _, _, _, _, _, _, _, _, _, _, _, _, _, _, _ => none
 | k + 1, x0, x63, x186000, x186001, x186002, x186003, x186004, x186005, x186006, x186007, x186008, x187000, x187001, x187002, x187003, x187004, x187005, x187006, x187007, x187008 => if x63 = true then (some true) else ((impl_ListRender.f x0 x186000 x186001 x186002 x186003 x186004 x186005 x186006 x186007 x186008).bind fun t199 => ((spec_LsBack.f k t199 x186000 x186001 x186002 x186003 x186004 x186005 x186006 x186007 x186008).bind fun bt200 => ((impl_ListRender.f x0 x187000 x187001 x187002 x187003 x187004 x187005 x187006 x187007 x187008).bind fun t204 => ((spec_LsBack.f k t204 x187000 x187001 x187002 x187003 x187004 x187005 x187006 x187007 x187008).bind fun bt205 => ((impl_ListMarkdown.f x0 x186000 x186001 x186002 x186003 x186004 x186005 x186006 x186007 x186008).bind fun t209 => ((spec_LtMarkdownBack.f k t209).bind fun bt210 => ((impl_ListHTML.f x0 (⟨#[]⟩ : ByteArray)).bind fun t214 => ((spec_LtHTMLBack.f k t214).bind fun bt215 => (if bt200.2 = true then (if bt205.2 = true then (if bt210.2 = true then (if bt215.2 = true then (if (bt200.1.length : Int) > 0 then ((spec_LsSame.f k bt200.1 bt205.1).bind fun t219 => (if t219 = true then ((spec_LsSame.f k bt205.1 bt210.1).bind fun t220 => (if t220 = true then ((spec_LsSame.f k bt210.1 bt215.1).bind fun t221 => (some t221)) else (some false))) else (some false))) else (some false)) else (some false)) else (some false)) else (some false)) else (some false))))))))))
end
def laws_FnListsRoads.f (k : Nat) (l0 : List (S39)) (a1_0 : Int) (a1_1 : ByteArray) (a1_2 : ByteArray) (a1_3 : ByteArray) (a1_4 : ByteArray) (a1_5 : ByteArray) (a1_6 : ByteArray) (a1_7 : ByteArray) (a1_8 : ByteArray) (a2_0 : Int) (a2_1 : ByteArray) (a2_2 : ByteArray) (a2_3 : ByteArray) (a2_4 : ByteArray) (a2_5 : ByteArray) (a2_6 : ByteArray) (a2_7 : ByteArray) (a2_8 : ByteArray) : Option (Bool) := (laws_zzFits11.f k l0).bind fun t187 => (if t187 = true then ((laws_zzFits14.f a1_0 a1_1 a1_2 a1_3 a1_4 a1_5 a1_6 a1_7 a1_8).bind fun t188 => (if t188 = true then ((laws_zzFits14.f a2_0 a2_1 a2_2 a2_3 a2_4 a2_5 a2_6 a2_7 a2_8).bind fun t189 => (laws_FnListsRoads.j0 k l0 (!t189) a1_0 a1_1 a1_2 a1_3 a1_4 a1_5 a1_6 a1_7 a1_8 a2_0 a2_1 a2_2 a2_3 a2_4 a2_5 a2_6 a2_7 a2_8)) else (laws_FnListsRoads.j0 k l0 true a1_0 a1_1 a1_2 a1_3 a1_4 a1_5 a1_6 a1_7 a1_8 a2_0 a2_1 a2_2 a2_3 a2_4 a2_5 a2_6 a2_7 a2_8))) else (laws_FnListsRoads.j0 k l0 true a1_0 a1_1 a1_2 a1_3 a1_4 a1_5 a1_6 a1_7 a1_8 a2_0 a2_1 a2_2 a2_3 a2_4 a2_5 a2_6 a2_7 a2_8))
theorem laws_FnListsRoads.mono_l : ∀ k, (∀ y0 y1 y2 y3 y4 y5 y6 y7 y8 y9 y10 y11 y12 y13 y14 y15 y16 y17 y18 y19, LeO (laws_FnListsRoads.j0 k y0 y1 y2 y3 y4 y5 y6 y7 y8 y9 y10 y11 y12 y13 y14 y15 y16 y17 y18 y19) (laws_FnListsRoads.j0 (k + 1) y0 y1 y2 y3 y4 y5 y6 y7 y8 y9 y10 y11 y12 y13 y14 y15 y16 y17 y18 y19)) ∧ (∀ y0 y1 y2 y3 y4 y5 y6 y7 y8 y9 y10 y11 y12 y13 y14 y15 y16 y17 y18 y19, LeO (laws_FnListsRoads.j1 k y0 y1 y2 y3 y4 y5 y6 y7 y8 y9 y10 y11 y12 y13 y14 y15 y16 y17 y18 y19) (laws_FnListsRoads.j1 (k + 1) y0 y1 y2 y3 y4 y5 y6 y7 y8 y9 y10 y11 y12 y13 y14 y15 y16 y17 y18 y19))
 | 0 => ⟨fun _ _ _ _ _ _ _ _ _ _ _ _ _ _ _ _ _ _ _ _ r h => by simp [laws_FnListsRoads.j0] at h, fun _ _ _ _ _ _ _ _ _ _ _ _ _ _ _ _ _ _ _ _ r h => by simp [laws_FnListsRoads.j1] at h⟩
 | k + 1 => by
  obtain ⟨ih0, ih1⟩ := laws_FnListsRoads.mono_l k
  refine ⟨?_, ?_⟩
  ·intro y0 y1 y2 y3 y4 y5 y6 y7 y8 y9 y10 y11 y12 y13 y14 y15 y16 y17 y18 y19
   unfold laws_FnListsRoads.j0
   repeat' first
   | (with_reducible exact ih0 _ _ _ _ _ _ _ _ _ _ _ _ _ _ _ _ _ _ _ _)
   | (with_reducible exact ih1 _ _ _ _ _ _ _ _ _ _ _ _ _ _ _ _ _ _ _ _)
   | (with_reducible exact laws_zzFits11.mono _ _)
   | (with_reducible exact spec_LsBack.mono _ _ _ _ _ _ _ _ _ _ _)
   | (with_reducible exact spec_LsClear.mono _ _ _ _ _ _ _ _ _ _)
   | (with_reducible exact spec_LsNames.mono _ _)
   | (with_reducible exact spec_LsSame.mono _ _ _)
   | (with_reducible exact spec_LtHTMLBack.mono _ _)
   | (with_reducible exact spec_LtMarkdownBack.mono _ _)
   | (with_reducible exact spec_LtPlayed.mono _ _)
   | (with_reducible exact spec_LtRight.mono _ _)
   | (with_reducible exact LeO.refl _)
   | (with_reducible exact LeO.none _)
   | (with_reducible refine LeO.ite ?_ ?_)
   | (with_reducible refine LeO.bind ?_ (fun _ => ?_))
   | exact ih0 _ _ _ _ _ _ _ _ _ _ _ _ _ _ _ _ _ _ _ _
   | exact ih1 _ _ _ _ _ _ _ _ _ _ _ _ _ _ _ _ _ _ _ _
   | exact laws_zzFits11.mono _ _
   | exact spec_LsBack.mono _ _ _ _ _ _ _ _ _ _ _
   | exact spec_LsClear.mono _ _ _ _ _ _ _ _ _ _
   | exact spec_LsNames.mono _ _
   | exact spec_LsSame.mono _ _ _
   | exact spec_LtHTMLBack.mono _ _
   | exact spec_LtMarkdownBack.mono _ _
   | exact spec_LtPlayed.mono _ _
   | exact spec_LtRight.mono _ _
   | exact LeO.none _
   | refine LeO.ite ?_ ?_
   | refine LeO.bind ?_ (fun _ => ?_)
  ·intro y0 y1 y2 y3 y4 y5 y6 y7 y8 y9 y10 y11 y12 y13 y14 y15 y16 y17 y18 y19
   unfold laws_FnListsRoads.j1
   repeat' first
   | (with_reducible exact ih0 _ _ _ _ _ _ _ _ _ _ _ _ _ _ _ _ _ _ _ _)
   | (with_reducible exact ih1 _ _ _ _ _ _ _ _ _ _ _ _ _ _ _ _ _ _ _ _)
   | (with_reducible exact laws_zzFits11.mono _ _)
   | (with_reducible exact spec_LsBack.mono _ _ _ _ _ _ _ _ _ _ _)
   | (with_reducible exact spec_LsClear.mono _ _ _ _ _ _ _ _ _ _)
   | (with_reducible exact spec_LsNames.mono _ _)
   | (with_reducible exact spec_LsSame.mono _ _ _)
   | (with_reducible exact spec_LtHTMLBack.mono _ _)
   | (with_reducible exact spec_LtMarkdownBack.mono _ _)
   | (with_reducible exact spec_LtPlayed.mono _ _)
   | (with_reducible exact spec_LtRight.mono _ _)
   | (with_reducible exact LeO.refl _)
   | (with_reducible exact LeO.none _)
   | (with_reducible refine LeO.ite ?_ ?_)
   | (with_reducible refine LeO.bind ?_ (fun _ => ?_))
   | exact ih0 _ _ _ _ _ _ _ _ _ _ _ _ _ _ _ _ _ _ _ _
   | exact ih1 _ _ _ _ _ _ _ _ _ _ _ _ _ _ _ _ _ _ _ _
   | exact laws_zzFits11.mono _ _
   | exact spec_LsBack.mono _ _ _ _ _ _ _ _ _ _ _
   | exact spec_LsClear.mono _ _ _ _ _ _ _ _ _ _
   | exact spec_LsNames.mono _ _
   | exact spec_LsSame.mono _ _ _
   | exact spec_LtHTMLBack.mono _ _
   | exact spec_LtMarkdownBack.mono _ _
   | exact spec_LtPlayed.mono _ _
   | exact spec_LtRight.mono _ _
   | exact LeO.none _
   | refine LeO.ite ?_ ?_
   | refine LeO.bind ?_ (fun _ => ?_)
theorem laws_FnListsRoads.mono : ∀ a0 a1 a2 a3 a4 a5 a6 a7 a8 a9 a10 a11 a12 a13 a14 a15 a16 a17 a18 k, LeO (laws_FnListsRoads.f k a0 a1 a2 a3 a4 a5 a6 a7 a8 a9 a10 a11 a12 a13 a14 a15 a16 a17 a18) (laws_FnListsRoads.f (k + 1) a0 a1 a2 a3 a4 a5 a6 a7 a8 a9 a10 a11 a12 a13 a14 a15 a16 a17 a18) := by
 intro a0 a1 a2 a3 a4 a5 a6 a7 a8 a9 a10 a11 a12 a13 a14 a15 a16 a17 a18 k
 obtain ⟨ih0, ih1⟩ := laws_FnListsRoads.mono_l k
 unfold laws_FnListsRoads.f
 repeat' first
   | (with_reducible exact ih0 _ _ _ _ _ _ _ _ _ _ _ _ _ _ _ _ _ _ _ _)
   | (with_reducible exact ih1 _ _ _ _ _ _ _ _ _ _ _ _ _ _ _ _ _ _ _ _)
   | (with_reducible exact laws_zzFits11.mono _ _)
   | (with_reducible exact spec_LsBack.mono _ _ _ _ _ _ _ _ _ _ _)
   | (with_reducible exact spec_LsClear.mono _ _ _ _ _ _ _ _ _ _)
   | (with_reducible exact spec_LsNames.mono _ _)
   | (with_reducible exact spec_LsSame.mono _ _ _)
   | (with_reducible exact spec_LtHTMLBack.mono _ _)
   | (with_reducible exact spec_LtMarkdownBack.mono _ _)
   | (with_reducible exact spec_LtPlayed.mono _ _)
   | (with_reducible exact spec_LtRight.mono _ _)
   | (with_reducible exact LeO.refl _)
   | (with_reducible exact LeO.none _)
   | (with_reducible refine LeO.ite ?_ ?_)
   | (with_reducible refine LeO.bind ?_ (fun _ => ?_))
   | exact ih0 _ _ _ _ _ _ _ _ _ _ _ _ _ _ _ _ _ _ _ _
   | exact ih1 _ _ _ _ _ _ _ _ _ _ _ _ _ _ _ _ _ _ _ _
   | exact laws_zzFits11.mono _ _
   | exact spec_LsBack.mono _ _ _ _ _ _ _ _ _ _ _
   | exact spec_LsClear.mono _ _ _ _ _ _ _ _ _ _
   | exact spec_LsNames.mono _ _
   | exact spec_LsSame.mono _ _ _
   | exact spec_LtHTMLBack.mono _ _
   | exact spec_LtMarkdownBack.mono _ _
   | exact spec_LtPlayed.mono _ _
   | exact spec_LtRight.mono _ _
   | exact LeO.none _
   | refine LeO.ite ?_ ?_
   | refine LeO.bind ?_ (fun _ => ?_)
def laws_FnListsRoads.T6 : Bool × List (List Nat × List Nat) := (true, [([], []), ([], []), ([0, 1], [0, 1]), ([], []), ([2, 3, 2], [2, 3]), ([4], [4]), ([5], [5]), ([5], [5]), ([6, 4, 0, 1, 2, 3, 4, 5, 6], [6]), ([7, 8, 0, 1, 2, 3, 4, 5, 6, 7, 8], [7])])
def laws_FnListsRoads.B6 : List Nat := [0, 0, 3, 0, 15, 31, 63, 63, 127, 511]
theorem laws_FnListsRoads.tab6 : rtab .any (opsOf Tryz.f3 6) = laws_FnListsRoads.T6 := by kernel_rfl
theorem laws_FnListsRoads.bits6 : waitsOk laws_FnListsRoads.T6.2 laws_FnListsRoads.B6 = true := by kernel_rfl
def laws_FnListsRoads.T7 : Bool × List (List Nat × List Nat) := (true, [([], []), ([], []), ([0, 1], [0, 1]), ([], []), ([2, 3, 2], [2, 3]), ([4], [4]), ([5], [5]), ([5], [5]), ([6, 4, 0, 1, 2, 3, 4, 5, 6], [6]), ([7, 8, 0, 1, 2, 3, 4, 5, 6, 7, 8], [7])])
def laws_FnListsRoads.B7 : List Nat := [0, 0, 3, 0, 15, 31, 63, 63, 127, 511]
theorem laws_FnListsRoads.tab7 : rtab .any (opsOf Tryz.f3 7) = laws_FnListsRoads.T7 := by kernel_rfl
theorem laws_FnListsRoads.bits7 : waitsOk laws_FnListsRoads.T7.2 laws_FnListsRoads.B7 = true := by kernel_rfl
set_option maxHeartbeats 8000000 in
set_option maxRecDepth 100000 in
theorem laws_FnListsRoads.calls (k : Nat) (A0 : Option Addr) (c0 : Nat) (l0 : List (S39)) (a1_0 : Int) (a1_1 : ByteArray) (a1_2 : ByteArray) (a1_3 : ByteArray) (a1_4 : ByteArray) (a1_5 : ByteArray) (a1_6 : ByteArray) (a1_7 : ByteArray) (a1_8 : ByteArray) (a2_0 : Int) (a2_1 : ByteArray) (a2_2 : ByteArray) (a2_3 : ByteArray) (a2_4 : ByteArray) (a2_5 : ByteArray) (a2_6 : ByteArray) (a2_7 : ByteArray) (a2_8 : ByteArray) (r : Bool) (w : World) (hr0 : Kd.C k39 w A0 l0.length l0) (hc0 : l0.length ≤ c0) (h : laws_FnListsRoads.f k l0 a1_0 a1_1 a1_2 a1_3 a1_4 a1_5 a1_6 a1_7 a1_8 a2_0 a2_1 a2_2 a2_3 a2_4 a2_5 a2_6 a2_7 a2_8 = some r) :
  Calls Tryz.prog 3 #[.slice A0 l0.length c0, .agg #[.int .i64 a1_0, .string a1_1, .string a1_2, .string a1_3, .string a1_4, .string a1_5, .string a1_6, .string a1_7, .string a1_8], .agg #[.int .i64 a2_0, .string a2_1, .string a2_2, .string a2_3, .string a2_4, .string a2_5, .string a2_6, .string a2_7, .string a2_8]] w fun e w' => e = .returned (.bool r) ∧ Below w.heap.size w w' := by
 have hu24 := Tryz.underlying24
 have HR0 := Aside0.mk hr0
 have HC0 := Aside0.mk hc0
 clear hr0 hc0
 have HB := Aside0.mk (Below.refl w.heap.size w)
 have H : ((laws_zzFits11.f k l0).bind fun t187 => (if t187 = true then ((laws_zzFits14.f a1_0 a1_1 a1_2 a1_3 a1_4 a1_5 a1_6 a1_7 a1_8).bind fun t188 => (if t188 = true then ((laws_zzFits14.f a2_0 a2_1 a2_2 a2_3 a2_4 a2_5 a2_6 a2_7 a2_8).bind fun t189 => (laws_FnListsRoads.j0 k l0 (!t189) a1_0 a1_1 a1_2 a1_3 a1_4 a1_5 a1_6 a1_7 a1_8 a2_0 a2_1 a2_2 a2_3 a2_4 a2_5 a2_6 a2_7 a2_8)) else (laws_FnListsRoads.j0 k l0 true a1_0 a1_1 a1_2 a1_3 a1_4 a1_5 a1_6 a1_7 a1_8 a2_0 a2_1 a2_2 a2_3 a2_4 a2_5 a2_6 a2_7 a2_8))) else (laws_FnListsRoads.j0 k l0 true a1_0 a1_1 a1_2 a1_3 a1_4 a1_5 a1_6 a1_7 a1_8 a2_0 a2_1 a2_2 a2_3 a2_4 a2_5 a2_6 a2_7 a2_8))) = some r := h
 clear h
 have HC4 := Aside0.mk H
 clear H
 go_enter Tryz.func3, Tryz.ntmps3
 go_upto_region 1 with (first | ((with_reducible refine gate_dst (N := 4) rfl ?_); (try (refine gate_guard (by rfl) ?_; dsimp only)); refine box_event ?hg (N := 4) ?hd (cs := #[.int .i64 a1_0, .string a1_1, .string a1_2, .string a1_3, .string a1_4, .string a1_5, .string a1_6, .string a1_7, .string a1_8]) (t := 24) ?hr ?_; (case hd => rfl); (case hg => rfl); (case hr => first | (go_simp; done) | (go_simp; rfl)); intro gb185 hg w5 hbox hb; have n0_ := Aside0.mk (below_step (by repeat (first | (with_reducible first | exact HB.out | apply below_alloc | apply pw_below_drewN | apply below_drew1) | exact HB.out)) hb); have n1_ := Aside0.mk (hbox); have n2_ := Aside0.mk ((by rw [hg]; exact (below_size (by repeat (first | (with_reducible first | exact HB.out | apply below_alloc | apply pw_below_drewN | apply below_drew1) | exact HB.out))) : w.heap.size ≤ gb185)); have n3_ := Aside0.mk ((by rw [hg]; exact (below_size (by repeat (first | (with_reducible first | exact HB.out | apply below_alloc | apply pw_below_drewN | apply below_drew1) | exact HB.out))) : w.heap.size ≤ gb185)); clear HB; have HB := n0_; have BK185 := n1_; have GW185 := n2_; have GE185 := n3_; clear n0_ n1_ n2_ n3_; clear hb hbox hg) | ((with_reducible refine gate_dst (N := 5) rfl ?_); (try (refine gate_guard (by rfl) ?_; dsimp only)); refine box_event ?hg (N := 5) ?hd (cs := #[.int .i64 a2_0, .string a2_1, .string a2_2, .string a2_3, .string a2_4, .string a2_5, .string a2_6, .string a2_7, .string a2_8]) (t := 24) ?hr ?_; (case hd => rfl); (case hg => rfl); (case hr => first | (go_simp; done) | (go_simp; rfl)); intro gb186 hg w6 hbox hb; have n0_ := Aside0.mk (blk_below (g := gb185) (o := .cells #[.int .i64 a1_0, .string a1_1, .string a1_2, .string a1_3, .string a1_4, .string a1_5, .string a1_6, .string a1_7, .string a1_8] 24 (0, 0)) (by (with_reducible repeat (first | refine blk_drewN ?_ _ | refine blk_drew ?_ | refine blk_alloc ?_ _)); exact BK185.out) hb); have n1_ := Aside0.mk (below_step (by repeat (first | (with_reducible first | exact HB.out | apply below_alloc | apply pw_below_drewN | apply below_drew1 | refine below_set ?_ GE185.out) | exact HB.out)) hb); have n2_ := Aside0.mk (hbox); have n3_ := Aside0.mk ((by rw [hg]; exact (below_size (by repeat (first | (with_reducible first | exact HB.out | apply below_alloc | apply pw_below_drewN | apply below_drew1 | refine below_set ?_ GE185.out) | exact HB.out))) : w.heap.size ≤ gb186)); have n4_ := Aside0.mk ((by rw [hg]; exact (below_size (by repeat (first | (with_reducible first | exact HB.out | apply below_alloc | apply pw_below_drewN | apply below_drew1 | refine below_set ?_ GE185.out) | exact HB.out))) : w.heap.size ≤ gb186)); have n5_ := Aside0.mk ((by rw [hg]; exact Nat.ne_of_lt (blk_lt (g := gb185) (o := .cells #[.int .i64 a1_0, .string a1_1, .string a1_2, .string a1_3, .string a1_4, .string a1_5, .string a1_6, .string a1_7, .string a1_8] 24 (0, 0)) (by (with_reducible repeat (first | refine blk_drewN ?_ _ | refine blk_drew ?_ | refine blk_alloc ?_ _)); exact BK185.out)) : gb185 ≠ gb186)); have n6_ := Aside0.mk ((by rw [hg]; exact Nat.ne_of_gt (blk_lt (g := gb185) (o := .cells #[.int .i64 a1_0, .string a1_1, .string a1_2, .string a1_3, .string a1_4, .string a1_5, .string a1_6, .string a1_7, .string a1_8] 24 (0, 0)) (by (with_reducible repeat (first | refine blk_drewN ?_ _ | refine blk_drew ?_ | refine blk_alloc ?_ _)); exact BK185.out)) : gb186 ≠ gb185)); clear BK185; clear HB; have BK185 := n0_; have HB := n1_; have BK186 := n2_; have GW186 := n3_; have GE186 := n4_; have NB185_186 := n5_; have NB186_185 := n6_; clear n0_ n1_ n2_ n3_ n4_ n5_ n6_; clear hb hbox hg))
 (try simp only [Act.put, List.setIfInBounds_toArray, List.set_cons_zero, List.set_cons_succ])
 go_cut [28] (fun v28 wc => ∃ (kq : Nat) (x28_3 : Bool), v28 = .bool x28_3 ∧ Aside0 (laws_FnListsRoads.j0 kq l0 x28_3 a1_0 a1_1 a1_2 a1_3 a1_4 a1_5 a1_6 a1_7 a1_8 a2_0 a2_1 a2_2 a2_3 a2_4 a2_5 a2_6 a2_7 a2_8 = some r) ∧ Aside0 (kq ≤ k) ∧ Aside0 (wc.heap[gb185]? = some (.cells #[.int .i64 a1_0, .string a1_1, .string a1_2, .string a1_3, .string a1_4, .string a1_5, .string a1_6, .string a1_7, .string a1_8] 24 (0, 0))) ∧ Aside0 (wc.heap[gb186]? = some (.cells #[.int .i64 a2_0, .string a2_1, .string a2_2, .string a2_3, .string a2_4, .string a2_5, .string a2_6, .string a2_7, .string a2_8] 24 (0, 0))) ∧ Aside0 (Below w.heap.size w wc))
 case first =>
  have H := HC4.out
  clear HC4
  replace H := Option.bind_eq_some_iff.mp H
  obtain ⟨t187, A70, H⟩ := H
  replace H : (if t187 = true then ((laws_zzFits14.f a1_0 a1_1 a1_2 a1_3 a1_4 a1_5 a1_6 a1_7 a1_8).bind fun t188 => (if t188 = true then ((laws_zzFits14.f a2_0 a2_1 a2_2 a2_3 a2_4 a2_5 a2_6 a2_7 a2_8).bind fun t189 => (laws_FnListsRoads.j0 k l0 (!t189) a1_0 a1_1 a1_2 a1_3 a1_4 a1_5 a1_6 a1_7 a1_8 a2_0 a2_1 a2_2 a2_3 a2_4 a2_5 a2_6 a2_7 a2_8)) else (laws_FnListsRoads.j0 k l0 true a1_0 a1_1 a1_2 a1_3 a1_4 a1_5 a1_6 a1_7 a1_8 a2_0 a2_1 a2_2 a2_3 a2_4 a2_5 a2_6 a2_7 a2_8))) else (laws_FnListsRoads.j0 k l0 true a1_0 a1_1 a1_2 a1_3 a1_4 a1_5 a1_6 a1_7 a1_8 a2_0 a2_1 a2_2 a2_3 a2_4 a2_5 a2_6 a2_7 a2_8)) = some r := H
  have A7 := Aside0.mk A70
  clear A70
  by_cases c8 : t187 = true
  ·subst c8
   have H1 : ((laws_zzFits14.f a1_0 a1_1 a1_2 a1_3 a1_4 a1_5 a1_6 a1_7 a1_8).bind fun t188 => (if t188 = true then ((laws_zzFits14.f a2_0 a2_1 a2_2 a2_3 a2_4 a2_5 a2_6 a2_7 a2_8).bind fun t189 => (laws_FnListsRoads.j0 k l0 (!t189) a1_0 a1_1 a1_2 a1_3 a1_4 a1_5 a1_6 a1_7 a1_8 a2_0 a2_1 a2_2 a2_3 a2_4 a2_5 a2_6 a2_7 a2_8)) else (laws_FnListsRoads.j0 k l0 true a1_0 a1_1 a1_2 a1_3 a1_4 a1_5 a1_6 a1_7 a1_8 a2_0 a2_1 a2_2 a2_3 a2_4 a2_5 a2_6 a2_7 a2_8))) = some r := by rw [if_pos rfl] at H; exact H
   clear H
   have H := H1
   clear H1
   replace H := Option.bind_eq_some_iff.mp H
   obtain ⟨t188, A90, H⟩ := H
   replace H : (if t188 = true then ((laws_zzFits14.f a2_0 a2_1 a2_2 a2_3 a2_4 a2_5 a2_6 a2_7 a2_8).bind fun t189 => (laws_FnListsRoads.j0 k l0 (!t189) a1_0 a1_1 a1_2 a1_3 a1_4 a1_5 a1_6 a1_7 a1_8 a2_0 a2_1 a2_2 a2_3 a2_4 a2_5 a2_6 a2_7 a2_8)) else (laws_FnListsRoads.j0 k l0 true a1_0 a1_1 a1_2 a1_3 a1_4 a1_5 a1_6 a1_7 a1_8 a2_0 a2_1 a2_2 a2_3 a2_4 a2_5 a2_6 a2_7 a2_8)) = some r := H
   have A9 := Aside0.mk A90
   clear A90
   by_cases c10 : t188 = true
   ·subst c10
    have H1 : ((laws_zzFits14.f a2_0 a2_1 a2_2 a2_3 a2_4 a2_5 a2_6 a2_7 a2_8).bind fun t189 => (laws_FnListsRoads.j0 k l0 (!t189) a1_0 a1_1 a1_2 a1_3 a1_4 a1_5 a1_6 a1_7 a1_8 a2_0 a2_1 a2_2 a2_3 a2_4 a2_5 a2_6 a2_7 a2_8)) = some r := by rw [if_pos rfl] at H; exact H
    clear H
    have H := H1
    clear H1
    replace H := Option.bind_eq_some_iff.mp H
    obtain ⟨t189, A110, H⟩ := H
    replace H : (laws_FnListsRoads.j0 k l0 (!t189) a1_0 a1_1 a1_2 a1_3 a1_4 a1_5 a1_6 a1_7 a1_8 a2_0 a2_1 a2_2 a2_3 a2_4 a2_5 a2_6 a2_7 a2_8) = some r := H
    have A11 := Aside0.mk A110
    clear A110
    have H' := Aside0.mk H
    clear H
    go_wp2_with (first | ((with_reducible refine gate_callee (f := 4) rfl ?_); refine goesL_ (some 17) rfl rfl Tryz.func4 (by kernel_rfl) rfl #[.slice A0 l0.length c0] rfl (by (try simp only [List.map_toArray, List.map_cons, List.map_nil]); first | done | rfl | (simp only [List.length_drop, List.length_take]; rfl)) ?_; (with_reducible refine (laws_zzFits11.calls k _ _ l0 true _ ?side1 ?side2 A7.out).mono ?_); (case side1 => repeat (first | exact (Kd.C_below HR0.out HB.out) | (with_reducible refine Kd.C_alloc ?_ _) | (with_reducible refine Kd.C_drewN ?_ _) | (with_reducible refine Kd.C_drew ?_))); (case side2 => exact HC0.out); rintro e w12 ⟨rfl, hb⟩; refine ⟨_, rfl, ?_⟩; have n0_ := Aside0.mk (blk_below (g := gb185) (o := .cells #[.int .i64 a1_0, .string a1_1, .string a1_2, .string a1_3, .string a1_4, .string a1_5, .string a1_6, .string a1_7, .string a1_8] 24 (0, 0)) (by (with_reducible repeat (first | refine blk_drewN ?_ _ | refine blk_drew ?_ | refine blk_alloc ?_ _)); exact BK185.out) hb); have n1_ := Aside0.mk (blk_below (g := gb186) (o := .cells #[.int .i64 a2_0, .string a2_1, .string a2_2, .string a2_3, .string a2_4, .string a2_5, .string a2_6, .string a2_7, .string a2_8] 24 (0, 0)) (by (with_reducible repeat (first | refine blk_drewN ?_ _ | refine blk_drew ?_ | refine blk_alloc ?_ _)); exact BK186.out) hb); have n2_ := Aside0.mk (below_step (by repeat (first | (with_reducible first | exact HB.out | apply below_alloc | apply pw_below_drewN | apply below_drew1 | refine below_set ?_ GE185.out | refine below_set ?_ GE186.out) | exact HB.out)) hb); clear BK185; clear BK186; clear HB; have BK185 := n0_; have BK186 := n1_; have HB := n2_; clear n0_ n1_ n2_; (try clear hb); (try clear hb2); (try clear hk); (try clear hi); have hnb13 := NB185_186.out; have hnc13 := NB186_185.out; have hcz14_0 : w12.cell? ⟨gb185, 0, none⟩ = some (.int .i64 a1_0) := (blk_cell BK185.out 0).trans rfl; have hcz14_1 : w12.cell? ⟨gb185, 1, none⟩ = some (.string a1_1) := (blk_cell BK185.out 1).trans rfl; have hcz14_2 : w12.cell? ⟨gb185, 2, none⟩ = some (.string a1_2) := (blk_cell BK185.out 2).trans rfl; have hcz14_3 : w12.cell? ⟨gb185, 3, none⟩ = some (.string a1_3) := (blk_cell BK185.out 3).trans rfl; have hcz14_4 : w12.cell? ⟨gb185, 4, none⟩ = some (.string a1_4) := (blk_cell BK185.out 4).trans rfl; have hcz14_5 : w12.cell? ⟨gb185, 5, none⟩ = some (.string a1_5) := (blk_cell BK185.out 5).trans rfl; have hcz14_6 : w12.cell? ⟨gb185, 6, none⟩ = some (.string a1_6) := (blk_cell BK185.out 6).trans rfl; have hcz14_7 : w12.cell? ⟨gb185, 7, none⟩ = some (.string a1_7) := (blk_cell BK185.out 7).trans rfl; have hcz14_8 : w12.cell? ⟨gb185, 8, none⟩ = some (.string a1_8) := (blk_cell BK185.out 8).trans rfl; have hfz14_0 := blk_frozen BK185.out 0; have hfz14_1 := blk_frozen BK185.out 1; have hfz14_2 := blk_frozen BK185.out 2; have hfz14_3 := blk_frozen BK185.out 3; have hfz14_4 := blk_frozen BK185.out 4; have hfz14_5 := blk_frozen BK185.out 5; have hfz14_6 := blk_frozen BK185.out 6; have hfz14_7 := blk_frozen BK185.out 7; have hfz14_8 := blk_frozen BK185.out 8) | (go_at_call 5; (with_reducible refine (laws_zzFits14.calls a1_0 a1_1 a1_2 a1_3 a1_4 a1_5 a1_6 a1_7 a1_8 true _ A9.out).mono ?_); rintro e w15 ⟨rfl, hb⟩; have n0_ := Aside0.mk (blk_below (g := gb185) (o := .cells #[.int .i64 a1_0, .string a1_1, .string a1_2, .string a1_3, .string a1_4, .string a1_5, .string a1_6, .string a1_7, .string a1_8] 24 (0, 0)) (by (with_reducible repeat (first | refine blk_drewN ?_ _ | refine blk_drew ?_ | refine blk_alloc ?_ _)); exact BK185.out) hb); have n1_ := Aside0.mk (blk_below (g := gb186) (o := .cells #[.int .i64 a2_0, .string a2_1, .string a2_2, .string a2_3, .string a2_4, .string a2_5, .string a2_6, .string a2_7, .string a2_8] 24 (0, 0)) (by (with_reducible repeat (first | refine blk_drewN ?_ _ | refine blk_drew ?_ | refine blk_alloc ?_ _)); exact BK186.out) hb); have n2_ := Aside0.mk (below_step (by repeat (first | (with_reducible first | exact HB.out | apply below_alloc | apply pw_below_drewN | apply below_drew1 | refine below_set ?_ GE185.out | refine below_set ?_ GE186.out) | exact HB.out)) hb); clear BK185; clear BK186; clear HB; have BK185 := n0_; have BK186 := n1_; have HB := n2_; clear n0_ n1_ n2_; (try clear hb); (try clear hb2); (try clear hk); (try clear hi); have hcz16_0 : w15.cell? ⟨gb186, 0, none⟩ = some (.int .i64 a2_0) := (blk_cell BK186.out 0).trans rfl; have hcz16_1 : w15.cell? ⟨gb186, 1, none⟩ = some (.string a2_1) := (blk_cell BK186.out 1).trans rfl; have hcz16_2 : w15.cell? ⟨gb186, 2, none⟩ = some (.string a2_2) := (blk_cell BK186.out 2).trans rfl; have hcz16_3 : w15.cell? ⟨gb186, 3, none⟩ = some (.string a2_3) := (blk_cell BK186.out 3).trans rfl; have hcz16_4 : w15.cell? ⟨gb186, 4, none⟩ = some (.string a2_4) := (blk_cell BK186.out 4).trans rfl; have hcz16_5 : w15.cell? ⟨gb186, 5, none⟩ = some (.string a2_5) := (blk_cell BK186.out 5).trans rfl; have hcz16_6 : w15.cell? ⟨gb186, 6, none⟩ = some (.string a2_6) := (blk_cell BK186.out 6).trans rfl; have hcz16_7 : w15.cell? ⟨gb186, 7, none⟩ = some (.string a2_7) := (blk_cell BK186.out 7).trans rfl; have hcz16_8 : w15.cell? ⟨gb186, 8, none⟩ = some (.string a2_8) := (blk_cell BK186.out 8).trans rfl; have hfz16_0 := blk_frozen BK186.out 0; have hfz16_1 := blk_frozen BK186.out 1; have hfz16_2 := blk_frozen BK186.out 2; have hfz16_3 := blk_frozen BK186.out 3; have hfz16_4 := blk_frozen BK186.out 4; have hfz16_5 := blk_frozen BK186.out 5; have hfz16_6 := blk_frozen BK186.out 6; have hfz16_7 := blk_frozen BK186.out 7; have hfz16_8 := blk_frozen BK186.out 8) | (go_at_call 5; (with_reducible refine (laws_zzFits14.calls a2_0 a2_1 a2_2 a2_3 a2_4 a2_5 a2_6 a2_7 a2_8 t189 _ A11.out).mono ?_); rintro e w17 ⟨rfl, hb⟩; have n0_ := Aside0.mk (blk_below (g := gb185) (o := .cells #[.int .i64 a1_0, .string a1_1, .string a1_2, .string a1_3, .string a1_4, .string a1_5, .string a1_6, .string a1_7, .string a1_8] 24 (0, 0)) (by (with_reducible repeat (first | refine blk_drewN ?_ _ | refine blk_drew ?_ | refine blk_alloc ?_ _)); exact BK185.out) hb); have n1_ := Aside0.mk (blk_below (g := gb186) (o := .cells #[.int .i64 a2_0, .string a2_1, .string a2_2, .string a2_3, .string a2_4, .string a2_5, .string a2_6, .string a2_7, .string a2_8] 24 (0, 0)) (by (with_reducible repeat (first | refine blk_drewN ?_ _ | refine blk_drew ?_ | refine blk_alloc ?_ _)); exact BK186.out) hb); have n2_ := Aside0.mk (below_step (by repeat (first | (with_reducible first | exact HB.out | apply below_alloc | apply pw_below_drewN | apply below_drew1 | refine below_set ?_ GE185.out | refine below_set ?_ GE186.out) | exact HB.out)) hb); clear BK185; clear BK186; clear HB; have BK185 := n0_; have BK186 := n1_; have HB := n2_; clear n0_ n1_ n2_; (try clear hb); (try clear hb2); (try clear hk); (try clear hi)))
    go_meet
    case rel => exact ⟨_, (!t189), (by first | rfl | (simp; done) | (simp [*]; done)), H', ⟨by first | omega | exact Nat.le_refl _⟩, ⟨by (with_reducible repeat (first | refine blk_drewN ?_ _ | refine blk_drew ?_ | refine blk_alloc ?_ _)); exact BK185.out⟩, ⟨by (with_reducible repeat (first | refine blk_drewN ?_ _ | refine blk_drew ?_ | refine blk_alloc ?_ _)); exact BK186.out⟩, ⟨by repeat (first | (with_reducible first | exact HB.out | apply below_alloc | apply pw_below_drewN | apply below_drew1 | refine below_set ?_ GE185.out | refine below_set ?_ GE186.out) | exact HB.out)⟩⟩
   ·replace c10 := Bool.eq_false_iff.mpr c10
    subst c10
    have H1 : (laws_FnListsRoads.j0 k l0 true a1_0 a1_1 a1_2 a1_3 a1_4 a1_5 a1_6 a1_7 a1_8 a2_0 a2_1 a2_2 a2_3 a2_4 a2_5 a2_6 a2_7 a2_8) = some r := by rw [if_neg (show ¬ (false = true) by decide)] at H; exact H
    clear H
    have H := H1
    clear H1
    have H' := Aside0.mk H
    clear H
    go_wp2_with (first | ((with_reducible refine gate_callee (f := 4) rfl ?_); refine goesL_ (some 17) rfl rfl Tryz.func4 (by kernel_rfl) rfl #[.slice A0 l0.length c0] rfl (by (try simp only [List.map_toArray, List.map_cons, List.map_nil]); first | done | rfl | (simp only [List.length_drop, List.length_take]; rfl)) ?_; (with_reducible refine (laws_zzFits11.calls k _ _ l0 true _ ?side1 ?side2 A7.out).mono ?_); (case side1 => repeat (first | exact (Kd.C_below HR0.out HB.out) | (with_reducible refine Kd.C_alloc ?_ _) | (with_reducible refine Kd.C_drewN ?_ _) | (with_reducible refine Kd.C_drew ?_))); (case side2 => exact HC0.out); rintro e w18 ⟨rfl, hb⟩; refine ⟨_, rfl, ?_⟩; have n0_ := Aside0.mk (blk_below (g := gb185) (o := .cells #[.int .i64 a1_0, .string a1_1, .string a1_2, .string a1_3, .string a1_4, .string a1_5, .string a1_6, .string a1_7, .string a1_8] 24 (0, 0)) (by (with_reducible repeat (first | refine blk_drewN ?_ _ | refine blk_drew ?_ | refine blk_alloc ?_ _)); exact BK185.out) hb); have n1_ := Aside0.mk (blk_below (g := gb186) (o := .cells #[.int .i64 a2_0, .string a2_1, .string a2_2, .string a2_3, .string a2_4, .string a2_5, .string a2_6, .string a2_7, .string a2_8] 24 (0, 0)) (by (with_reducible repeat (first | refine blk_drewN ?_ _ | refine blk_drew ?_ | refine blk_alloc ?_ _)); exact BK186.out) hb); have n2_ := Aside0.mk (below_step (by repeat (first | (with_reducible first | exact HB.out | apply below_alloc | apply pw_below_drewN | apply below_drew1 | refine below_set ?_ GE185.out | refine below_set ?_ GE186.out) | exact HB.out)) hb); clear BK185; clear BK186; clear HB; have BK185 := n0_; have BK186 := n1_; have HB := n2_; clear n0_ n1_ n2_; (try clear hb); (try clear hb2); (try clear hk); (try clear hi); have hnb19 := NB185_186.out; have hnc19 := NB186_185.out; have hcz20_0 : w18.cell? ⟨gb185, 0, none⟩ = some (.int .i64 a1_0) := (blk_cell BK185.out 0).trans rfl; have hcz20_1 : w18.cell? ⟨gb185, 1, none⟩ = some (.string a1_1) := (blk_cell BK185.out 1).trans rfl; have hcz20_2 : w18.cell? ⟨gb185, 2, none⟩ = some (.string a1_2) := (blk_cell BK185.out 2).trans rfl; have hcz20_3 : w18.cell? ⟨gb185, 3, none⟩ = some (.string a1_3) := (blk_cell BK185.out 3).trans rfl; have hcz20_4 : w18.cell? ⟨gb185, 4, none⟩ = some (.string a1_4) := (blk_cell BK185.out 4).trans rfl; have hcz20_5 : w18.cell? ⟨gb185, 5, none⟩ = some (.string a1_5) := (blk_cell BK185.out 5).trans rfl; have hcz20_6 : w18.cell? ⟨gb185, 6, none⟩ = some (.string a1_6) := (blk_cell BK185.out 6).trans rfl; have hcz20_7 : w18.cell? ⟨gb185, 7, none⟩ = some (.string a1_7) := (blk_cell BK185.out 7).trans rfl; have hcz20_8 : w18.cell? ⟨gb185, 8, none⟩ = some (.string a1_8) := (blk_cell BK185.out 8).trans rfl; have hfz20_0 := blk_frozen BK185.out 0; have hfz20_1 := blk_frozen BK185.out 1; have hfz20_2 := blk_frozen BK185.out 2; have hfz20_3 := blk_frozen BK185.out 3; have hfz20_4 := blk_frozen BK185.out 4; have hfz20_5 := blk_frozen BK185.out 5; have hfz20_6 := blk_frozen BK185.out 6; have hfz20_7 := blk_frozen BK185.out 7; have hfz20_8 := blk_frozen BK185.out 8) | (go_at_call 5; (with_reducible refine (laws_zzFits14.calls a1_0 a1_1 a1_2 a1_3 a1_4 a1_5 a1_6 a1_7 a1_8 false _ A9.out).mono ?_); rintro e w21 ⟨rfl, hb⟩; have n0_ := Aside0.mk (blk_below (g := gb185) (o := .cells #[.int .i64 a1_0, .string a1_1, .string a1_2, .string a1_3, .string a1_4, .string a1_5, .string a1_6, .string a1_7, .string a1_8] 24 (0, 0)) (by (with_reducible repeat (first | refine blk_drewN ?_ _ | refine blk_drew ?_ | refine blk_alloc ?_ _)); exact BK185.out) hb); have n1_ := Aside0.mk (blk_below (g := gb186) (o := .cells #[.int .i64 a2_0, .string a2_1, .string a2_2, .string a2_3, .string a2_4, .string a2_5, .string a2_6, .string a2_7, .string a2_8] 24 (0, 0)) (by (with_reducible repeat (first | refine blk_drewN ?_ _ | refine blk_drew ?_ | refine blk_alloc ?_ _)); exact BK186.out) hb); have n2_ := Aside0.mk (below_step (by repeat (first | (with_reducible first | exact HB.out | apply below_alloc | apply pw_below_drewN | apply below_drew1 | refine below_set ?_ GE185.out | refine below_set ?_ GE186.out) | exact HB.out)) hb); clear BK185; clear BK186; clear HB; have BK185 := n0_; have BK186 := n1_; have HB := n2_; clear n0_ n1_ n2_; (try clear hb); (try clear hb2); (try clear hk); (try clear hi)))
    go_meet
    case rel => exact ⟨_, (true), (by first | rfl | (simp; done) | (simp [*]; done)), H', ⟨by first | omega | exact Nat.le_refl _⟩, ⟨by (with_reducible repeat (first | refine blk_drewN ?_ _ | refine blk_drew ?_ | refine blk_alloc ?_ _)); exact BK185.out⟩, ⟨by (with_reducible repeat (first | refine blk_drewN ?_ _ | refine blk_drew ?_ | refine blk_alloc ?_ _)); exact BK186.out⟩, ⟨by repeat (first | (with_reducible first | exact HB.out | apply below_alloc | apply pw_below_drewN | apply below_drew1 | refine below_set ?_ GE185.out | refine below_set ?_ GE186.out) | exact HB.out)⟩⟩
  ·replace c8 := Bool.eq_false_iff.mpr c8
   subst c8
   have H1 : (laws_FnListsRoads.j0 k l0 true a1_0 a1_1 a1_2 a1_3 a1_4 a1_5 a1_6 a1_7 a1_8 a2_0 a2_1 a2_2 a2_3 a2_4 a2_5 a2_6 a2_7 a2_8) = some r := by rw [if_neg (show ¬ (false = true) by decide)] at H; exact H
   clear H
   have H := H1
   clear H1
   have H' := Aside0.mk H
   clear H
   go_wp2_with (first | ((with_reducible refine gate_callee (f := 4) rfl ?_); refine goesL_ (some 17) rfl rfl Tryz.func4 (by kernel_rfl) rfl #[.slice A0 l0.length c0] rfl (by (try simp only [List.map_toArray, List.map_cons, List.map_nil]); first | done | rfl | (simp only [List.length_drop, List.length_take]; rfl)) ?_; (with_reducible refine (laws_zzFits11.calls k _ _ l0 false _ ?side1 ?side2 A7.out).mono ?_); (case side1 => repeat (first | exact (Kd.C_below HR0.out HB.out) | (with_reducible refine Kd.C_alloc ?_ _) | (with_reducible refine Kd.C_drewN ?_ _) | (with_reducible refine Kd.C_drew ?_))); (case side2 => exact HC0.out); rintro e w22 ⟨rfl, hb⟩; refine ⟨_, rfl, ?_⟩; have n0_ := Aside0.mk (blk_below (g := gb185) (o := .cells #[.int .i64 a1_0, .string a1_1, .string a1_2, .string a1_3, .string a1_4, .string a1_5, .string a1_6, .string a1_7, .string a1_8] 24 (0, 0)) (by (with_reducible repeat (first | refine blk_drewN ?_ _ | refine blk_drew ?_ | refine blk_alloc ?_ _)); exact BK185.out) hb); have n1_ := Aside0.mk (blk_below (g := gb186) (o := .cells #[.int .i64 a2_0, .string a2_1, .string a2_2, .string a2_3, .string a2_4, .string a2_5, .string a2_6, .string a2_7, .string a2_8] 24 (0, 0)) (by (with_reducible repeat (first | refine blk_drewN ?_ _ | refine blk_drew ?_ | refine blk_alloc ?_ _)); exact BK186.out) hb); have n2_ := Aside0.mk (below_step (by repeat (first | (with_reducible first | exact HB.out | apply below_alloc | apply pw_below_drewN | apply below_drew1 | refine below_set ?_ GE185.out | refine below_set ?_ GE186.out) | exact HB.out)) hb); clear BK185; clear BK186; clear HB; have BK185 := n0_; have BK186 := n1_; have HB := n2_; clear n0_ n1_ n2_; (try clear hb); (try clear hb2); (try clear hk); (try clear hi)))
   go_meet
   case rel => exact ⟨_, (true), (by first | rfl | (simp; done) | (simp [*]; done)), H', ⟨by first | omega | exact Nat.le_refl _⟩, ⟨by (with_reducible repeat (first | refine blk_drewN ?_ _ | refine blk_drew ?_ | refine blk_alloc ?_ _)); exact BK185.out⟩, ⟨by (with_reducible repeat (first | refine blk_drewN ?_ _ | refine blk_drew ?_ | refine blk_alloc ?_ _)); exact BK186.out⟩, ⟨by repeat (first | (with_reducible first | exact HB.out | apply below_alloc | apply pw_below_drewN | apply below_drew1 | refine below_set ?_ GE185.out | refine below_set ?_ GE186.out) | exact HB.out)⟩⟩
 case rest =>
  clear HC4
  try clear c1
  try clear p2
  try clear c3
  try clear c4
  try clear c8
  try clear c10
  try clear c13
  try clear c19
  try clear hcz14_0
  try clear hcz14_1
  try clear hcz14_2
  try clear hcz14_3
  try clear hcz14_4
  try clear hcz14_5
  try clear hcz14_6
  try clear hcz14_7
  try clear hcz14_8
  try clear hcz16_0
  try clear hcz16_1
  try clear hcz16_2
  try clear hcz16_3
  try clear hcz16_4
  try clear hcz16_5
  try clear hcz16_6
  try clear hcz16_7
  try clear hcz16_8
  try clear hcz20_0
  try clear hcz20_1
  try clear hcz20_2
  try clear hcz20_3
  try clear hcz20_4
  try clear hcz20_5
  try clear hcz20_6
  try clear hcz20_7
  try clear hcz20_8
  try clear hfz14_0
  try clear hfz14_1
  try clear hfz14_2
  try clear hfz14_3
  try clear hfz14_4
  try clear hfz14_5
  try clear hfz14_6
  try clear hfz14_7
  try clear hfz14_8
  try clear hfz16_0
  try clear hfz16_1
  try clear hfz16_2
  try clear hfz16_3
  try clear hfz16_4
  try clear hfz16_5
  try clear hfz16_6
  try clear hfz16_7
  try clear hfz16_8
  try clear hfz20_0
  try clear hfz20_1
  try clear hfz20_2
  try clear hfz20_3
  try clear hfz20_4
  try clear hfz20_5
  try clear hfz20_6
  try clear hfz20_7
  try clear hfz20_8
  obtain ⟨kq, x28_3, rfl, HA, HJ3, BK185, BK186, HB⟩ := hcut
  cases kq with
  | zero => exact absurd HA.out (by simp [laws_FnListsRoads.j0])
  | succ kj3 =>
   have H := HA.out
   clear HA
   simp only [laws_FnListsRoads.j0] at H
   by_cases c23 : x28_3 = true
   ·subst c23
    have H1 : (some true) = some r := by rw [if_pos rfl] at H; exact H
    clear H
    have H := H1
    clear H1
    obtain rfl := Option.some.inj H
    go_wp2
    go_ret
    exact ⟨by first | rfl | (simp [errW_none, errW_some] <;> rfl) | (have e_ : ∀ l_ : List UInt8, (l_ != []) = !l_.isEmpty := fun l_ => (by cases l_ <;> rfl); simp [errW_none, errW_some, e_]; done) | (simp [*, errW_none, errW_some] <;> rfl), by repeat (first | (with_reducible first | exact HB.out | apply below_alloc | apply pw_below_drewN | apply below_drew1 | refine below_set ?_ GE185.out | refine below_set ?_ GE186.out) | exact HB.out)⟩
   ·replace c23 := Bool.eq_false_iff.mpr c23
    subst c23
    have H1 : ((spec_LtPlayed.f kj3 l0).bind fun t190 => ((spec_LtRight.f kj3 l0).bind fun t193 => (if t193 = true then (if (t190.length : Int) = 0 then (laws_FnListsRoads.j1 kj3 l0 true a1_0 a1_1 a1_2 a1_3 a1_4 a1_5 a1_6 a1_7 a1_8 a2_0 a2_1 a2_2 a2_3 a2_4 a2_5 a2_6 a2_7 a2_8) else ((spec_LsNames.f kj3 t190).bind fun t194 => (if t194 = true then ((spec_LsStyled.f a1_0 a1_1 a1_2 a1_3 a1_4 a1_5 a1_6 a1_7 a1_8).bind fun t195 => (if t195 = true then ((spec_LsStyled.f a2_0 a2_1 a2_2 a2_3 a2_4 a2_5 a2_6 a2_7 a2_8).bind fun t196 => (if t196 = true then ((spec_LsClear.f kj3 a1_0 a1_1 a1_2 a1_3 a1_4 a1_5 a1_6 a1_7 a1_8).bind fun t197 => (if t197 = true then ((spec_LsClear.f kj3 a2_0 a2_1 a2_2 a2_3 a2_4 a2_5 a2_6 a2_7 a2_8).bind fun t198 => (laws_FnListsRoads.j1 kj3 l0 (!t198) a1_0 a1_1 a1_2 a1_3 a1_4 a1_5 a1_6 a1_7 a1_8 a2_0 a2_1 a2_2 a2_3 a2_4 a2_5 a2_6 a2_7 a2_8)) else (laws_FnListsRoads.j1 kj3 l0 true a1_0 a1_1 a1_2 a1_3 a1_4 a1_5 a1_6 a1_7 a1_8 a2_0 a2_1 a2_2 a2_3 a2_4 a2_5 a2_6 a2_7 a2_8))) else (laws_FnListsRoads.j1 kj3 l0 true a1_0 a1_1 a1_2 a1_3 a1_4 a1_5 a1_6 a1_7 a1_8 a2_0 a2_1 a2_2 a2_3 a2_4 a2_5 a2_6 a2_7 a2_8))) else (laws_FnListsRoads.j1 kj3 l0 true a1_0 a1_1 a1_2 a1_3 a1_4 a1_5 a1_6 a1_7 a1_8 a2_0 a2_1 a2_2 a2_3 a2_4 a2_5 a2_6 a2_7 a2_8))) else (laws_FnListsRoads.j1 kj3 l0 true a1_0 a1_1 a1_2 a1_3 a1_4 a1_5 a1_6 a1_7 a1_8 a2_0 a2_1 a2_2 a2_3 a2_4 a2_5 a2_6 a2_7 a2_8)))) else (laws_FnListsRoads.j1 kj3 l0 true a1_0 a1_1 a1_2 a1_3 a1_4 a1_5 a1_6 a1_7 a1_8 a2_0 a2_1 a2_2 a2_3 a2_4 a2_5 a2_6 a2_7 a2_8)))) = some r := by rw [if_neg (show ¬ (false = true) by decide)] at H; exact H
    clear H
    have H := H1
    clear H1
    replace H := Option.bind_eq_some_iff.mp H
    obtain ⟨t190, A240, H⟩ := H
    replace H : ((spec_LtRight.f kj3 l0).bind fun t193 => (if t193 = true then (if (t190.length : Int) = 0 then (laws_FnListsRoads.j1 kj3 l0 true a1_0 a1_1 a1_2 a1_3 a1_4 a1_5 a1_6 a1_7 a1_8 a2_0 a2_1 a2_2 a2_3 a2_4 a2_5 a2_6 a2_7 a2_8) else ((spec_LsNames.f kj3 t190).bind fun t194 => (if t194 = true then ((spec_LsStyled.f a1_0 a1_1 a1_2 a1_3 a1_4 a1_5 a1_6 a1_7 a1_8).bind fun t195 => (if t195 = true then ((spec_LsStyled.f a2_0 a2_1 a2_2 a2_3 a2_4 a2_5 a2_6 a2_7 a2_8).bind fun t196 => (if t196 = true then ((spec_LsClear.f kj3 a1_0 a1_1 a1_2 a1_3 a1_4 a1_5 a1_6 a1_7 a1_8).bind fun t197 => (if t197 = true then ((spec_LsClear.f kj3 a2_0 a2_1 a2_2 a2_3 a2_4 a2_5 a2_6 a2_7 a2_8).bind fun t198 => (laws_FnListsRoads.j1 kj3 l0 (!t198) a1_0 a1_1 a1_2 a1_3 a1_4 a1_5 a1_6 a1_7 a1_8 a2_0 a2_1 a2_2 a2_3 a2_4 a2_5 a2_6 a2_7 a2_8)) else (laws_FnListsRoads.j1 kj3 l0 true a1_0 a1_1 a1_2 a1_3 a1_4 a1_5 a1_6 a1_7 a1_8 a2_0 a2_1 a2_2 a2_3 a2_4 a2_5 a2_6 a2_7 a2_8))) else (laws_FnListsRoads.j1 kj3 l0 true a1_0 a1_1 a1_2 a1_3 a1_4 a1_5 a1_6 a1_7 a1_8 a2_0 a2_1 a2_2 a2_3 a2_4 a2_5 a2_6 a2_7 a2_8))) else (laws_FnListsRoads.j1 kj3 l0 true a1_0 a1_1 a1_2 a1_3 a1_4 a1_5 a1_6 a1_7 a1_8 a2_0 a2_1 a2_2 a2_3 a2_4 a2_5 a2_6 a2_7 a2_8))) else (laws_FnListsRoads.j1 kj3 l0 true a1_0 a1_1 a1_2 a1_3 a1_4 a1_5 a1_6 a1_7 a1_8 a2_0 a2_1 a2_2 a2_3 a2_4 a2_5 a2_6 a2_7 a2_8)))) else (laws_FnListsRoads.j1 kj3 l0 true a1_0 a1_1 a1_2 a1_3 a1_4 a1_5 a1_6 a1_7 a1_8 a2_0 a2_1 a2_2 a2_3 a2_4 a2_5 a2_6 a2_7 a2_8))) = some r := H
    have A24 := Aside0.mk A240
    clear A240
    have HC25 := Aside0.mk H
    clear H
    go_upto_region 4 with (first | ((with_reducible refine gate_callee (f := 6) rfl ?_); refine goesL_ (some 30) rfl rfl Tryz.func6 (by kernel_rfl) rfl #[.slice A0 l0.length c0] rfl (by (try simp only [List.map_toArray, List.map_cons, List.map_nil]); first | done | rfl | (simp only [List.length_drop, List.length_take]; rfl)) ?_; (with_reducible refine (spec_LtPlayed.calls kj3 _ _ l0 t190 _ ?side1 ?side2 A24.out).mono ?_); (case side1 => repeat (first | exact (Kd.C_below HR0.out HB.out) | (with_reducible refine Kd.C_alloc ?_ _) | (with_reducible refine Kd.C_drewN ?_ _) | (with_reducible refine Kd.C_drew ?_))); (case side2 => exact HC0.out); rintro e w26 ⟨v191, rfl, ho0, hb⟩; refine ⟨_, rfl, ?_⟩; have n0_ := Aside0.mk (Kd.R_lower ho0 (below_size (by repeat (first | (with_reducible first | exact HB.out | apply below_alloc | apply pw_below_drewN | apply below_drew1 | refine below_set ?_ GE185.out | refine below_set ?_ GE186.out) | exact HB.out)))); have n1_ := Aside0.mk (blk_below (g := gb185) (o := .cells #[.int .i64 a1_0, .string a1_1, .string a1_2, .string a1_3, .string a1_4, .string a1_5, .string a1_6, .string a1_7, .string a1_8] 24 (0, 0)) (by (with_reducible repeat (first | refine blk_drewN ?_ _ | refine blk_drew ?_ | refine blk_alloc ?_ _)); exact BK185.out) hb); have n2_ := Aside0.mk (blk_below (g := gb186) (o := .cells #[.int .i64 a2_0, .string a2_1, .string a2_2, .string a2_3, .string a2_4, .string a2_5, .string a2_6, .string a2_7, .string a2_8] 24 (0, 0)) (by (with_reducible repeat (first | refine blk_drewN ?_ _ | refine blk_drew ?_ | refine blk_alloc ?_ _)); exact BK186.out) hb); have n3_ := Aside0.mk (below_step (by repeat (first | (with_reducible first | exact HB.out | apply below_alloc | apply pw_below_drewN | apply below_drew1 | refine below_set ?_ GE185.out | refine below_set ?_ GE186.out) | exact HB.out)) hb); clear BK185; clear BK186; clear HB; have HO192 := n0_; have BK185 := n1_; have BK186 := n2_; have HB := n3_; clear n0_ n1_ n2_ n3_; (try clear hb); (try clear hb2); (try clear hk); (try clear hi); (try clear ho0)))
    (try simp only [Act.put, List.setIfInBounds_toArray, List.set_cons_zero, List.set_cons_succ])
    go_cut [63] (fun v63 wc => ∃ (kq : Nat) (x63_24 : Bool), v63 = .bool x63_24 ∧ Aside0 (laws_FnListsRoads.j1 kq l0 x63_24 a1_0 a1_1 a1_2 a1_3 a1_4 a1_5 a1_6 a1_7 a1_8 a2_0 a2_1 a2_2 a2_3 a2_4 a2_5 a2_6 a2_7 a2_8 = some r) ∧ Aside0 (kq ≤ kj3) ∧ Aside0 (wc.heap[gb185]? = some (.cells #[.int .i64 a1_0, .string a1_1, .string a1_2, .string a1_3, .string a1_4, .string a1_5, .string a1_6, .string a1_7, .string a1_8] 24 (0, 0))) ∧ Aside0 (wc.heap[gb186]? = some (.cells #[.int .i64 a2_0, .string a2_1, .string a2_2, .string a2_3, .string a2_4, .string a2_5, .string a2_6, .string a2_7, .string a2_8] 24 (0, 0))) ∧ Aside0 (Below w.heap.size w wc))
    case first =>
     have H := HC25.out
     clear HC25
     replace H := Option.bind_eq_some_iff.mp H
     obtain ⟨t193, A270, H⟩ := H
     replace H : (if t193 = true then (if (t190.length : Int) = 0 then (laws_FnListsRoads.j1 kj3 l0 true a1_0 a1_1 a1_2 a1_3 a1_4 a1_5 a1_6 a1_7 a1_8 a2_0 a2_1 a2_2 a2_3 a2_4 a2_5 a2_6 a2_7 a2_8) else ((spec_LsNames.f kj3 t190).bind fun t194 => (if t194 = true then ((spec_LsStyled.f a1_0 a1_1 a1_2 a1_3 a1_4 a1_5 a1_6 a1_7 a1_8).bind fun t195 => (if t195 = true then ((spec_LsStyled.f a2_0 a2_1 a2_2 a2_3 a2_4 a2_5 a2_6 a2_7 a2_8).bind fun t196 => (if t196 = true then ((spec_LsClear.f kj3 a1_0 a1_1 a1_2 a1_3 a1_4 a1_5 a1_6 a1_7 a1_8).bind fun t197 => (if t197 = true then ((spec_LsClear.f kj3 a2_0 a2_1 a2_2 a2_3 a2_4 a2_5 a2_6 a2_7 a2_8).bind fun t198 => (laws_FnListsRoads.j1 kj3 l0 (!t198) a1_0 a1_1 a1_2 a1_3 a1_4 a1_5 a1_6 a1_7 a1_8 a2_0 a2_1 a2_2 a2_3 a2_4 a2_5 a2_6 a2_7 a2_8)) else (laws_FnListsRoads.j1 kj3 l0 true a1_0 a1_1 a1_2 a1_3 a1_4 a1_5 a1_6 a1_7 a1_8 a2_0 a2_1 a2_2 a2_3 a2_4 a2_5 a2_6 a2_7 a2_8))) else (laws_FnListsRoads.j1 kj3 l0 true a1_0 a1_1 a1_2 a1_3 a1_4 a1_5 a1_6 a1_7 a1_8 a2_0 a2_1 a2_2 a2_3 a2_4 a2_5 a2_6 a2_7 a2_8))) else (laws_FnListsRoads.j1 kj3 l0 true a1_0 a1_1 a1_2 a1_3 a1_4 a1_5 a1_6 a1_7 a1_8 a2_0 a2_1 a2_2 a2_3 a2_4 a2_5 a2_6 a2_7 a2_8))) else (laws_FnListsRoads.j1 kj3 l0 true a1_0 a1_1 a1_2 a1_3 a1_4 a1_5 a1_6 a1_7 a1_8 a2_0 a2_1 a2_2 a2_3 a2_4 a2_5 a2_6 a2_7 a2_8)))) else (laws_FnListsRoads.j1 kj3 l0 true a1_0 a1_1 a1_2 a1_3 a1_4 a1_5 a1_6 a1_7 a1_8 a2_0 a2_1 a2_2 a2_3 a2_4 a2_5 a2_6 a2_7 a2_8)) = some r := H
     have A27 := Aside0.mk A270
     clear A270
     by_cases c28 : t193 = true
     ·subst c28
      have H1 : (if (t190.length : Int) = 0 then (laws_FnListsRoads.j1 kj3 l0 true a1_0 a1_1 a1_2 a1_3 a1_4 a1_5 a1_6 a1_7 a1_8 a2_0 a2_1 a2_2 a2_3 a2_4 a2_5 a2_6 a2_7 a2_8) else ((spec_LsNames.f kj3 t190).bind fun t194 => (if t194 = true then ((spec_LsStyled.f a1_0 a1_1 a1_2 a1_3 a1_4 a1_5 a1_6 a1_7 a1_8).bind fun t195 => (if t195 = true then ((spec_LsStyled.f a2_0 a2_1 a2_2 a2_3 a2_4 a2_5 a2_6 a2_7 a2_8).bind fun t196 => (if t196 = true then ((spec_LsClear.f kj3 a1_0 a1_1 a1_2 a1_3 a1_4 a1_5 a1_6 a1_7 a1_8).bind fun t197 => (if t197 = true then ((spec_LsClear.f kj3 a2_0 a2_1 a2_2 a2_3 a2_4 a2_5 a2_6 a2_7 a2_8).bind fun t198 => (laws_FnListsRoads.j1 kj3 l0 (!t198) a1_0 a1_1 a1_2 a1_3 a1_4 a1_5 a1_6 a1_7 a1_8 a2_0 a2_1 a2_2 a2_3 a2_4 a2_5 a2_6 a2_7 a2_8)) else (laws_FnListsRoads.j1 kj3 l0 true a1_0 a1_1 a1_2 a1_3 a1_4 a1_5 a1_6 a1_7 a1_8 a2_0 a2_1 a2_2 a2_3 a2_4 a2_5 a2_6 a2_7 a2_8))) else (laws_FnListsRoads.j1 kj3 l0 true a1_0 a1_1 a1_2 a1_3 a1_4 a1_5 a1_6 a1_7 a1_8 a2_0 a2_1 a2_2 a2_3 a2_4 a2_5 a2_6 a2_7 a2_8))) else (laws_FnListsRoads.j1 kj3 l0 true a1_0 a1_1 a1_2 a1_3 a1_4 a1_5 a1_6 a1_7 a1_8 a2_0 a2_1 a2_2 a2_3 a2_4 a2_5 a2_6 a2_7 a2_8))) else (laws_FnListsRoads.j1 kj3 l0 true a1_0 a1_1 a1_2 a1_3 a1_4 a1_5 a1_6 a1_7 a1_8 a2_0 a2_1 a2_2 a2_3 a2_4 a2_5 a2_6 a2_7 a2_8)))) = some r := by rw [if_pos rfl] at H; exact H
      clear H
      have H := H1
      clear H1
      by_cases c29 : (t190.length : Int) = 0
      ·rw [if_pos c29] at H
       have c29b0 : ((t190.length : Int) == 0) = true := beq_iff_eq.mpr c29
       have c29b1 : ((t190.length : Int) != 0) = false := bne_eq_false_iff_eq.mpr c29
       clear c29
       (first | rw [c29b0] | (simp only [i64_w, i32_w]; rw [c29b0]) | skip)
       have H' := Aside0.mk H
       clear H
       go_wp2_with (first | ((with_reducible refine gate_callee (f := 7) rfl ?_); refine goesL_ (some 32) rfl rfl Tryz.func7 (by kernel_rfl) rfl #[.slice A0 l0.length c0] rfl (by (try simp only [List.map_toArray, List.map_cons, List.map_nil]); first | done | rfl | (simp only [List.length_drop, List.length_take]; rfl)) ?_; (with_reducible refine (spec_LtRight.calls kj3 _ _ l0 true _ ?side1 ?side2 A27.out).mono ?_); (case side1 => repeat (first | exact (Kd.C_below HR0.out HB.out) | (with_reducible refine Kd.C_alloc ?_ _) | (with_reducible refine Kd.C_drewN ?_ _) | (with_reducible refine Kd.C_drew ?_))); (case side2 => exact HC0.out); rintro e w30 ⟨rfl, hb⟩; refine ⟨_, rfl, ?_⟩; have n0_ := Aside0.mk (Kd.R_below (by (with_reducible repeat (first | apply Kd.R_alloc | apply Kd.R_drewN | apply Kd.R_drew)); exact HO192.out) hb); have n1_ := Aside0.mk (blk_below (g := gb185) (o := .cells #[.int .i64 a1_0, .string a1_1, .string a1_2, .string a1_3, .string a1_4, .string a1_5, .string a1_6, .string a1_7, .string a1_8] 24 (0, 0)) (by (with_reducible repeat (first | refine blk_drewN ?_ _ | refine blk_drew ?_ | refine blk_alloc ?_ _)); exact BK185.out) hb); have n2_ := Aside0.mk (blk_below (g := gb186) (o := .cells #[.int .i64 a2_0, .string a2_1, .string a2_2, .string a2_3, .string a2_4, .string a2_5, .string a2_6, .string a2_7, .string a2_8] 24 (0, 0)) (by (with_reducible repeat (first | refine blk_drewN ?_ _ | refine blk_drew ?_ | refine blk_alloc ?_ _)); exact BK186.out) hb); have n3_ := Aside0.mk (below_step (by repeat (first | (with_reducible first | exact HB.out | apply below_alloc | apply pw_below_drewN | apply below_drew1 | refine below_set ?_ GE185.out | refine below_set ?_ GE186.out) | exact HB.out)) hb); clear HO192; clear BK185; clear BK186; clear HB; have HO192 := n0_; have BK185 := n1_; have BK186 := n2_; have HB := n3_; clear n0_ n1_ n2_ n3_; (try clear hb); (try clear hb2); (try clear hk); (try clear hi); obtain ⟨Ao31, co31, eo31⟩ := Kd.R_slice HO192.out; subst eo31))
       go_meet
       case rel => exact ⟨_, (true), (by first | rfl | (simp; done) | (simp [*]; done)), H', ⟨by have := HJ3.out; first | omega | exact Nat.le_refl _⟩, ⟨by (with_reducible repeat (first | refine blk_drewN ?_ _ | refine blk_drew ?_ | refine blk_alloc ?_ _)); exact BK185.out⟩, ⟨by (with_reducible repeat (first | refine blk_drewN ?_ _ | refine blk_drew ?_ | refine blk_alloc ?_ _)); exact BK186.out⟩, ⟨by repeat (first | (with_reducible first | exact HB.out | apply below_alloc | apply pw_below_drewN | apply below_drew1 | refine below_set ?_ GE185.out | refine below_set ?_ GE186.out) | exact HB.out)⟩⟩
      ·rw [if_neg c29] at H
       have c29b0 : ((t190.length : Int) == 0) = false := beq_eq_false_iff_ne.mpr c29
       have c29b1 : ((t190.length : Int) != 0) = true := bne_iff_ne.mpr c29
       have c29b2 : ¬ (t190 = []) := fun h_ => c29 (by rw [h_]; rfl)
       (first | rw [c29b0] | (simp only [i64_w, i32_w]; rw [c29b0]) | skip)
       replace H := Option.bind_eq_some_iff.mp H
       obtain ⟨t194, A320, H⟩ := H
       replace H : (if t194 = true then ((spec_LsStyled.f a1_0 a1_1 a1_2 a1_3 a1_4 a1_5 a1_6 a1_7 a1_8).bind fun t195 => (if t195 = true then ((spec_LsStyled.f a2_0 a2_1 a2_2 a2_3 a2_4 a2_5 a2_6 a2_7 a2_8).bind fun t196 => (if t196 = true then ((spec_LsClear.f kj3 a1_0 a1_1 a1_2 a1_3 a1_4 a1_5 a1_6 a1_7 a1_8).bind fun t197 => (if t197 = true then ((spec_LsClear.f kj3 a2_0 a2_1 a2_2 a2_3 a2_4 a2_5 a2_6 a2_7 a2_8).bind fun t198 => (laws_FnListsRoads.j1 kj3 l0 (!t198) a1_0 a1_1 a1_2 a1_3 a1_4 a1_5 a1_6 a1_7 a1_8 a2_0 a2_1 a2_2 a2_3 a2_4 a2_5 a2_6 a2_7 a2_8)) else (laws_FnListsRoads.j1 kj3 l0 true a1_0 a1_1 a1_2 a1_3 a1_4 a1_5 a1_6 a1_7 a1_8 a2_0 a2_1 a2_2 a2_3 a2_4 a2_5 a2_6 a2_7 a2_8))) else (laws_FnListsRoads.j1 kj3 l0 true a1_0 a1_1 a1_2 a1_3 a1_4 a1_5 a1_6 a1_7 a1_8 a2_0 a2_1 a2_2 a2_3 a2_4 a2_5 a2_6 a2_7 a2_8))) else (laws_FnListsRoads.j1 kj3 l0 true a1_0 a1_1 a1_2 a1_3 a1_4 a1_5 a1_6 a1_7 a1_8 a2_0 a2_1 a2_2 a2_3 a2_4 a2_5 a2_6 a2_7 a2_8))) else (laws_FnListsRoads.j1 kj3 l0 true a1_0 a1_1 a1_2 a1_3 a1_4 a1_5 a1_6 a1_7 a1_8 a2_0 a2_1 a2_2 a2_3 a2_4 a2_5 a2_6 a2_7 a2_8)) = some r := H
       have A32 := Aside0.mk A320
       clear A320
       by_cases c33 : t194 = true
       ·subst c33
        have H1 : ((spec_LsStyled.f a1_0 a1_1 a1_2 a1_3 a1_4 a1_5 a1_6 a1_7 a1_8).bind fun t195 => (if t195 = true then ((spec_LsStyled.f a2_0 a2_1 a2_2 a2_3 a2_4 a2_5 a2_6 a2_7 a2_8).bind fun t196 => (if t196 = true then ((spec_LsClear.f kj3 a1_0 a1_1 a1_2 a1_3 a1_4 a1_5 a1_6 a1_7 a1_8).bind fun t197 => (if t197 = true then ((spec_LsClear.f kj3 a2_0 a2_1 a2_2 a2_3 a2_4 a2_5 a2_6 a2_7 a2_8).bind fun t198 => (laws_FnListsRoads.j1 kj3 l0 (!t198) a1_0 a1_1 a1_2 a1_3 a1_4 a1_5 a1_6 a1_7 a1_8 a2_0 a2_1 a2_2 a2_3 a2_4 a2_5 a2_6 a2_7 a2_8)) else (laws_FnListsRoads.j1 kj3 l0 true a1_0 a1_1 a1_2 a1_3 a1_4 a1_5 a1_6 a1_7 a1_8 a2_0 a2_1 a2_2 a2_3 a2_4 a2_5 a2_6 a2_7 a2_8))) else (laws_FnListsRoads.j1 kj3 l0 true a1_0 a1_1 a1_2 a1_3 a1_4 a1_5 a1_6 a1_7 a1_8 a2_0 a2_1 a2_2 a2_3 a2_4 a2_5 a2_6 a2_7 a2_8))) else (laws_FnListsRoads.j1 kj3 l0 true a1_0 a1_1 a1_2 a1_3 a1_4 a1_5 a1_6 a1_7 a1_8 a2_0 a2_1 a2_2 a2_3 a2_4 a2_5 a2_6 a2_7 a2_8))) = some r := by rw [if_pos rfl] at H; exact H
        clear H
        have H := H1
        clear H1
        replace H := Option.bind_eq_some_iff.mp H
        obtain ⟨t195, A340, H⟩ := H
        replace H : (if t195 = true then ((spec_LsStyled.f a2_0 a2_1 a2_2 a2_3 a2_4 a2_5 a2_6 a2_7 a2_8).bind fun t196 => (if t196 = true then ((spec_LsClear.f kj3 a1_0 a1_1 a1_2 a1_3 a1_4 a1_5 a1_6 a1_7 a1_8).bind fun t197 => (if t197 = true then ((spec_LsClear.f kj3 a2_0 a2_1 a2_2 a2_3 a2_4 a2_5 a2_6 a2_7 a2_8).bind fun t198 => (laws_FnListsRoads.j1 kj3 l0 (!t198) a1_0 a1_1 a1_2 a1_3 a1_4 a1_5 a1_6 a1_7 a1_8 a2_0 a2_1 a2_2 a2_3 a2_4 a2_5 a2_6 a2_7 a2_8)) else (laws_FnListsRoads.j1 kj3 l0 true a1_0 a1_1 a1_2 a1_3 a1_4 a1_5 a1_6 a1_7 a1_8 a2_0 a2_1 a2_2 a2_3 a2_4 a2_5 a2_6 a2_7 a2_8))) else (laws_FnListsRoads.j1 kj3 l0 true a1_0 a1_1 a1_2 a1_3 a1_4 a1_5 a1_6 a1_7 a1_8 a2_0 a2_1 a2_2 a2_3 a2_4 a2_5 a2_6 a2_7 a2_8))) else (laws_FnListsRoads.j1 kj3 l0 true a1_0 a1_1 a1_2 a1_3 a1_4 a1_5 a1_6 a1_7 a1_8 a2_0 a2_1 a2_2 a2_3 a2_4 a2_5 a2_6 a2_7 a2_8)) = some r := H
        have A34 := Aside0.mk A340
        clear A340
        by_cases c35 : t195 = true
        ·subst c35
         have H1 : ((spec_LsStyled.f a2_0 a2_1 a2_2 a2_3 a2_4 a2_5 a2_6 a2_7 a2_8).bind fun t196 => (if t196 = true then ((spec_LsClear.f kj3 a1_0 a1_1 a1_2 a1_3 a1_4 a1_5 a1_6 a1_7 a1_8).bind fun t197 => (if t197 = true then ((spec_LsClear.f kj3 a2_0 a2_1 a2_2 a2_3 a2_4 a2_5 a2_6 a2_7 a2_8).bind fun t198 => (laws_FnListsRoads.j1 kj3 l0 (!t198) a1_0 a1_1 a1_2 a1_3 a1_4 a1_5 a1_6 a1_7 a1_8 a2_0 a2_1 a2_2 a2_3 a2_4 a2_5 a2_6 a2_7 a2_8)) else (laws_FnListsRoads.j1 kj3 l0 true a1_0 a1_1 a1_2 a1_3 a1_4 a1_5 a1_6 a1_7 a1_8 a2_0 a2_1 a2_2 a2_3 a2_4 a2_5 a2_6 a2_7 a2_8))) else (laws_FnListsRoads.j1 kj3 l0 true a1_0 a1_1 a1_2 a1_3 a1_4 a1_5 a1_6 a1_7 a1_8 a2_0 a2_1 a2_2 a2_3 a2_4 a2_5 a2_6 a2_7 a2_8))) = some r := by rw [if_pos rfl] at H; exact H
         clear H
         have H := H1
         clear H1
         replace H := Option.bind_eq_some_iff.mp H
         obtain ⟨t196, A360, H⟩ := H
         replace H : (if t196 = true then ((spec_LsClear.f kj3 a1_0 a1_1 a1_2 a1_3 a1_4 a1_5 a1_6 a1_7 a1_8).bind fun t197 => (if t197 = true then ((spec_LsClear.f kj3 a2_0 a2_1 a2_2 a2_3 a2_4 a2_5 a2_6 a2_7 a2_8).bind fun t198 => (laws_FnListsRoads.j1 kj3 l0 (!t198) a1_0 a1_1 a1_2 a1_3 a1_4 a1_5 a1_6 a1_7 a1_8 a2_0 a2_1 a2_2 a2_3 a2_4 a2_5 a2_6 a2_7 a2_8)) else (laws_FnListsRoads.j1 kj3 l0 true a1_0 a1_1 a1_2 a1_3 a1_4 a1_5 a1_6 a1_7 a1_8 a2_0 a2_1 a2_2 a2_3 a2_4 a2_5 a2_6 a2_7 a2_8))) else (laws_FnListsRoads.j1 kj3 l0 true a1_0 a1_1 a1_2 a1_3 a1_4 a1_5 a1_6 a1_7 a1_8 a2_0 a2_1 a2_2 a2_3 a2_4 a2_5 a2_6 a2_7 a2_8)) = some r := H
         have A36 := Aside0.mk A360
         clear A360
         by_cases c37 : t196 = true
         ·subst c37
          have H1 : ((spec_LsClear.f kj3 a1_0 a1_1 a1_2 a1_3 a1_4 a1_5 a1_6 a1_7 a1_8).bind fun t197 => (if t197 = true then ((spec_LsClear.f kj3 a2_0 a2_1 a2_2 a2_3 a2_4 a2_5 a2_6 a2_7 a2_8).bind fun t198 => (laws_FnListsRoads.j1 kj3 l0 (!t198) a1_0 a1_1 a1_2 a1_3 a1_4 a1_5 a1_6 a1_7 a1_8 a2_0 a2_1 a2_2 a2_3 a2_4 a2_5 a2_6 a2_7 a2_8)) else (laws_FnListsRoads.j1 kj3 l0 true a1_0 a1_1 a1_2 a1_3 a1_4 a1_5 a1_6 a1_7 a1_8 a2_0 a2_1 a2_2 a2_3 a2_4 a2_5 a2_6 a2_7 a2_8))) = some r := by rw [if_pos rfl] at H; exact H
          clear H
          have H := H1
          clear H1
          replace H := Option.bind_eq_some_iff.mp H
          obtain ⟨t197, A380, H⟩ := H
          replace H : (if t197 = true then ((spec_LsClear.f kj3 a2_0 a2_1 a2_2 a2_3 a2_4 a2_5 a2_6 a2_7 a2_8).bind fun t198 => (laws_FnListsRoads.j1 kj3 l0 (!t198) a1_0 a1_1 a1_2 a1_3 a1_4 a1_5 a1_6 a1_7 a1_8 a2_0 a2_1 a2_2 a2_3 a2_4 a2_5 a2_6 a2_7 a2_8)) else (laws_FnListsRoads.j1 kj3 l0 true a1_0 a1_1 a1_2 a1_3 a1_4 a1_5 a1_6 a1_7 a1_8 a2_0 a2_1 a2_2 a2_3 a2_4 a2_5 a2_6 a2_7 a2_8)) = some r := H
          have A38 := Aside0.mk A380
          clear A380
          by_cases c39 : t197 = true
          ·subst c39
           have H1 : ((spec_LsClear.f kj3 a2_0 a2_1 a2_2 a2_3 a2_4 a2_5 a2_6 a2_7 a2_8).bind fun t198 => (laws_FnListsRoads.j1 kj3 l0 (!t198) a1_0 a1_1 a1_2 a1_3 a1_4 a1_5 a1_6 a1_7 a1_8 a2_0 a2_1 a2_2 a2_3 a2_4 a2_5 a2_6 a2_7 a2_8)) = some r := by rw [if_pos rfl] at H; exact H
           clear H
           have H := H1
           clear H1
           replace H := Option.bind_eq_some_iff.mp H
           obtain ⟨t198, A400, H⟩ := H
           replace H : (laws_FnListsRoads.j1 kj3 l0 (!t198) a1_0 a1_1 a1_2 a1_3 a1_4 a1_5 a1_6 a1_7 a1_8 a2_0 a2_1 a2_2 a2_3 a2_4 a2_5 a2_6 a2_7 a2_8) = some r := H
           have A40 := Aside0.mk A400
           clear A400
           have H' := Aside0.mk H
           clear H
           go_wp2_with (first | ((with_reducible refine gate_callee (f := 7) rfl ?_); refine goesL_ (some 32) rfl rfl Tryz.func7 (by kernel_rfl) rfl #[.slice A0 l0.length c0] rfl (by (try simp only [List.map_toArray, List.map_cons, List.map_nil]); first | done | rfl | (simp only [List.length_drop, List.length_take]; rfl)) ?_; (with_reducible refine (spec_LtRight.calls kj3 _ _ l0 true _ ?side1 ?side2 A27.out).mono ?_); (case side1 => repeat (first | exact (Kd.C_below HR0.out HB.out) | (with_reducible refine Kd.C_alloc ?_ _) | (with_reducible refine Kd.C_drewN ?_ _) | (with_reducible refine Kd.C_drew ?_))); (case side2 => exact HC0.out); rintro e w41 ⟨rfl, hb⟩; refine ⟨_, rfl, ?_⟩; have n0_ := Aside0.mk (Kd.R_below (by (with_reducible repeat (first | apply Kd.R_alloc | apply Kd.R_drewN | apply Kd.R_drew)); exact HO192.out) hb); have n1_ := Aside0.mk (blk_below (g := gb185) (o := .cells #[.int .i64 a1_0, .string a1_1, .string a1_2, .string a1_3, .string a1_4, .string a1_5, .string a1_6, .string a1_7, .string a1_8] 24 (0, 0)) (by (with_reducible repeat (first | refine blk_drewN ?_ _ | refine blk_drew ?_ | refine blk_alloc ?_ _)); exact BK185.out) hb); have n2_ := Aside0.mk (blk_below (g := gb186) (o := .cells #[.int .i64 a2_0, .string a2_1, .string a2_2, .string a2_3, .string a2_4, .string a2_5, .string a2_6, .string a2_7, .string a2_8] 24 (0, 0)) (by (with_reducible repeat (first | refine blk_drewN ?_ _ | refine blk_drew ?_ | refine blk_alloc ?_ _)); exact BK186.out) hb); have n3_ := Aside0.mk (below_step (by repeat (first | (with_reducible first | exact HB.out | apply below_alloc | apply pw_below_drewN | apply below_drew1 | refine below_set ?_ GE185.out | refine below_set ?_ GE186.out) | exact HB.out)) hb); clear HO192; clear BK185; clear BK186; clear HB; have HO192 := n0_; have BK185 := n1_; have BK186 := n2_; have HB := n3_; clear n0_ n1_ n2_ n3_; (try clear hb); (try clear hb2); (try clear hk); (try clear hi); obtain ⟨Ao42, co42, eo42⟩ := Kd.R_slice HO192.out; subst eo42) | (go_at_call 8; (with_reducible refine (spec_LsNames.calls kj3 _ _ t190 true _ ?side1 ?side2 A32.out).mono ?_); (case side1 => repeat (first | exact (Kd.R_reads' HO192.out).2.2 | (with_reducible refine Kd.C_alloc ?_ _) | (with_reducible refine Kd.C_drewN ?_ _) | (with_reducible refine Kd.C_drew ?_))); (case side2 => exact (Kd.R_reads' HO192.out).2.1); rintro e w43 ⟨rfl, hb⟩; have n0_ := Aside0.mk (Kd.R_below (by (with_reducible repeat (first | apply Kd.R_alloc | apply Kd.R_drewN | apply Kd.R_drew)); exact HO192.out) hb); have n1_ := Aside0.mk (blk_below (g := gb185) (o := .cells #[.int .i64 a1_0, .string a1_1, .string a1_2, .string a1_3, .string a1_4, .string a1_5, .string a1_6, .string a1_7, .string a1_8] 24 (0, 0)) (by (with_reducible repeat (first | refine blk_drewN ?_ _ | refine blk_drew ?_ | refine blk_alloc ?_ _)); exact BK185.out) hb); have n2_ := Aside0.mk (blk_below (g := gb186) (o := .cells #[.int .i64 a2_0, .string a2_1, .string a2_2, .string a2_3, .string a2_4, .string a2_5, .string a2_6, .string a2_7, .string a2_8] 24 (0, 0)) (by (with_reducible repeat (first | refine blk_drewN ?_ _ | refine blk_drew ?_ | refine blk_alloc ?_ _)); exact BK186.out) hb); have n3_ := Aside0.mk (below_step (by repeat (first | (with_reducible first | exact HB.out | apply below_alloc | apply pw_below_drewN | apply below_drew1 | refine below_set ?_ GE185.out | refine below_set ?_ GE186.out) | exact HB.out)) hb); clear HO192; clear BK185; clear BK186; clear HB; have HO192 := n0_; have BK185 := n1_; have BK186 := n2_; have HB := n3_; clear n0_ n1_ n2_ n3_; (try clear hb); (try clear hb2); (try clear hk); (try clear hi); have hnb44 := NB185_186.out; have hnc44 := NB186_185.out; have hcz45_0 : w43.cell? ⟨gb185, 0, none⟩ = some (.int .i64 a1_0) := (blk_cell BK185.out 0).trans rfl; have hcz45_1 : w43.cell? ⟨gb185, 1, none⟩ = some (.string a1_1) := (blk_cell BK185.out 1).trans rfl; have hcz45_2 : w43.cell? ⟨gb185, 2, none⟩ = some (.string a1_2) := (blk_cell BK185.out 2).trans rfl; have hcz45_3 : w43.cell? ⟨gb185, 3, none⟩ = some (.string a1_3) := (blk_cell BK185.out 3).trans rfl; have hcz45_4 : w43.cell? ⟨gb185, 4, none⟩ = some (.string a1_4) := (blk_cell BK185.out 4).trans rfl; have hcz45_5 : w43.cell? ⟨gb185, 5, none⟩ = some (.string a1_5) := (blk_cell BK185.out 5).trans rfl; have hcz45_6 : w43.cell? ⟨gb185, 6, none⟩ = some (.string a1_6) := (blk_cell BK185.out 6).trans rfl; have hcz45_7 : w43.cell? ⟨gb185, 7, none⟩ = some (.string a1_7) := (blk_cell BK185.out 7).trans rfl; have hcz45_8 : w43.cell? ⟨gb185, 8, none⟩ = some (.string a1_8) := (blk_cell BK185.out 8).trans rfl; have hfz45_0 := blk_frozen BK185.out 0; have hfz45_1 := blk_frozen BK185.out 1; have hfz45_2 := blk_frozen BK185.out 2; have hfz45_3 := blk_frozen BK185.out 3; have hfz45_4 := blk_frozen BK185.out 4; have hfz45_5 := blk_frozen BK185.out 5; have hfz45_6 := blk_frozen BK185.out 6; have hfz45_7 := blk_frozen BK185.out 7; have hfz45_8 := blk_frozen BK185.out 8) | (go_at_call 9; (with_reducible refine (spec_LsStyled.calls a1_0 a1_1 a1_2 a1_3 a1_4 a1_5 a1_6 a1_7 a1_8 true _ A34.out).mono ?_); rintro e w46 ⟨rfl, hb⟩; have n0_ := Aside0.mk (Kd.R_below (by (with_reducible repeat (first | apply Kd.R_alloc | apply Kd.R_drewN | apply Kd.R_drew)); exact HO192.out) hb); have n1_ := Aside0.mk (blk_below (g := gb185) (o := .cells #[.int .i64 a1_0, .string a1_1, .string a1_2, .string a1_3, .string a1_4, .string a1_5, .string a1_6, .string a1_7, .string a1_8] 24 (0, 0)) (by (with_reducible repeat (first | refine blk_drewN ?_ _ | refine blk_drew ?_ | refine blk_alloc ?_ _)); exact BK185.out) hb); have n2_ := Aside0.mk (blk_below (g := gb186) (o := .cells #[.int .i64 a2_0, .string a2_1, .string a2_2, .string a2_3, .string a2_4, .string a2_5, .string a2_6, .string a2_7, .string a2_8] 24 (0, 0)) (by (with_reducible repeat (first | refine blk_drewN ?_ _ | refine blk_drew ?_ | refine blk_alloc ?_ _)); exact BK186.out) hb); have n3_ := Aside0.mk (below_step (by repeat (first | (with_reducible first | exact HB.out | apply below_alloc | apply pw_below_drewN | apply below_drew1 | refine below_set ?_ GE185.out | refine below_set ?_ GE186.out) | exact HB.out)) hb); clear HO192; clear BK185; clear BK186; clear HB; have HO192 := n0_; have BK185 := n1_; have BK186 := n2_; have HB := n3_; clear n0_ n1_ n2_ n3_; (try clear hb); (try clear hb2); (try clear hk); (try clear hi); have hcz47_0 : w46.cell? ⟨gb186, 0, none⟩ = some (.int .i64 a2_0) := (blk_cell BK186.out 0).trans rfl; have hcz47_1 : w46.cell? ⟨gb186, 1, none⟩ = some (.string a2_1) := (blk_cell BK186.out 1).trans rfl; have hcz47_2 : w46.cell? ⟨gb186, 2, none⟩ = some (.string a2_2) := (blk_cell BK186.out 2).trans rfl; have hcz47_3 : w46.cell? ⟨gb186, 3, none⟩ = some (.string a2_3) := (blk_cell BK186.out 3).trans rfl; have hcz47_4 : w46.cell? ⟨gb186, 4, none⟩ = some (.string a2_4) := (blk_cell BK186.out 4).trans rfl; have hcz47_5 : w46.cell? ⟨gb186, 5, none⟩ = some (.string a2_5) := (blk_cell BK186.out 5).trans rfl; have hcz47_6 : w46.cell? ⟨gb186, 6, none⟩ = some (.string a2_6) := (blk_cell BK186.out 6).trans rfl; have hcz47_7 : w46.cell? ⟨gb186, 7, none⟩ = some (.string a2_7) := (blk_cell BK186.out 7).trans rfl; have hcz47_8 : w46.cell? ⟨gb186, 8, none⟩ = some (.string a2_8) := (blk_cell BK186.out 8).trans rfl; have hfz47_0 := blk_frozen BK186.out 0; have hfz47_1 := blk_frozen BK186.out 1; have hfz47_2 := blk_frozen BK186.out 2; have hfz47_3 := blk_frozen BK186.out 3; have hfz47_4 := blk_frozen BK186.out 4; have hfz47_5 := blk_frozen BK186.out 5; have hfz47_6 := blk_frozen BK186.out 6; have hfz47_7 := blk_frozen BK186.out 7; have hfz47_8 := blk_frozen BK186.out 8) | (go_at_call 9; (with_reducible refine (spec_LsStyled.calls a2_0 a2_1 a2_2 a2_3 a2_4 a2_5 a2_6 a2_7 a2_8 true _ A36.out).mono ?_); rintro e w48 ⟨rfl, hb⟩; have n0_ := Aside0.mk (Kd.R_below (by (with_reducible repeat (first | apply Kd.R_alloc | apply Kd.R_drewN | apply Kd.R_drew)); exact HO192.out) hb); have n1_ := Aside0.mk (blk_below (g := gb185) (o := .cells #[.int .i64 a1_0, .string a1_1, .string a1_2, .string a1_3, .string a1_4, .string a1_5, .string a1_6, .string a1_7, .string a1_8] 24 (0, 0)) (by (with_reducible repeat (first | refine blk_drewN ?_ _ | refine blk_drew ?_ | refine blk_alloc ?_ _)); exact BK185.out) hb); have n2_ := Aside0.mk (blk_below (g := gb186) (o := .cells #[.int .i64 a2_0, .string a2_1, .string a2_2, .string a2_3, .string a2_4, .string a2_5, .string a2_6, .string a2_7, .string a2_8] 24 (0, 0)) (by (with_reducible repeat (first | refine blk_drewN ?_ _ | refine blk_drew ?_ | refine blk_alloc ?_ _)); exact BK186.out) hb); have n3_ := Aside0.mk (below_step (by repeat (first | (with_reducible first | exact HB.out | apply below_alloc | apply pw_below_drewN | apply below_drew1 | refine below_set ?_ GE185.out | refine below_set ?_ GE186.out) | exact HB.out)) hb); clear HO192; clear BK185; clear BK186; clear HB; have HO192 := n0_; have BK185 := n1_; have BK186 := n2_; have HB := n3_; clear n0_ n1_ n2_ n3_; (try clear hb); (try clear hb2); (try clear hk); (try clear hi); have hcz49_0 : w48.cell? ⟨gb185, 0, none⟩ = some (.int .i64 a1_0) := (blk_cell BK185.out 0).trans rfl; have hcz49_1 : w48.cell? ⟨gb185, 1, none⟩ = some (.string a1_1) := (blk_cell BK185.out 1).trans rfl; have hcz49_2 : w48.cell? ⟨gb185, 2, none⟩ = some (.string a1_2) := (blk_cell BK185.out 2).trans rfl; have hcz49_3 : w48.cell? ⟨gb185, 3, none⟩ = some (.string a1_3) := (blk_cell BK185.out 3).trans rfl; have hcz49_4 : w48.cell? ⟨gb185, 4, none⟩ = some (.string a1_4) := (blk_cell BK185.out 4).trans rfl; have hcz49_5 : w48.cell? ⟨gb185, 5, none⟩ = some (.string a1_5) := (blk_cell BK185.out 5).trans rfl; have hcz49_6 : w48.cell? ⟨gb185, 6, none⟩ = some (.string a1_6) := (blk_cell BK185.out 6).trans rfl; have hcz49_7 : w48.cell? ⟨gb185, 7, none⟩ = some (.string a1_7) := (blk_cell BK185.out 7).trans rfl; have hcz49_8 : w48.cell? ⟨gb185, 8, none⟩ = some (.string a1_8) := (blk_cell BK185.out 8).trans rfl; have hfz49_0 := blk_frozen BK185.out 0; have hfz49_1 := blk_frozen BK185.out 1; have hfz49_2 := blk_frozen BK185.out 2; have hfz49_3 := blk_frozen BK185.out 3; have hfz49_4 := blk_frozen BK185.out 4; have hfz49_5 := blk_frozen BK185.out 5; have hfz49_6 := blk_frozen BK185.out 6; have hfz49_7 := blk_frozen BK185.out 7; have hfz49_8 := blk_frozen BK185.out 8) | (go_at_call 10; (with_reducible refine (spec_LsClear.calls kj3 a1_0 a1_1 a1_2 a1_3 a1_4 a1_5 a1_6 a1_7 a1_8 true _ A38.out).mono ?_); rintro e w50 ⟨rfl, hb⟩; have n0_ := Aside0.mk (Kd.R_below (by (with_reducible repeat (first | apply Kd.R_alloc | apply Kd.R_drewN | apply Kd.R_drew)); exact HO192.out) hb); have n1_ := Aside0.mk (blk_below (g := gb185) (o := .cells #[.int .i64 a1_0, .string a1_1, .string a1_2, .string a1_3, .string a1_4, .string a1_5, .string a1_6, .string a1_7, .string a1_8] 24 (0, 0)) (by (with_reducible repeat (first | refine blk_drewN ?_ _ | refine blk_drew ?_ | refine blk_alloc ?_ _)); exact BK185.out) hb); have n2_ := Aside0.mk (blk_below (g := gb186) (o := .cells #[.int .i64 a2_0, .string a2_1, .string a2_2, .string a2_3, .string a2_4, .string a2_5, .string a2_6, .string a2_7, .string a2_8] 24 (0, 0)) (by (with_reducible repeat (first | refine blk_drewN ?_ _ | refine blk_drew ?_ | refine blk_alloc ?_ _)); exact BK186.out) hb); have n3_ := Aside0.mk (below_step (by repeat (first | (with_reducible first | exact HB.out | apply below_alloc | apply pw_below_drewN | apply below_drew1 | refine below_set ?_ GE185.out | refine below_set ?_ GE186.out) | exact HB.out)) hb); clear HO192; clear BK185; clear BK186; clear HB; have HO192 := n0_; have BK185 := n1_; have BK186 := n2_; have HB := n3_; clear n0_ n1_ n2_ n3_; (try clear hb); (try clear hb2); (try clear hk); (try clear hi); have hcz51_0 : w50.cell? ⟨gb186, 0, none⟩ = some (.int .i64 a2_0) := (blk_cell BK186.out 0).trans rfl; have hcz51_1 : w50.cell? ⟨gb186, 1, none⟩ = some (.string a2_1) := (blk_cell BK186.out 1).trans rfl; have hcz51_2 : w50.cell? ⟨gb186, 2, none⟩ = some (.string a2_2) := (blk_cell BK186.out 2).trans rfl; have hcz51_3 : w50.cell? ⟨gb186, 3, none⟩ = some (.string a2_3) := (blk_cell BK186.out 3).trans rfl; have hcz51_4 : w50.cell? ⟨gb186, 4, none⟩ = some (.string a2_4) := (blk_cell BK186.out 4).trans rfl; have hcz51_5 : w50.cell? ⟨gb186, 5, none⟩ = some (.string a2_5) := (blk_cell BK186.out 5).trans rfl; have hcz51_6 : w50.cell? ⟨gb186, 6, none⟩ = some (.string a2_6) := (blk_cell BK186.out 6).trans rfl; have hcz51_7 : w50.cell? ⟨gb186, 7, none⟩ = some (.string a2_7) := (blk_cell BK186.out 7).trans rfl; have hcz51_8 : w50.cell? ⟨gb186, 8, none⟩ = some (.string a2_8) := (blk_cell BK186.out 8).trans rfl; have hfz51_0 := blk_frozen BK186.out 0; have hfz51_1 := blk_frozen BK186.out 1; have hfz51_2 := blk_frozen BK186.out 2; have hfz51_3 := blk_frozen BK186.out 3; have hfz51_4 := blk_frozen BK186.out 4; have hfz51_5 := blk_frozen BK186.out 5; have hfz51_6 := blk_frozen BK186.out 6; have hfz51_7 := blk_frozen BK186.out 7; have hfz51_8 := blk_frozen BK186.out 8) | (go_at_call 10; (with_reducible refine (spec_LsClear.calls kj3 a2_0 a2_1 a2_2 a2_3 a2_4 a2_5 a2_6 a2_7 a2_8 t198 _ A40.out).mono ?_); rintro e w52 ⟨rfl, hb⟩; have n0_ := Aside0.mk (Kd.R_below (by (with_reducible repeat (first | apply Kd.R_alloc | apply Kd.R_drewN | apply Kd.R_drew)); exact HO192.out) hb); have n1_ := Aside0.mk (blk_below (g := gb185) (o := .cells #[.int .i64 a1_0, .string a1_1, .string a1_2, .string a1_3, .string a1_4, .string a1_5, .string a1_6, .string a1_7, .string a1_8] 24 (0, 0)) (by (with_reducible repeat (first | refine blk_drewN ?_ _ | refine blk_drew ?_ | refine blk_alloc ?_ _)); exact BK185.out) hb); have n2_ := Aside0.mk (blk_below (g := gb186) (o := .cells #[.int .i64 a2_0, .string a2_1, .string a2_2, .string a2_3, .string a2_4, .string a2_5, .string a2_6, .string a2_7, .string a2_8] 24 (0, 0)) (by (with_reducible repeat (first | refine blk_drewN ?_ _ | refine blk_drew ?_ | refine blk_alloc ?_ _)); exact BK186.out) hb); have n3_ := Aside0.mk (below_step (by repeat (first | (with_reducible first | exact HB.out | apply below_alloc | apply pw_below_drewN | apply below_drew1 | refine below_set ?_ GE185.out | refine below_set ?_ GE186.out) | exact HB.out)) hb); clear HO192; clear BK185; clear BK186; clear HB; have HO192 := n0_; have BK185 := n1_; have BK186 := n2_; have HB := n3_; clear n0_ n1_ n2_ n3_; (try clear hb); (try clear hb2); (try clear hk); (try clear hi)))
           go_meet
           case rel => exact ⟨_, (!t198), (by first | rfl | (simp; done) | (simp [*]; done)), H', ⟨by have := HJ3.out; first | omega | exact Nat.le_refl _⟩, ⟨by (with_reducible repeat (first | refine blk_drewN ?_ _ | refine blk_drew ?_ | refine blk_alloc ?_ _)); exact BK185.out⟩, ⟨by (with_reducible repeat (first | refine blk_drewN ?_ _ | refine blk_drew ?_ | refine blk_alloc ?_ _)); exact BK186.out⟩, ⟨by repeat (first | (with_reducible first | exact HB.out | apply below_alloc | apply pw_below_drewN | apply below_drew1 | refine below_set ?_ GE185.out | refine below_set ?_ GE186.out) | exact HB.out)⟩⟩
          ·replace c39 := Bool.eq_false_iff.mpr c39
           subst c39
           have H1 : (laws_FnListsRoads.j1 kj3 l0 true a1_0 a1_1 a1_2 a1_3 a1_4 a1_5 a1_6 a1_7 a1_8 a2_0 a2_1 a2_2 a2_3 a2_4 a2_5 a2_6 a2_7 a2_8) = some r := by rw [if_neg (show ¬ (false = true) by decide)] at H; exact H
           clear H
           have H := H1
           clear H1
           have H' := Aside0.mk H
           clear H
           go_wp2_with (first | ((with_reducible refine gate_callee (f := 7) rfl ?_); refine goesL_ (some 32) rfl rfl Tryz.func7 (by kernel_rfl) rfl #[.slice A0 l0.length c0] rfl (by (try simp only [List.map_toArray, List.map_cons, List.map_nil]); first | done | rfl | (simp only [List.length_drop, List.length_take]; rfl)) ?_; (with_reducible refine (spec_LtRight.calls kj3 _ _ l0 true _ ?side1 ?side2 A27.out).mono ?_); (case side1 => repeat (first | exact (Kd.C_below HR0.out HB.out) | (with_reducible refine Kd.C_alloc ?_ _) | (with_reducible refine Kd.C_drewN ?_ _) | (with_reducible refine Kd.C_drew ?_))); (case side2 => exact HC0.out); rintro e w53 ⟨rfl, hb⟩; refine ⟨_, rfl, ?_⟩; have n0_ := Aside0.mk (Kd.R_below (by (with_reducible repeat (first | apply Kd.R_alloc | apply Kd.R_drewN | apply Kd.R_drew)); exact HO192.out) hb); have n1_ := Aside0.mk (blk_below (g := gb185) (o := .cells #[.int .i64 a1_0, .string a1_1, .string a1_2, .string a1_3, .string a1_4, .string a1_5, .string a1_6, .string a1_7, .string a1_8] 24 (0, 0)) (by (with_reducible repeat (first | refine blk_drewN ?_ _ | refine blk_drew ?_ | refine blk_alloc ?_ _)); exact BK185.out) hb); have n2_ := Aside0.mk (blk_below (g := gb186) (o := .cells #[.int .i64 a2_0, .string a2_1, .string a2_2, .string a2_3, .string a2_4, .string a2_5, .string a2_6, .string a2_7, .string a2_8] 24 (0, 0)) (by (with_reducible repeat (first | refine blk_drewN ?_ _ | refine blk_drew ?_ | refine blk_alloc ?_ _)); exact BK186.out) hb); have n3_ := Aside0.mk (below_step (by repeat (first | (with_reducible first | exact HB.out | apply below_alloc | apply pw_below_drewN | apply below_drew1 | refine below_set ?_ GE185.out | refine below_set ?_ GE186.out) | exact HB.out)) hb); clear HO192; clear BK185; clear BK186; clear HB; have HO192 := n0_; have BK185 := n1_; have BK186 := n2_; have HB := n3_; clear n0_ n1_ n2_ n3_; (try clear hb); (try clear hb2); (try clear hk); (try clear hi); obtain ⟨Ao54, co54, eo54⟩ := Kd.R_slice HO192.out; subst eo54) | (go_at_call 8; (with_reducible refine (spec_LsNames.calls kj3 _ _ t190 true _ ?side1 ?side2 A32.out).mono ?_); (case side1 => repeat (first | exact (Kd.R_reads' HO192.out).2.2 | (with_reducible refine Kd.C_alloc ?_ _) | (with_reducible refine Kd.C_drewN ?_ _) | (with_reducible refine Kd.C_drew ?_))); (case side2 => exact (Kd.R_reads' HO192.out).2.1); rintro e w55 ⟨rfl, hb⟩; have n0_ := Aside0.mk (Kd.R_below (by (with_reducible repeat (first | apply Kd.R_alloc | apply Kd.R_drewN | apply Kd.R_drew)); exact HO192.out) hb); have n1_ := Aside0.mk (blk_below (g := gb185) (o := .cells #[.int .i64 a1_0, .string a1_1, .string a1_2, .string a1_3, .string a1_4, .string a1_5, .string a1_6, .string a1_7, .string a1_8] 24 (0, 0)) (by (with_reducible repeat (first | refine blk_drewN ?_ _ | refine blk_drew ?_ | refine blk_alloc ?_ _)); exact BK185.out) hb); have n2_ := Aside0.mk (blk_below (g := gb186) (o := .cells #[.int .i64 a2_0, .string a2_1, .string a2_2, .string a2_3, .string a2_4, .string a2_5, .string a2_6, .string a2_7, .string a2_8] 24 (0, 0)) (by (with_reducible repeat (first | refine blk_drewN ?_ _ | refine blk_drew ?_ | refine blk_alloc ?_ _)); exact BK186.out) hb); have n3_ := Aside0.mk (below_step (by repeat (first | (with_reducible first | exact HB.out | apply below_alloc | apply pw_below_drewN | apply below_drew1 | refine below_set ?_ GE185.out | refine below_set ?_ GE186.out) | exact HB.out)) hb); clear HO192; clear BK185; clear BK186; clear HB; have HO192 := n0_; have BK185 := n1_; have BK186 := n2_; have HB := n3_; clear n0_ n1_ n2_ n3_; (try clear hb); (try clear hb2); (try clear hk); (try clear hi); have hnb56 := NB185_186.out; have hnc56 := NB186_185.out; have hcz57_0 : w55.cell? ⟨gb185, 0, none⟩ = some (.int .i64 a1_0) := (blk_cell BK185.out 0).trans rfl; have hcz57_1 : w55.cell? ⟨gb185, 1, none⟩ = some (.string a1_1) := (blk_cell BK185.out 1).trans rfl; have hcz57_2 : w55.cell? ⟨gb185, 2, none⟩ = some (.string a1_2) := (blk_cell BK185.out 2).trans rfl; have hcz57_3 : w55.cell? ⟨gb185, 3, none⟩ = some (.string a1_3) := (blk_cell BK185.out 3).trans rfl; have hcz57_4 : w55.cell? ⟨gb185, 4, none⟩ = some (.string a1_4) := (blk_cell BK185.out 4).trans rfl; have hcz57_5 : w55.cell? ⟨gb185, 5, none⟩ = some (.string a1_5) := (blk_cell BK185.out 5).trans rfl; have hcz57_6 : w55.cell? ⟨gb185, 6, none⟩ = some (.string a1_6) := (blk_cell BK185.out 6).trans rfl; have hcz57_7 : w55.cell? ⟨gb185, 7, none⟩ = some (.string a1_7) := (blk_cell BK185.out 7).trans rfl; have hcz57_8 : w55.cell? ⟨gb185, 8, none⟩ = some (.string a1_8) := (blk_cell BK185.out 8).trans rfl; have hfz57_0 := blk_frozen BK185.out 0; have hfz57_1 := blk_frozen BK185.out 1; have hfz57_2 := blk_frozen BK185.out 2; have hfz57_3 := blk_frozen BK185.out 3; have hfz57_4 := blk_frozen BK185.out 4; have hfz57_5 := blk_frozen BK185.out 5; have hfz57_6 := blk_frozen BK185.out 6; have hfz57_7 := blk_frozen BK185.out 7; have hfz57_8 := blk_frozen BK185.out 8) | (go_at_call 9; (with_reducible refine (spec_LsStyled.calls a1_0 a1_1 a1_2 a1_3 a1_4 a1_5 a1_6 a1_7 a1_8 true _ A34.out).mono ?_); rintro e w58 ⟨rfl, hb⟩; have n0_ := Aside0.mk (Kd.R_below (by (with_reducible repeat (first | apply Kd.R_alloc | apply Kd.R_drewN | apply Kd.R_drew)); exact HO192.out) hb); have n1_ := Aside0.mk (blk_below (g := gb185) (o := .cells #[.int .i64 a1_0, .string a1_1, .string a1_2, .string a1_3, .string a1_4, .string a1_5, .string a1_6, .string a1_7, .string a1_8] 24 (0, 0)) (by (with_reducible repeat (first | refine blk_drewN ?_ _ | refine blk_drew ?_ | refine blk_alloc ?_ _)); exact BK185.out) hb); have n2_ := Aside0.mk (blk_below (g := gb186) (o := .cells #[.int .i64 a2_0, .string a2_1, .string a2_2, .string a2_3, .string a2_4, .string a2_5, .string a2_6, .string a2_7, .string a2_8] 24 (0, 0)) (by (with_reducible repeat (first | refine blk_drewN ?_ _ | refine blk_drew ?_ | refine blk_alloc ?_ _)); exact BK186.out) hb); have n3_ := Aside0.mk (below_step (by repeat (first | (with_reducible first | exact HB.out | apply below_alloc | apply pw_below_drewN | apply below_drew1 | refine below_set ?_ GE185.out | refine below_set ?_ GE186.out) | exact HB.out)) hb); clear HO192; clear BK185; clear BK186; clear HB; have HO192 := n0_; have BK185 := n1_; have BK186 := n2_; have HB := n3_; clear n0_ n1_ n2_ n3_; (try clear hb); (try clear hb2); (try clear hk); (try clear hi); have hcz59_0 : w58.cell? ⟨gb186, 0, none⟩ = some (.int .i64 a2_0) := (blk_cell BK186.out 0).trans rfl; have hcz59_1 : w58.cell? ⟨gb186, 1, none⟩ = some (.string a2_1) := (blk_cell BK186.out 1).trans rfl; have hcz59_2 : w58.cell? ⟨gb186, 2, none⟩ = some (.string a2_2) := (blk_cell BK186.out 2).trans rfl; have hcz59_3 : w58.cell? ⟨gb186, 3, none⟩ = some (.string a2_3) := (blk_cell BK186.out 3).trans rfl; have hcz59_4 : w58.cell? ⟨gb186, 4, none⟩ = some (.string a2_4) := (blk_cell BK186.out 4).trans rfl; have hcz59_5 : w58.cell? ⟨gb186, 5, none⟩ = some (.string a2_5) := (blk_cell BK186.out 5).trans rfl; have hcz59_6 : w58.cell? ⟨gb186, 6, none⟩ = some (.string a2_6) := (blk_cell BK186.out 6).trans rfl; have hcz59_7 : w58.cell? ⟨gb186, 7, none⟩ = some (.string a2_7) := (blk_cell BK186.out 7).trans rfl; have hcz59_8 : w58.cell? ⟨gb186, 8, none⟩ = some (.string a2_8) := (blk_cell BK186.out 8).trans rfl; have hfz59_0 := blk_frozen BK186.out 0; have hfz59_1 := blk_frozen BK186.out 1; have hfz59_2 := blk_frozen BK186.out 2; have hfz59_3 := blk_frozen BK186.out 3; have hfz59_4 := blk_frozen BK186.out 4; have hfz59_5 := blk_frozen BK186.out 5; have hfz59_6 := blk_frozen BK186.out 6; have hfz59_7 := blk_frozen BK186.out 7; have hfz59_8 := blk_frozen BK186.out 8) | (go_at_call 9; (with_reducible refine (spec_LsStyled.calls a2_0 a2_1 a2_2 a2_3 a2_4 a2_5 a2_6 a2_7 a2_8 true _ A36.out).mono ?_); rintro e w60 ⟨rfl, hb⟩; have n0_ := Aside0.mk (Kd.R_below (by (with_reducible repeat (first | apply Kd.R_alloc | apply Kd.R_drewN | apply Kd.R_drew)); exact HO192.out) hb); have n1_ := Aside0.mk (blk_below (g := gb185) (o := .cells #[.int .i64 a1_0, .string a1_1, .string a1_2, .string a1_3, .string a1_4, .string a1_5, .string a1_6, .string a1_7, .string a1_8] 24 (0, 0)) (by (with_reducible repeat (first | refine blk_drewN ?_ _ | refine blk_drew ?_ | refine blk_alloc ?_ _)); exact BK185.out) hb); have n2_ := Aside0.mk (blk_below (g := gb186) (o := .cells #[.int .i64 a2_0, .string a2_1, .string a2_2, .string a2_3, .string a2_4, .string a2_5, .string a2_6, .string a2_7, .string a2_8] 24 (0, 0)) (by (with_reducible repeat (first | refine blk_drewN ?_ _ | refine blk_drew ?_ | refine blk_alloc ?_ _)); exact BK186.out) hb); have n3_ := Aside0.mk (below_step (by repeat (first | (with_reducible first | exact HB.out | apply below_alloc | apply pw_below_drewN | apply below_drew1 | refine below_set ?_ GE185.out | refine below_set ?_ GE186.out) | exact HB.out)) hb); clear HO192; clear BK185; clear BK186; clear HB; have HO192 := n0_; have BK185 := n1_; have BK186 := n2_; have HB := n3_; clear n0_ n1_ n2_ n3_; (try clear hb); (try clear hb2); (try clear hk); (try clear hi); have hcz61_0 : w60.cell? ⟨gb185, 0, none⟩ = some (.int .i64 a1_0) := (blk_cell BK185.out 0).trans rfl; have hcz61_1 : w60.cell? ⟨gb185, 1, none⟩ = some (.string a1_1) := (blk_cell BK185.out 1).trans rfl; have hcz61_2 : w60.cell? ⟨gb185, 2, none⟩ = some (.string a1_2) := (blk_cell BK185.out 2).trans rfl; have hcz61_3 : w60.cell? ⟨gb185, 3, none⟩ = some (.string a1_3) := (blk_cell BK185.out 3).trans rfl; have hcz61_4 : w60.cell? ⟨gb185, 4, none⟩ = some (.string a1_4) := (blk_cell BK185.out 4).trans rfl; have hcz61_5 : w60.cell? ⟨gb185, 5, none⟩ = some (.string a1_5) := (blk_cell BK185.out 5).trans rfl; have hcz61_6 : w60.cell? ⟨gb185, 6, none⟩ = some (.string a1_6) := (blk_cell BK185.out 6).trans rfl; have hcz61_7 : w60.cell? ⟨gb185, 7, none⟩ = some (.string a1_7) := (blk_cell BK185.out 7).trans rfl; have hcz61_8 : w60.cell? ⟨gb185, 8, none⟩ = some (.string a1_8) := (blk_cell BK185.out 8).trans rfl; have hfz61_0 := blk_frozen BK185.out 0; have hfz61_1 := blk_frozen BK185.out 1; have hfz61_2 := blk_frozen BK185.out 2; have hfz61_3 := blk_frozen BK185.out 3; have hfz61_4 := blk_frozen BK185.out 4; have hfz61_5 := blk_frozen BK185.out 5; have hfz61_6 := blk_frozen BK185.out 6; have hfz61_7 := blk_frozen BK185.out 7; have hfz61_8 := blk_frozen BK185.out 8) | (go_at_call 10; (with_reducible refine (spec_LsClear.calls kj3 a1_0 a1_1 a1_2 a1_3 a1_4 a1_5 a1_6 a1_7 a1_8 false _ A38.out).mono ?_); rintro e w62 ⟨rfl, hb⟩; have n0_ := Aside0.mk (Kd.R_below (by (with_reducible repeat (first | apply Kd.R_alloc | apply Kd.R_drewN | apply Kd.R_drew)); exact HO192.out) hb); have n1_ := Aside0.mk (blk_below (g := gb185) (o := .cells #[.int .i64 a1_0, .string a1_1, .string a1_2, .string a1_3, .string a1_4, .string a1_5, .string a1_6, .string a1_7, .string a1_8] 24 (0, 0)) (by (with_reducible repeat (first | refine blk_drewN ?_ _ | refine blk_drew ?_ | refine blk_alloc ?_ _)); exact BK185.out) hb); have n2_ := Aside0.mk (blk_below (g := gb186) (o := .cells #[.int .i64 a2_0, .string a2_1, .string a2_2, .string a2_3, .string a2_4, .string a2_5, .string a2_6, .string a2_7, .string a2_8] 24 (0, 0)) (by (with_reducible repeat (first | refine blk_drewN ?_ _ | refine blk_drew ?_ | refine blk_alloc ?_ _)); exact BK186.out) hb); have n3_ := Aside0.mk (below_step (by repeat (first | (with_reducible first | exact HB.out | apply below_alloc | apply pw_below_drewN | apply below_drew1 | refine below_set ?_ GE185.out | refine below_set ?_ GE186.out) | exact HB.out)) hb); clear HO192; clear BK185; clear BK186; clear HB; have HO192 := n0_; have BK185 := n1_; have BK186 := n2_; have HB := n3_; clear n0_ n1_ n2_ n3_; (try clear hb); (try clear hb2); (try clear hk); (try clear hi)))
           go_meet
           case rel => exact ⟨_, (true), (by first | rfl | (simp; done) | (simp [*]; done)), H', ⟨by have := HJ3.out; first | omega | exact Nat.le_refl _⟩, ⟨by (with_reducible repeat (first | refine blk_drewN ?_ _ | refine blk_drew ?_ | refine blk_alloc ?_ _)); exact BK185.out⟩, ⟨by (with_reducible repeat (first | refine blk_drewN ?_ _ | refine blk_drew ?_ | refine blk_alloc ?_ _)); exact BK186.out⟩, ⟨by repeat (first | (with_reducible first | exact HB.out | apply below_alloc | apply pw_below_drewN | apply below_drew1 | refine below_set ?_ GE185.out | refine below_set ?_ GE186.out) | exact HB.out)⟩⟩
         ·replace c37 := Bool.eq_false_iff.mpr c37
          subst c37
          have H1 : (laws_FnListsRoads.j1 kj3 l0 true a1_0 a1_1 a1_2 a1_3 a1_4 a1_5 a1_6 a1_7 a1_8 a2_0 a2_1 a2_2 a2_3 a2_4 a2_5 a2_6 a2_7 a2_8) = some r := by rw [if_neg (show ¬ (false = true) by decide)] at H; exact H
          clear H
          have H := H1
          clear H1
          have H' := Aside0.mk H
          clear H
          go_wp2_with (first | ((with_reducible refine gate_callee (f := 7) rfl ?_); refine goesL_ (some 32) rfl rfl Tryz.func7 (by kernel_rfl) rfl #[.slice A0 l0.length c0] rfl (by (try simp only [List.map_toArray, List.map_cons, List.map_nil]); first | done | rfl | (simp only [List.length_drop, List.length_take]; rfl)) ?_; (with_reducible refine (spec_LtRight.calls kj3 _ _ l0 true _ ?side1 ?side2 A27.out).mono ?_); (case side1 => repeat (first | exact (Kd.C_below HR0.out HB.out) | (with_reducible refine Kd.C_alloc ?_ _) | (with_reducible refine Kd.C_drewN ?_ _) | (with_reducible refine Kd.C_drew ?_))); (case side2 => exact HC0.out); rintro e w63 ⟨rfl, hb⟩; refine ⟨_, rfl, ?_⟩; have n0_ := Aside0.mk (Kd.R_below (by (with_reducible repeat (first | apply Kd.R_alloc | apply Kd.R_drewN | apply Kd.R_drew)); exact HO192.out) hb); have n1_ := Aside0.mk (blk_below (g := gb185) (o := .cells #[.int .i64 a1_0, .string a1_1, .string a1_2, .string a1_3, .string a1_4, .string a1_5, .string a1_6, .string a1_7, .string a1_8] 24 (0, 0)) (by (with_reducible repeat (first | refine blk_drewN ?_ _ | refine blk_drew ?_ | refine blk_alloc ?_ _)); exact BK185.out) hb); have n2_ := Aside0.mk (blk_below (g := gb186) (o := .cells #[.int .i64 a2_0, .string a2_1, .string a2_2, .string a2_3, .string a2_4, .string a2_5, .string a2_6, .string a2_7, .string a2_8] 24 (0, 0)) (by (with_reducible repeat (first | refine blk_drewN ?_ _ | refine blk_drew ?_ | refine blk_alloc ?_ _)); exact BK186.out) hb); have n3_ := Aside0.mk (below_step (by repeat (first | (with_reducible first | exact HB.out | apply below_alloc | apply pw_below_drewN | apply below_drew1 | refine below_set ?_ GE185.out | refine below_set ?_ GE186.out) | exact HB.out)) hb); clear HO192; clear BK185; clear BK186; clear HB; have HO192 := n0_; have BK185 := n1_; have BK186 := n2_; have HB := n3_; clear n0_ n1_ n2_ n3_; (try clear hb); (try clear hb2); (try clear hk); (try clear hi); obtain ⟨Ao64, co64, eo64⟩ := Kd.R_slice HO192.out; subst eo64) | (go_at_call 8; (with_reducible refine (spec_LsNames.calls kj3 _ _ t190 true _ ?side1 ?side2 A32.out).mono ?_); (case side1 => repeat (first | exact (Kd.R_reads' HO192.out).2.2 | (with_reducible refine Kd.C_alloc ?_ _) | (with_reducible refine Kd.C_drewN ?_ _) | (with_reducible refine Kd.C_drew ?_))); (case side2 => exact (Kd.R_reads' HO192.out).2.1); rintro e w65 ⟨rfl, hb⟩; have n0_ := Aside0.mk (Kd.R_below (by (with_reducible repeat (first | apply Kd.R_alloc | apply Kd.R_drewN | apply Kd.R_drew)); exact HO192.out) hb); have n1_ := Aside0.mk (blk_below (g := gb185) (o := .cells #[.int .i64 a1_0, .string a1_1, .string a1_2, .string a1_3, .string a1_4, .string a1_5, .string a1_6, .string a1_7, .string a1_8] 24 (0, 0)) (by (with_reducible repeat (first | refine blk_drewN ?_ _ | refine blk_drew ?_ | refine blk_alloc ?_ _)); exact BK185.out) hb); have n2_ := Aside0.mk (blk_below (g := gb186) (o := .cells #[.int .i64 a2_0, .string a2_1, .string a2_2, .string a2_3, .string a2_4, .string a2_5, .string a2_6, .string a2_7, .string a2_8] 24 (0, 0)) (by (with_reducible repeat (first | refine blk_drewN ?_ _ | refine blk_drew ?_ | refine blk_alloc ?_ _)); exact BK186.out) hb); have n3_ := Aside0.mk (below_step (by repeat (first | (with_reducible first | exact HB.out | apply below_alloc | apply pw_below_drewN | apply below_drew1 | refine below_set ?_ GE185.out | refine below_set ?_ GE186.out) | exact HB.out)) hb); clear HO192; clear BK185; clear BK186; clear HB; have HO192 := n0_; have BK185 := n1_; have BK186 := n2_; have HB := n3_; clear n0_ n1_ n2_ n3_; (try clear hb); (try clear hb2); (try clear hk); (try clear hi); have hnb66 := NB185_186.out; have hnc66 := NB186_185.out; have hcz67_0 : w65.cell? ⟨gb185, 0, none⟩ = some (.int .i64 a1_0) := (blk_cell BK185.out 0).trans rfl; have hcz67_1 : w65.cell? ⟨gb185, 1, none⟩ = some (.string a1_1) := (blk_cell BK185.out 1).trans rfl; have hcz67_2 : w65.cell? ⟨gb185, 2, none⟩ = some (.string a1_2) := (blk_cell BK185.out 2).trans rfl; have hcz67_3 : w65.cell? ⟨gb185, 3, none⟩ = some (.string a1_3) := (blk_cell BK185.out 3).trans rfl; have hcz67_4 : w65.cell? ⟨gb185, 4, none⟩ = some (.string a1_4) := (blk_cell BK185.out 4).trans rfl; have hcz67_5 : w65.cell? ⟨gb185, 5, none⟩ = some (.string a1_5) := (blk_cell BK185.out 5).trans rfl; have hcz67_6 : w65.cell? ⟨gb185, 6, none⟩ = some (.string a1_6) := (blk_cell BK185.out 6).trans rfl; have hcz67_7 : w65.cell? ⟨gb185, 7, none⟩ = some (.string a1_7) := (blk_cell BK185.out 7).trans rfl; have hcz67_8 : w65.cell? ⟨gb185, 8, none⟩ = some (.string a1_8) := (blk_cell BK185.out 8).trans rfl; have hfz67_0 := blk_frozen BK185.out 0; have hfz67_1 := blk_frozen BK185.out 1; have hfz67_2 := blk_frozen BK185.out 2; have hfz67_3 := blk_frozen BK185.out 3; have hfz67_4 := blk_frozen BK185.out 4; have hfz67_5 := blk_frozen BK185.out 5; have hfz67_6 := blk_frozen BK185.out 6; have hfz67_7 := blk_frozen BK185.out 7; have hfz67_8 := blk_frozen BK185.out 8) | (go_at_call 9; (with_reducible refine (spec_LsStyled.calls a1_0 a1_1 a1_2 a1_3 a1_4 a1_5 a1_6 a1_7 a1_8 true _ A34.out).mono ?_); rintro e w68 ⟨rfl, hb⟩; have n0_ := Aside0.mk (Kd.R_below (by (with_reducible repeat (first | apply Kd.R_alloc | apply Kd.R_drewN | apply Kd.R_drew)); exact HO192.out) hb); have n1_ := Aside0.mk (blk_below (g := gb185) (o := .cells #[.int .i64 a1_0, .string a1_1, .string a1_2, .string a1_3, .string a1_4, .string a1_5, .string a1_6, .string a1_7, .string a1_8] 24 (0, 0)) (by (with_reducible repeat (first | refine blk_drewN ?_ _ | refine blk_drew ?_ | refine blk_alloc ?_ _)); exact BK185.out) hb); have n2_ := Aside0.mk (blk_below (g := gb186) (o := .cells #[.int .i64 a2_0, .string a2_1, .string a2_2, .string a2_3, .string a2_4, .string a2_5, .string a2_6, .string a2_7, .string a2_8] 24 (0, 0)) (by (with_reducible repeat (first | refine blk_drewN ?_ _ | refine blk_drew ?_ | refine blk_alloc ?_ _)); exact BK186.out) hb); have n3_ := Aside0.mk (below_step (by repeat (first | (with_reducible first | exact HB.out | apply below_alloc | apply pw_below_drewN | apply below_drew1 | refine below_set ?_ GE185.out | refine below_set ?_ GE186.out) | exact HB.out)) hb); clear HO192; clear BK185; clear BK186; clear HB; have HO192 := n0_; have BK185 := n1_; have BK186 := n2_; have HB := n3_; clear n0_ n1_ n2_ n3_; (try clear hb); (try clear hb2); (try clear hk); (try clear hi); have hcz69_0 : w68.cell? ⟨gb186, 0, none⟩ = some (.int .i64 a2_0) := (blk_cell BK186.out 0).trans rfl; have hcz69_1 : w68.cell? ⟨gb186, 1, none⟩ = some (.string a2_1) := (blk_cell BK186.out 1).trans rfl; have hcz69_2 : w68.cell? ⟨gb186, 2, none⟩ = some (.string a2_2) := (blk_cell BK186.out 2).trans rfl; have hcz69_3 : w68.cell? ⟨gb186, 3, none⟩ = some (.string a2_3) := (blk_cell BK186.out 3).trans rfl; have hcz69_4 : w68.cell? ⟨gb186, 4, none⟩ = some (.string a2_4) := (blk_cell BK186.out 4).trans rfl; have hcz69_5 : w68.cell? ⟨gb186, 5, none⟩ = some (.string a2_5) := (blk_cell BK186.out 5).trans rfl; have hcz69_6 : w68.cell? ⟨gb186, 6, none⟩ = some (.string a2_6) := (blk_cell BK186.out 6).trans rfl; have hcz69_7 : w68.cell? ⟨gb186, 7, none⟩ = some (.string a2_7) := (blk_cell BK186.out 7).trans rfl; have hcz69_8 : w68.cell? ⟨gb186, 8, none⟩ = some (.string a2_8) := (blk_cell BK186.out 8).trans rfl; have hfz69_0 := blk_frozen BK186.out 0; have hfz69_1 := blk_frozen BK186.out 1; have hfz69_2 := blk_frozen BK186.out 2; have hfz69_3 := blk_frozen BK186.out 3; have hfz69_4 := blk_frozen BK186.out 4; have hfz69_5 := blk_frozen BK186.out 5; have hfz69_6 := blk_frozen BK186.out 6; have hfz69_7 := blk_frozen BK186.out 7; have hfz69_8 := blk_frozen BK186.out 8) | (go_at_call 9; (with_reducible refine (spec_LsStyled.calls a2_0 a2_1 a2_2 a2_3 a2_4 a2_5 a2_6 a2_7 a2_8 false _ A36.out).mono ?_); rintro e w70 ⟨rfl, hb⟩; have n0_ := Aside0.mk (Kd.R_below (by (with_reducible repeat (first | apply Kd.R_alloc | apply Kd.R_drewN | apply Kd.R_drew)); exact HO192.out) hb); have n1_ := Aside0.mk (blk_below (g := gb185) (o := .cells #[.int .i64 a1_0, .string a1_1, .string a1_2, .string a1_3, .string a1_4, .string a1_5, .string a1_6, .string a1_7, .string a1_8] 24 (0, 0)) (by (with_reducible repeat (first | refine blk_drewN ?_ _ | refine blk_drew ?_ | refine blk_alloc ?_ _)); exact BK185.out) hb); have n2_ := Aside0.mk (blk_below (g := gb186) (o := .cells #[.int .i64 a2_0, .string a2_1, .string a2_2, .string a2_3, .string a2_4, .string a2_5, .string a2_6, .string a2_7, .string a2_8] 24 (0, 0)) (by (with_reducible repeat (first | refine blk_drewN ?_ _ | refine blk_drew ?_ | refine blk_alloc ?_ _)); exact BK186.out) hb); have n3_ := Aside0.mk (below_step (by repeat (first | (with_reducible first | exact HB.out | apply below_alloc | apply pw_below_drewN | apply below_drew1 | refine below_set ?_ GE185.out | refine below_set ?_ GE186.out) | exact HB.out)) hb); clear HO192; clear BK185; clear BK186; clear HB; have HO192 := n0_; have BK185 := n1_; have BK186 := n2_; have HB := n3_; clear n0_ n1_ n2_ n3_; (try clear hb); (try clear hb2); (try clear hk); (try clear hi)))
          go_meet
          case rel => exact ⟨_, (true), (by first | rfl | (simp; done) | (simp [*]; done)), H', ⟨by have := HJ3.out; first | omega | exact Nat.le_refl _⟩, ⟨by (with_reducible repeat (first | refine blk_drewN ?_ _ | refine blk_drew ?_ | refine blk_alloc ?_ _)); exact BK185.out⟩, ⟨by (with_reducible repeat (first | refine blk_drewN ?_ _ | refine blk_drew ?_ | refine blk_alloc ?_ _)); exact BK186.out⟩, ⟨by repeat (first | (with_reducible first | exact HB.out | apply below_alloc | apply pw_below_drewN | apply below_drew1 | refine below_set ?_ GE185.out | refine below_set ?_ GE186.out) | exact HB.out)⟩⟩
        ·replace c35 := Bool.eq_false_iff.mpr c35
         subst c35
         have H1 : (laws_FnListsRoads.j1 kj3 l0 true a1_0 a1_1 a1_2 a1_3 a1_4 a1_5 a1_6 a1_7 a1_8 a2_0 a2_1 a2_2 a2_3 a2_4 a2_5 a2_6 a2_7 a2_8) = some r := by rw [if_neg (show ¬ (false = true) by decide)] at H; exact H
         clear H
         have H := H1
         clear H1
         have H' := Aside0.mk H
         clear H
         go_wp2_with (first | ((with_reducible refine gate_callee (f := 7) rfl ?_); refine goesL_ (some 32) rfl rfl Tryz.func7 (by kernel_rfl) rfl #[.slice A0 l0.length c0] rfl (by (try simp only [List.map_toArray, List.map_cons, List.map_nil]); first | done | rfl | (simp only [List.length_drop, List.length_take]; rfl)) ?_; (with_reducible refine (spec_LtRight.calls kj3 _ _ l0 true _ ?side1 ?side2 A27.out).mono ?_); (case side1 => repeat (first | exact (Kd.C_below HR0.out HB.out) | (with_reducible refine Kd.C_alloc ?_ _) | (with_reducible refine Kd.C_drewN ?_ _) | (with_reducible refine Kd.C_drew ?_))); (case side2 => exact HC0.out); rintro e w71 ⟨rfl, hb⟩; refine ⟨_, rfl, ?_⟩; have n0_ := Aside0.mk (Kd.R_below (by (with_reducible repeat (first | apply Kd.R_alloc | apply Kd.R_drewN | apply Kd.R_drew)); exact HO192.out) hb); have n1_ := Aside0.mk (blk_below (g := gb185) (o := .cells #[.int .i64 a1_0, .string a1_1, .string a1_2, .string a1_3, .string a1_4, .string a1_5, .string a1_6, .string a1_7, .string a1_8] 24 (0, 0)) (by (with_reducible repeat (first | refine blk_drewN ?_ _ | refine blk_drew ?_ | refine blk_alloc ?_ _)); exact BK185.out) hb); have n2_ := Aside0.mk (blk_below (g := gb186) (o := .cells #[.int .i64 a2_0, .string a2_1, .string a2_2, .string a2_3, .string a2_4, .string a2_5, .string a2_6, .string a2_7, .string a2_8] 24 (0, 0)) (by (with_reducible repeat (first | refine blk_drewN ?_ _ | refine blk_drew ?_ | refine blk_alloc ?_ _)); exact BK186.out) hb); have n3_ := Aside0.mk (below_step (by repeat (first | (with_reducible first | exact HB.out | apply below_alloc | apply pw_below_drewN | apply below_drew1 | refine below_set ?_ GE185.out | refine below_set ?_ GE186.out) | exact HB.out)) hb); clear HO192; clear BK185; clear BK186; clear HB; have HO192 := n0_; have BK185 := n1_; have BK186 := n2_; have HB := n3_; clear n0_ n1_ n2_ n3_; (try clear hb); (try clear hb2); (try clear hk); (try clear hi); obtain ⟨Ao72, co72, eo72⟩ := Kd.R_slice HO192.out; subst eo72) | (go_at_call 8; (with_reducible refine (spec_LsNames.calls kj3 _ _ t190 true _ ?side1 ?side2 A32.out).mono ?_); (case side1 => repeat (first | exact (Kd.R_reads' HO192.out).2.2 | (with_reducible refine Kd.C_alloc ?_ _) | (with_reducible refine Kd.C_drewN ?_ _) | (with_reducible refine Kd.C_drew ?_))); (case side2 => exact (Kd.R_reads' HO192.out).2.1); rintro e w73 ⟨rfl, hb⟩; have n0_ := Aside0.mk (Kd.R_below (by (with_reducible repeat (first | apply Kd.R_alloc | apply Kd.R_drewN | apply Kd.R_drew)); exact HO192.out) hb); have n1_ := Aside0.mk (blk_below (g := gb185) (o := .cells #[.int .i64 a1_0, .string a1_1, .string a1_2, .string a1_3, .string a1_4, .string a1_5, .string a1_6, .string a1_7, .string a1_8] 24 (0, 0)) (by (with_reducible repeat (first | refine blk_drewN ?_ _ | refine blk_drew ?_ | refine blk_alloc ?_ _)); exact BK185.out) hb); have n2_ := Aside0.mk (blk_below (g := gb186) (o := .cells #[.int .i64 a2_0, .string a2_1, .string a2_2, .string a2_3, .string a2_4, .string a2_5, .string a2_6, .string a2_7, .string a2_8] 24 (0, 0)) (by (with_reducible repeat (first | refine blk_drewN ?_ _ | refine blk_drew ?_ | refine blk_alloc ?_ _)); exact BK186.out) hb); have n3_ := Aside0.mk (below_step (by repeat (first | (with_reducible first | exact HB.out | apply below_alloc | apply pw_below_drewN | apply below_drew1 | refine below_set ?_ GE185.out | refine below_set ?_ GE186.out) | exact HB.out)) hb); clear HO192; clear BK185; clear BK186; clear HB; have HO192 := n0_; have BK185 := n1_; have BK186 := n2_; have HB := n3_; clear n0_ n1_ n2_ n3_; (try clear hb); (try clear hb2); (try clear hk); (try clear hi); have hnb74 := NB185_186.out; have hnc74 := NB186_185.out; have hcz75_0 : w73.cell? ⟨gb185, 0, none⟩ = some (.int .i64 a1_0) := (blk_cell BK185.out 0).trans rfl; have hcz75_1 : w73.cell? ⟨gb185, 1, none⟩ = some (.string a1_1) := (blk_cell BK185.out 1).trans rfl; have hcz75_2 : w73.cell? ⟨gb185, 2, none⟩ = some (.string a1_2) := (blk_cell BK185.out 2).trans rfl; have hcz75_3 : w73.cell? ⟨gb185, 3, none⟩ = some (.string a1_3) := (blk_cell BK185.out 3).trans rfl; have hcz75_4 : w73.cell? ⟨gb185, 4, none⟩ = some (.string a1_4) := (blk_cell BK185.out 4).trans rfl; have hcz75_5 : w73.cell? ⟨gb185, 5, none⟩ = some (.string a1_5) := (blk_cell BK185.out 5).trans rfl; have hcz75_6 : w73.cell? ⟨gb185, 6, none⟩ = some (.string a1_6) := (blk_cell BK185.out 6).trans rfl; have hcz75_7 : w73.cell? ⟨gb185, 7, none⟩ = some (.string a1_7) := (blk_cell BK185.out 7).trans rfl; have hcz75_8 : w73.cell? ⟨gb185, 8, none⟩ = some (.string a1_8) := (blk_cell BK185.out 8).trans rfl; have hfz75_0 := blk_frozen BK185.out 0; have hfz75_1 := blk_frozen BK185.out 1; have hfz75_2 := blk_frozen BK185.out 2; have hfz75_3 := blk_frozen BK185.out 3; have hfz75_4 := blk_frozen BK185.out 4; have hfz75_5 := blk_frozen BK185.out 5; have hfz75_6 := blk_frozen BK185.out 6; have hfz75_7 := blk_frozen BK185.out 7; have hfz75_8 := blk_frozen BK185.out 8) | (go_at_call 9; (with_reducible refine (spec_LsStyled.calls a1_0 a1_1 a1_2 a1_3 a1_4 a1_5 a1_6 a1_7 a1_8 false _ A34.out).mono ?_); rintro e w76 ⟨rfl, hb⟩; have n0_ := Aside0.mk (Kd.R_below (by (with_reducible repeat (first | apply Kd.R_alloc | apply Kd.R_drewN | apply Kd.R_drew)); exact HO192.out) hb); have n1_ := Aside0.mk (blk_below (g := gb185) (o := .cells #[.int .i64 a1_0, .string a1_1, .string a1_2, .string a1_3, .string a1_4, .string a1_5, .string a1_6, .string a1_7, .string a1_8] 24 (0, 0)) (by (with_reducible repeat (first | refine blk_drewN ?_ _ | refine blk_drew ?_ | refine blk_alloc ?_ _)); exact BK185.out) hb); have n2_ := Aside0.mk (blk_below (g := gb186) (o := .cells #[.int .i64 a2_0, .string a2_1, .string a2_2, .string a2_3, .string a2_4, .string a2_5, .string a2_6, .string a2_7, .string a2_8] 24 (0, 0)) (by (with_reducible repeat (first | refine blk_drewN ?_ _ | refine blk_drew ?_ | refine blk_alloc ?_ _)); exact BK186.out) hb); have n3_ := Aside0.mk (below_step (by repeat (first | (with_reducible first | exact HB.out | apply below_alloc | apply pw_below_drewN | apply below_drew1 | refine below_set ?_ GE185.out | refine below_set ?_ GE186.out) | exact HB.out)) hb); clear HO192; clear BK185; clear BK186; clear HB; have HO192 := n0_; have BK185 := n1_; have BK186 := n2_; have HB := n3_; clear n0_ n1_ n2_ n3_; (try clear hb); (try clear hb2); (try clear hk); (try clear hi)))
         go_meet
         case rel => exact ⟨_, (true), (by first | rfl | (simp; done) | (simp [*]; done)), H', ⟨by have := HJ3.out; first | omega | exact Nat.le_refl _⟩, ⟨by (with_reducible repeat (first | refine blk_drewN ?_ _ | refine blk_drew ?_ | refine blk_alloc ?_ _)); exact BK185.out⟩, ⟨by (with_reducible repeat (first | refine blk_drewN ?_ _ | refine blk_drew ?_ | refine blk_alloc ?_ _)); exact BK186.out⟩, ⟨by repeat (first | (with_reducible first | exact HB.out | apply below_alloc | apply pw_below_drewN | apply below_drew1 | refine below_set ?_ GE185.out | refine below_set ?_ GE186.out) | exact HB.out)⟩⟩
       ·replace c33 := Bool.eq_false_iff.mpr c33
        subst c33
        have H1 : (laws_FnListsRoads.j1 kj3 l0 true a1_0 a1_1 a1_2 a1_3 a1_4 a1_5 a1_6 a1_7 a1_8 a2_0 a2_1 a2_2 a2_3 a2_4 a2_5 a2_6 a2_7 a2_8) = some r := by rw [if_neg (show ¬ (false = true) by decide)] at H; exact H
        clear H
        have H := H1
        clear H1
        have H' := Aside0.mk H
        clear H
        go_wp2_with (first | ((with_reducible refine gate_callee (f := 7) rfl ?_); refine goesL_ (some 32) rfl rfl Tryz.func7 (by kernel_rfl) rfl #[.slice A0 l0.length c0] rfl (by (try simp only [List.map_toArray, List.map_cons, List.map_nil]); first | done | rfl | (simp only [List.length_drop, List.length_take]; rfl)) ?_; (with_reducible refine (spec_LtRight.calls kj3 _ _ l0 true _ ?side1 ?side2 A27.out).mono ?_); (case side1 => repeat (first | exact (Kd.C_below HR0.out HB.out) | (with_reducible refine Kd.C_alloc ?_ _) | (with_reducible refine Kd.C_drewN ?_ _) | (with_reducible refine Kd.C_drew ?_))); (case side2 => exact HC0.out); rintro e w77 ⟨rfl, hb⟩; refine ⟨_, rfl, ?_⟩; have n0_ := Aside0.mk (Kd.R_below (by (with_reducible repeat (first | apply Kd.R_alloc | apply Kd.R_drewN | apply Kd.R_drew)); exact HO192.out) hb); have n1_ := Aside0.mk (blk_below (g := gb185) (o := .cells #[.int .i64 a1_0, .string a1_1, .string a1_2, .string a1_3, .string a1_4, .string a1_5, .string a1_6, .string a1_7, .string a1_8] 24 (0, 0)) (by (with_reducible repeat (first | refine blk_drewN ?_ _ | refine blk_drew ?_ | refine blk_alloc ?_ _)); exact BK185.out) hb); have n2_ := Aside0.mk (blk_below (g := gb186) (o := .cells #[.int .i64 a2_0, .string a2_1, .string a2_2, .string a2_3, .string a2_4, .string a2_5, .string a2_6, .string a2_7, .string a2_8] 24 (0, 0)) (by (with_reducible repeat (first | refine blk_drewN ?_ _ | refine blk_drew ?_ | refine blk_alloc ?_ _)); exact BK186.out) hb); have n3_ := Aside0.mk (below_step (by repeat (first | (with_reducible first | exact HB.out | apply below_alloc | apply pw_below_drewN | apply below_drew1 | refine below_set ?_ GE185.out | refine below_set ?_ GE186.out) | exact HB.out)) hb); clear HO192; clear BK185; clear BK186; clear HB; have HO192 := n0_; have BK185 := n1_; have BK186 := n2_; have HB := n3_; clear n0_ n1_ n2_ n3_; (try clear hb); (try clear hb2); (try clear hk); (try clear hi); obtain ⟨Ao78, co78, eo78⟩ := Kd.R_slice HO192.out; subst eo78) | (go_at_call 8; (with_reducible refine (spec_LsNames.calls kj3 _ _ t190 false _ ?side1 ?side2 A32.out).mono ?_); (case side1 => repeat (first | exact (Kd.R_reads' HO192.out).2.2 | (with_reducible refine Kd.C_alloc ?_ _) | (with_reducible refine Kd.C_drewN ?_ _) | (with_reducible refine Kd.C_drew ?_))); (case side2 => exact (Kd.R_reads' HO192.out).2.1); rintro e w79 ⟨rfl, hb⟩; have n0_ := Aside0.mk (Kd.R_below (by (with_reducible repeat (first | apply Kd.R_alloc | apply Kd.R_drewN | apply Kd.R_drew)); exact HO192.out) hb); have n1_ := Aside0.mk (blk_below (g := gb185) (o := .cells #[.int .i64 a1_0, .string a1_1, .string a1_2, .string a1_3, .string a1_4, .string a1_5, .string a1_6, .string a1_7, .string a1_8] 24 (0, 0)) (by (with_reducible repeat (first | refine blk_drewN ?_ _ | refine blk_drew ?_ | refine blk_alloc ?_ _)); exact BK185.out) hb); have n2_ := Aside0.mk (blk_below (g := gb186) (o := .cells #[.int .i64 a2_0, .string a2_1, .string a2_2, .string a2_3, .string a2_4, .string a2_5, .string a2_6, .string a2_7, .string a2_8] 24 (0, 0)) (by (with_reducible repeat (first | refine blk_drewN ?_ _ | refine blk_drew ?_ | refine blk_alloc ?_ _)); exact BK186.out) hb); have n3_ := Aside0.mk (below_step (by repeat (first | (with_reducible first | exact HB.out | apply below_alloc | apply pw_below_drewN | apply below_drew1 | refine below_set ?_ GE185.out | refine below_set ?_ GE186.out) | exact HB.out)) hb); clear HO192; clear BK185; clear BK186; clear HB; have HO192 := n0_; have BK185 := n1_; have BK186 := n2_; have HB := n3_; clear n0_ n1_ n2_ n3_; (try clear hb); (try clear hb2); (try clear hk); (try clear hi)))
        go_meet
        case rel => exact ⟨_, (true), (by first | rfl | (simp; done) | (simp [*]; done)), H', ⟨by have := HJ3.out; first | omega | exact Nat.le_refl _⟩, ⟨by (with_reducible repeat (first | refine blk_drewN ?_ _ | refine blk_drew ?_ | refine blk_alloc ?_ _)); exact BK185.out⟩, ⟨by (with_reducible repeat (first | refine blk_drewN ?_ _ | refine blk_drew ?_ | refine blk_alloc ?_ _)); exact BK186.out⟩, ⟨by repeat (first | (with_reducible first | exact HB.out | apply below_alloc | apply pw_below_drewN | apply below_drew1 | refine below_set ?_ GE185.out | refine below_set ?_ GE186.out) | exact HB.out)⟩⟩
     ·replace c28 := Bool.eq_false_iff.mpr c28
      subst c28
      have H1 : (laws_FnListsRoads.j1 kj3 l0 true a1_0 a1_1 a1_2 a1_3 a1_4 a1_5 a1_6 a1_7 a1_8 a2_0 a2_1 a2_2 a2_3 a2_4 a2_5 a2_6 a2_7 a2_8) = some r := by rw [if_neg (show ¬ (false = true) by decide)] at H; exact H
      clear H
      have H := H1
      clear H1
      have H' := Aside0.mk H
      clear H
      go_wp2_with (first | ((with_reducible refine gate_callee (f := 7) rfl ?_); refine goesL_ (some 32) rfl rfl Tryz.func7 (by kernel_rfl) rfl #[.slice A0 l0.length c0] rfl (by (try simp only [List.map_toArray, List.map_cons, List.map_nil]); first | done | rfl | (simp only [List.length_drop, List.length_take]; rfl)) ?_; (with_reducible refine (spec_LtRight.calls kj3 _ _ l0 false _ ?side1 ?side2 A27.out).mono ?_); (case side1 => repeat (first | exact (Kd.C_below HR0.out HB.out) | (with_reducible refine Kd.C_alloc ?_ _) | (with_reducible refine Kd.C_drewN ?_ _) | (with_reducible refine Kd.C_drew ?_))); (case side2 => exact HC0.out); rintro e w80 ⟨rfl, hb⟩; refine ⟨_, rfl, ?_⟩; have n0_ := Aside0.mk (Kd.R_below (by (with_reducible repeat (first | apply Kd.R_alloc | apply Kd.R_drewN | apply Kd.R_drew)); exact HO192.out) hb); have n1_ := Aside0.mk (blk_below (g := gb185) (o := .cells #[.int .i64 a1_0, .string a1_1, .string a1_2, .string a1_3, .string a1_4, .string a1_5, .string a1_6, .string a1_7, .string a1_8] 24 (0, 0)) (by (with_reducible repeat (first | refine blk_drewN ?_ _ | refine blk_drew ?_ | refine blk_alloc ?_ _)); exact BK185.out) hb); have n2_ := Aside0.mk (blk_below (g := gb186) (o := .cells #[.int .i64 a2_0, .string a2_1, .string a2_2, .string a2_3, .string a2_4, .string a2_5, .string a2_6, .string a2_7, .string a2_8] 24 (0, 0)) (by (with_reducible repeat (first | refine blk_drewN ?_ _ | refine blk_drew ?_ | refine blk_alloc ?_ _)); exact BK186.out) hb); have n3_ := Aside0.mk (below_step (by repeat (first | (with_reducible first | exact HB.out | apply below_alloc | apply pw_below_drewN | apply below_drew1 | refine below_set ?_ GE185.out | refine below_set ?_ GE186.out) | exact HB.out)) hb); clear HO192; clear BK185; clear BK186; clear HB; have HO192 := n0_; have BK185 := n1_; have BK186 := n2_; have HB := n3_; clear n0_ n1_ n2_ n3_; (try clear hb); (try clear hb2); (try clear hk); (try clear hi)))
      go_meet
      case rel => exact ⟨_, (true), (by first | rfl | (simp; done) | (simp [*]; done)), H', ⟨by have := HJ3.out; first | omega | exact Nat.le_refl _⟩, ⟨by (with_reducible repeat (first | refine blk_drewN ?_ _ | refine blk_drew ?_ | refine blk_alloc ?_ _)); exact BK185.out⟩, ⟨by (with_reducible repeat (first | refine blk_drewN ?_ _ | refine blk_drew ?_ | refine blk_alloc ?_ _)); exact BK186.out⟩, ⟨by repeat (first | (with_reducible first | exact HB.out | apply below_alloc | apply pw_below_drewN | apply below_drew1 | refine below_set ?_ GE185.out | refine below_set ?_ GE186.out) | exact HB.out)⟩⟩
    case rest =>
     clear HC25
     try clear c1
     try clear c2
     try clear p2
     try clear c3
     try clear c4
     try clear c5
     try clear c6
     try clear c7
     try clear c8
     try clear c10
     try clear c13
     try clear c19
     try clear c23
     try clear c28
     try clear c29
     try clear c29b0
     try clear c29b1
     try clear c29b2
     try clear c33
     try clear c35
     try clear c37
     try clear c39
     try clear c44
     try clear c56
     try clear c66
     try clear c74
     try clear hcz14_0
     try clear hcz14_1
     try clear hcz14_2
     try clear hcz14_3
     try clear hcz14_4
     try clear hcz14_5
     try clear hcz14_6
     try clear hcz14_7
     try clear hcz14_8
     try clear hcz16_0
     try clear hcz16_1
     try clear hcz16_2
     try clear hcz16_3
     try clear hcz16_4
     try clear hcz16_5
     try clear hcz16_6
     try clear hcz16_7
     try clear hcz16_8
     try clear hcz20_0
     try clear hcz20_1
     try clear hcz20_2
     try clear hcz20_3
     try clear hcz20_4
     try clear hcz20_5
     try clear hcz20_6
     try clear hcz20_7
     try clear hcz20_8
     try clear hcz45_0
     try clear hcz45_1
     try clear hcz45_2
     try clear hcz45_3
     try clear hcz45_4
     try clear hcz45_5
     try clear hcz45_6
     try clear hcz45_7
     try clear hcz45_8
     try clear hcz47_0
     try clear hcz47_1
     try clear hcz47_2
     try clear hcz47_3
     try clear hcz47_4
     try clear hcz47_5
     try clear hcz47_6
     try clear hcz47_7
     try clear hcz47_8
     try clear hcz49_0
     try clear hcz49_1
     try clear hcz49_2
     try clear hcz49_3
     try clear hcz49_4
     try clear hcz49_5
     try clear hcz49_6
     try clear hcz49_7
     try clear hcz49_8
     try clear hcz51_0
     try clear hcz51_1
     try clear hcz51_2
     try clear hcz51_3
     try clear hcz51_4
     try clear hcz51_5
     try clear hcz51_6
     try clear hcz51_7
     try clear hcz51_8
     try clear hcz57_0
     try clear hcz57_1
     try clear hcz57_2
     try clear hcz57_3
     try clear hcz57_4
     try clear hcz57_5
     try clear hcz57_6
     try clear hcz57_7
     try clear hcz57_8
     try clear hcz59_0
     try clear hcz59_1
     try clear hcz59_2
     try clear hcz59_3
     try clear hcz59_4
     try clear hcz59_5
     try clear hcz59_6
     try clear hcz59_7
     try clear hcz59_8
     try clear hcz61_0
     try clear hcz61_1
     try clear hcz61_2
     try clear hcz61_3
     try clear hcz61_4
     try clear hcz61_5
     try clear hcz61_6
     try clear hcz61_7
     try clear hcz61_8
     try clear hcz67_0
     try clear hcz67_1
     try clear hcz67_2
     try clear hcz67_3
     try clear hcz67_4
     try clear hcz67_5
     try clear hcz67_6
     try clear hcz67_7
     try clear hcz67_8
     try clear hcz69_0
     try clear hcz69_1
     try clear hcz69_2
     try clear hcz69_3
     try clear hcz69_4
     try clear hcz69_5
     try clear hcz69_6
     try clear hcz69_7
     try clear hcz69_8
     try clear hcz75_0
     try clear hcz75_1
     try clear hcz75_2
     try clear hcz75_3
     try clear hcz75_4
     try clear hcz75_5
     try clear hcz75_6
     try clear hcz75_7
     try clear hcz75_8
     try clear hfz14_0
     try clear hfz14_1
     try clear hfz14_2
     try clear hfz14_3
     try clear hfz14_4
     try clear hfz14_5
     try clear hfz14_6
     try clear hfz14_7
     try clear hfz14_8
     try clear hfz16_0
     try clear hfz16_1
     try clear hfz16_2
     try clear hfz16_3
     try clear hfz16_4
     try clear hfz16_5
     try clear hfz16_6
     try clear hfz16_7
     try clear hfz16_8
     try clear hfz20_0
     try clear hfz20_1
     try clear hfz20_2
     try clear hfz20_3
     try clear hfz20_4
     try clear hfz20_5
     try clear hfz20_6
     try clear hfz20_7
     try clear hfz20_8
     try clear hfz45_0
     try clear hfz45_1
     try clear hfz45_2
     try clear hfz45_3
     try clear hfz45_4
     try clear hfz45_5
     try clear hfz45_6
     try clear hfz45_7
     try clear hfz45_8
     try clear hfz47_0
     try clear hfz47_1
     try clear hfz47_2
     try clear hfz47_3
     try clear hfz47_4
     try clear hfz47_5
     try clear hfz47_6
     try clear hfz47_7
     try clear hfz47_8
     try clear hfz49_0
     try clear hfz49_1
     try clear hfz49_2
     try clear hfz49_3
     try clear hfz49_4
     try clear hfz49_5
     try clear hfz49_6
     try clear hfz49_7
     try clear hfz49_8
     try clear hfz51_0
     try clear hfz51_1
     try clear hfz51_2
     try clear hfz51_3
     try clear hfz51_4
     try clear hfz51_5
     try clear hfz51_6
     try clear hfz51_7
     try clear hfz51_8
     try clear hfz57_0
     try clear hfz57_1
     try clear hfz57_2
     try clear hfz57_3
     try clear hfz57_4
     try clear hfz57_5
     try clear hfz57_6
     try clear hfz57_7
     try clear hfz57_8
     try clear hfz59_0
     try clear hfz59_1
     try clear hfz59_2
     try clear hfz59_3
     try clear hfz59_4
     try clear hfz59_5
     try clear hfz59_6
     try clear hfz59_7
     try clear hfz59_8
     try clear hfz61_0
     try clear hfz61_1
     try clear hfz61_2
     try clear hfz61_3
     try clear hfz61_4
     try clear hfz61_5
     try clear hfz61_6
     try clear hfz61_7
     try clear hfz61_8
     try clear hfz67_0
     try clear hfz67_1
     try clear hfz67_2
     try clear hfz67_3
     try clear hfz67_4
     try clear hfz67_5
     try clear hfz67_6
     try clear hfz67_7
     try clear hfz67_8
     try clear hfz69_0
     try clear hfz69_1
     try clear hfz69_2
     try clear hfz69_3
     try clear hfz69_4
     try clear hfz69_5
     try clear hfz69_6
     try clear hfz69_7
     try clear hfz69_8
     try clear hfz75_0
     try clear hfz75_1
     try clear hfz75_2
     try clear hfz75_3
     try clear hfz75_4
     try clear hfz75_5
     try clear hfz75_6
     try clear hfz75_7
     try clear hfz75_8
     try clear p2
     obtain ⟨kq, x63_24, rfl, HA, HJ24, BK185, BK186, HB⟩ := hcut
     cases kq with
     | zero => exact absurd HA.out (by simp [laws_FnListsRoads.j1])
     | succ kj24 =>
      have H := HA.out
      clear HA
      simp only [laws_FnListsRoads.j1] at H
      by_cases c81 : x63_24 = true
      ·subst c81
       have H1 : (some true) = some r := by rw [if_pos rfl] at H; exact H
       clear H
       have H := H1
       clear H1
       obtain rfl := Option.some.inj H
       go_wp2
       go_ret
       exact ⟨by first | rfl | (simp [errW_none, errW_some] <;> rfl) | (have e_ : ∀ l_ : List UInt8, (l_ != []) = !l_.isEmpty := fun l_ => (by cases l_ <;> rfl); simp [errW_none, errW_some, e_]; done) | (simp [*, errW_none, errW_some] <;> rfl), by repeat (first | (with_reducible first | exact HB.out | apply below_alloc | apply pw_below_drewN | apply below_drew1 | refine below_set ?_ GE185.out | refine below_set ?_ GE186.out) | exact HB.out)⟩
      ·replace c81 := Bool.eq_false_iff.mpr c81
       subst c81
       have H1 : ((impl_ListRender.f l0 a1_0 a1_1 a1_2 a1_3 a1_4 a1_5 a1_6 a1_7 a1_8).bind fun t199 => ((spec_LsBack.f kj24 t199 a1_0 a1_1 a1_2 a1_3 a1_4 a1_5 a1_6 a1_7 a1_8).bind fun bt200 => ((impl_ListRender.f l0 a2_0 a2_1 a2_2 a2_3 a2_4 a2_5 a2_6 a2_7 a2_8).bind fun t204 => ((spec_LsBack.f kj24 t204 a2_0 a2_1 a2_2 a2_3 a2_4 a2_5 a2_6 a2_7 a2_8).bind fun bt205 => ((impl_ListMarkdown.f l0 a1_0 a1_1 a1_2 a1_3 a1_4 a1_5 a1_6 a1_7 a1_8).bind fun t209 => ((spec_LtMarkdownBack.f kj24 t209).bind fun bt210 => ((impl_ListHTML.f l0 (⟨#[]⟩ : ByteArray)).bind fun t214 => ((spec_LtHTMLBack.f kj24 t214).bind fun bt215 => (if bt200.2 = true then (if bt205.2 = true then (if bt210.2 = true then (if bt215.2 = true then (if (bt200.1.length : Int) > 0 then ((spec_LsSame.f kj24 bt200.1 bt205.1).bind fun t219 => (if t219 = true then ((spec_LsSame.f kj24 bt205.1 bt210.1).bind fun t220 => (if t220 = true then ((spec_LsSame.f kj24 bt210.1 bt215.1).bind fun t221 => (some t221)) else (some false))) else (some false))) else (some false)) else (some false)) else (some false)) else (some false)) else (some false)))))))))) = some r := by rw [if_neg (show ¬ (false = true) by decide)] at H; exact H
       clear H
       have H := H1
       clear H1
       replace H := Option.bind_eq_some_iff.mp H
       obtain ⟨t199, A820, H⟩ := H
       replace H : ((spec_LsBack.f kj24 t199 a1_0 a1_1 a1_2 a1_3 a1_4 a1_5 a1_6 a1_7 a1_8).bind fun bt200 => ((impl_ListRender.f l0 a2_0 a2_1 a2_2 a2_3 a2_4 a2_5 a2_6 a2_7 a2_8).bind fun t204 => ((spec_LsBack.f kj24 t204 a2_0 a2_1 a2_2 a2_3 a2_4 a2_5 a2_6 a2_7 a2_8).bind fun bt205 => ((impl_ListMarkdown.f l0 a1_0 a1_1 a1_2 a1_3 a1_4 a1_5 a1_6 a1_7 a1_8).bind fun t209 => ((spec_LtMarkdownBack.f kj24 t209).bind fun bt210 => ((impl_ListHTML.f l0 (⟨#[]⟩ : ByteArray)).bind fun t214 => ((spec_LtHTMLBack.f kj24 t214).bind fun bt215 => (if bt200.2 = true then (if bt205.2 = true then (if bt210.2 = true then (if bt215.2 = true then (if (bt200.1.length : Int) > 0 then ((spec_LsSame.f kj24 bt200.1 bt205.1).bind fun t219 => (if t219 = true then ((spec_LsSame.f kj24 bt205.1 bt210.1).bind fun t220 => (if t220 = true then ((spec_LsSame.f kj24 bt210.1 bt215.1).bind fun t221 => (some t221)) else (some false))) else (some false))) else (some false)) else (some false)) else (some false)) else (some false)) else (some false))))))))) = some r := H
       have A82 := Aside0.mk A820
       clear A820
       replace H := Option.bind_eq_some_iff.mp H
       obtain ⟨⟨t200, t203⟩, A830, H⟩ := H
       replace H : ((impl_ListRender.f l0 a2_0 a2_1 a2_2 a2_3 a2_4 a2_5 a2_6 a2_7 a2_8).bind fun t204 => ((spec_LsBack.f kj24 t204 a2_0 a2_1 a2_2 a2_3 a2_4 a2_5 a2_6 a2_7 a2_8).bind fun bt205 => ((impl_ListMarkdown.f l0 a1_0 a1_1 a1_2 a1_3 a1_4 a1_5 a1_6 a1_7 a1_8).bind fun t209 => ((spec_LtMarkdownBack.f kj24 t209).bind fun bt210 => ((impl_ListHTML.f l0 (⟨#[]⟩ : ByteArray)).bind fun t214 => ((spec_LtHTMLBack.f kj24 t214).bind fun bt215 => (if t203 = true then (if bt205.2 = true then (if bt210.2 = true then (if bt215.2 = true then (if (t200.length : Int) > 0 then ((spec_LsSame.f kj24 t200 bt205.1).bind fun t219 => (if t219 = true then ((spec_LsSame.f kj24 bt205.1 bt210.1).bind fun t220 => (if t220 = true then ((spec_LsSame.f kj24 bt210.1 bt215.1).bind fun t221 => (some t221)) else (some false))) else (some false))) else (some false)) else (some false)) else (some false)) else (some false)) else (some false)))))))) = some r := H
       have A83 := Aside0.mk A830
       clear A830
       replace H := Option.bind_eq_some_iff.mp H
       obtain ⟨t204, A840, H⟩ := H
       replace H : ((spec_LsBack.f kj24 t204 a2_0 a2_1 a2_2 a2_3 a2_4 a2_5 a2_6 a2_7 a2_8).bind fun bt205 => ((impl_ListMarkdown.f l0 a1_0 a1_1 a1_2 a1_3 a1_4 a1_5 a1_6 a1_7 a1_8).bind fun t209 => ((spec_LtMarkdownBack.f kj24 t209).bind fun bt210 => ((impl_ListHTML.f l0 (⟨#[]⟩ : ByteArray)).bind fun t214 => ((spec_LtHTMLBack.f kj24 t214).bind fun bt215 => (if t203 = true then (if bt205.2 = true then (if bt210.2 = true then (if bt215.2 = true then (if (t200.length : Int) > 0 then ((spec_LsSame.f kj24 t200 bt205.1).bind fun t219 => (if t219 = true then ((spec_LsSame.f kj24 bt205.1 bt210.1).bind fun t220 => (if t220 = true then ((spec_LsSame.f kj24 bt210.1 bt215.1).bind fun t221 => (some t221)) else (some false))) else (some false))) else (some false)) else (some false)) else (some false)) else (some false)) else (some false))))))) = some r := H
       have A84 := Aside0.mk A840
       clear A840
       replace H := Option.bind_eq_some_iff.mp H
       obtain ⟨⟨t205, t208⟩, A850, H⟩ := H
       replace H : ((impl_ListMarkdown.f l0 a1_0 a1_1 a1_2 a1_3 a1_4 a1_5 a1_6 a1_7 a1_8).bind fun t209 => ((spec_LtMarkdownBack.f kj24 t209).bind fun bt210 => ((impl_ListHTML.f l0 (⟨#[]⟩ : ByteArray)).bind fun t214 => ((spec_LtHTMLBack.f kj24 t214).bind fun bt215 => (if t203 = true then (if t208 = true then (if bt210.2 = true then (if bt215.2 = true then (if (t200.length : Int) > 0 then ((spec_LsSame.f kj24 t200 t205).bind fun t219 => (if t219 = true then ((spec_LsSame.f kj24 t205 bt210.1).bind fun t220 => (if t220 = true then ((spec_LsSame.f kj24 bt210.1 bt215.1).bind fun t221 => (some t221)) else (some false))) else (some false))) else (some false)) else (some false)) else (some false)) else (some false)) else (some false)))))) = some r := H
       have A85 := Aside0.mk A850
       clear A850
       replace H := Option.bind_eq_some_iff.mp H
       obtain ⟨t209, A860, H⟩ := H
       replace H : ((spec_LtMarkdownBack.f kj24 t209).bind fun bt210 => ((impl_ListHTML.f l0 (⟨#[]⟩ : ByteArray)).bind fun t214 => ((spec_LtHTMLBack.f kj24 t214).bind fun bt215 => (if t203 = true then (if t208 = true then (if bt210.2 = true then (if bt215.2 = true then (if (t200.length : Int) > 0 then ((spec_LsSame.f kj24 t200 t205).bind fun t219 => (if t219 = true then ((spec_LsSame.f kj24 t205 bt210.1).bind fun t220 => (if t220 = true then ((spec_LsSame.f kj24 bt210.1 bt215.1).bind fun t221 => (some t221)) else (some false))) else (some false))) else (some false)) else (some false)) else (some false)) else (some false)) else (some false))))) = some r := H
       have A86 := Aside0.mk A860
       clear A860
       replace H := Option.bind_eq_some_iff.mp H
       obtain ⟨⟨t210, t211⟩, A870, H⟩ := H
       replace H : ((impl_ListHTML.f l0 (⟨#[]⟩ : ByteArray)).bind fun t214 => ((spec_LtHTMLBack.f kj24 t214).bind fun bt215 => (if t203 = true then (if t208 = true then (if t211 = true then (if bt215.2 = true then (if (t200.length : Int) > 0 then ((spec_LsSame.f kj24 t200 t205).bind fun t219 => (if t219 = true then ((spec_LsSame.f kj24 t205 t210).bind fun t220 => (if t220 = true then ((spec_LsSame.f kj24 t210 bt215.1).bind fun t221 => (some t221)) else (some false))) else (some false))) else (some false)) else (some false)) else (some false)) else (some false)) else (some false)))) = some r := H
       have A87 := Aside0.mk A870
       clear A870
       replace H := Option.bind_eq_some_iff.mp H
       obtain ⟨t214, A880, H⟩ := H
       replace H : ((spec_LtHTMLBack.f kj24 t214).bind fun bt215 => (if t203 = true then (if t208 = true then (if t211 = true then (if bt215.2 = true then (if (t200.length : Int) > 0 then ((spec_LsSame.f kj24 t200 t205).bind fun t219 => (if t219 = true then ((spec_LsSame.f kj24 t205 t210).bind fun t220 => (if t220 = true then ((spec_LsSame.f kj24 t210 bt215.1).bind fun t221 => (some t221)) else (some false))) else (some false))) else (some false)) else (some false)) else (some false)) else (some false)) else (some false))) = some r := H
       have A88 := Aside0.mk A880
       clear A880
       replace H := Option.bind_eq_some_iff.mp H
       obtain ⟨⟨t215, t216⟩, A890, H⟩ := H
       replace H : (if t203 = true then (if t208 = true then (if t211 = true then (if t216 = true then (if (t200.length : Int) > 0 then ((spec_LsSame.f kj24 t200 t205).bind fun t219 => (if t219 = true then ((spec_LsSame.f kj24 t205 t210).bind fun t220 => (if t220 = true then ((spec_LsSame.f kj24 t210 t215).bind fun t221 => (some t221)) else (some false))) else (some false))) else (some false)) else (some false)) else (some false)) else (some false)) else (some false)) = some r := H
       have A89 := Aside0.mk A890
       clear A890
       try go_wp2
       have n0_ := Aside0.mk (blk_drew BK185.out)
       have n1_ := Aside0.mk (blk_drew BK186.out)
       have n2_ := Aside0.mk (below_drew1 HB.out)
       clear BK185
       clear BK186
       clear HB
       have BK185 := n0_
       have BK186 := n1_
       have HB := n2_
       clear n0_ n1_ n2_
       refine start_ (n := 10) (S := fun w' => w'.cell? ⟨gb185, 0, none⟩ = some (.int .i64 a1_0) ∧ w'.cell? ⟨gb185, 1, none⟩ = some (.string a1_1) ∧ w'.cell? ⟨gb185, 2, none⟩ = some (.string a1_2) ∧ w'.cell? ⟨gb185, 3, none⟩ = some (.string a1_3) ∧ w'.cell? ⟨gb185, 4, none⟩ = some (.string a1_4) ∧ w'.cell? ⟨gb185, 5, none⟩ = some (.string a1_5) ∧ w'.cell? ⟨gb185, 6, none⟩ = some (.string a1_6) ∧ w'.cell? ⟨gb185, 7, none⟩ = some (.string a1_7) ∧ w'.cell? ⟨gb185, 8, none⟩ = some (.string a1_8)) (ds := []) #[false, false, false, false, false, false, false, false, false, false] (by kernel_rfl) rfl rfl ⟨(blk_cell BK185.out 0).trans rfl, (blk_cell BK185.out 1).trans rfl, (blk_cell BK185.out 2).trans rfl, (blk_cell BK185.out 3).trans rfl, (blk_cell BK185.out 4).trans rfl, (blk_cell BK185.out 5).trans rfl, (blk_cell BK185.out 6).trans rfl, (blk_cell BK185.out 7).trans rfl, (blk_cell BK185.out 8).trans rfl⟩ (fun hHeld => ?_); refine with_tabW laws_FnListsRoads.tab6 laws_FnListsRoads.bits6 (fun HT_ HW_ => ?_)
       generalize wc.drew = w100 at BK185 BK186 HB hHeld ⊢
       refine pure_ (i := 0) (N := some 65) (v := ?_) (a' := ?_) #[true, false, false, false, false, false, false, false, false, false] rfl rfl (any_of HT_.out (by kernel_rfl)) (fun _ _ _ h => h) (Or.inl ⟨by rfl, ?_⟩) ?_ ?_
       rotate_left
       ·intro w'
        go_simp
        with_reducible rfl
       rotate_left
       ·simp only [Act.put, List.setIfInBounds_toArray, List.set_cons_zero, List.set_cons_succ, i64_w, i32_w]
        rfl
       refine take_ (i := 1) (N := some 66) (v := ?_) (a' := ?_) #[true, true, false, false, false, false, false, false, false, false] rfl rfl (take_ofW HT_.out HW_.out (by kernel_rfl)) (fun _ _ _ h => h) (Or.inl ⟨by rfl, ?_⟩) hHeld ?_ ?_
       rotate_left
       ·rintro w' ⟨s0, s1, s2, s3, s4, s5, s6, s7, s8⟩
        go_simp
        with_reducible rfl
       rotate_left
       ·simp only [Act.put, List.setIfInBounds_toArray, List.set_cons_zero, List.set_cons_succ, i64_w, i32_w]
        rfl
       refine take_ (i := 3) (N := some 68) (v := ?_) (a' := ?_) #[true, true, false, true, false, false, false, false, false, false] rfl rfl (take_ofW HT_.out HW_.out (by kernel_rfl)) (fun _ _ _ h => h) (Or.inl ⟨by rfl, ?_⟩) hHeld ?_ ?_
       rotate_left
       ·rintro w' ⟨s0, s1, s2, s3, s4, s5, s6, s7, s8⟩
        go_simp
        with_reducible rfl
       rotate_left
       ·simp only [Act.put, List.setIfInBounds_toArray, List.set_cons_zero, List.set_cons_succ, i64_w, i32_w]
        rfl
       refine one_ (i := 2) (N := some 67) #[true, true, true, true, false, false, false, false, false, false] rfl rfl (one_of HT_.out (by kernel_rfl)) (by decide) (fun K hK => ?_)
       refine goes_ Tryz.func12 (by kernel_rfl) rfl #[.slice A0 l0.length c0, .agg #[.int .i64 a1_0, .string a1_1, .string a1_2, .string a1_3, .string a1_4, .string a1_5, .string a1_6, .string a1_7, .string a1_8]] (by rfl) rfl rfl (by (try simp only [List.map_toArray, List.map_cons, List.map_nil]); first | done | rfl | (simp only [List.length_drop, List.length_take]; rfl)) ?_
       with_reducible refine (impl_ListRender.calls _ _ l0 a1_0 a1_1 a1_2 a1_3 a1_4 a1_5 a1_6 a1_7 a1_8 t199 _ ?side1 ?side2 A82.out).mono ?_
       (case side1 => repeat (first | exact (Kd.C_below HR0.out HB.out) | (with_reducible refine Kd.C_alloc ?_ _) | (with_reducible refine Kd.C_drewN ?_ _) | (with_reducible refine Kd.C_drew ?_)))
       (case side2 => exact HC0.out)
       rintro e w101 ⟨rfl, hb⟩
       refine ⟨_, rfl, ?_⟩
       have n0_ := Aside0.mk (blk_below (g := gb185) (o := .cells #[.int .i64 a1_0, .string a1_1, .string a1_2, .string a1_3, .string a1_4, .string a1_5, .string a1_6, .string a1_7, .string a1_8] 24 (0, 0)) (by (with_reducible repeat (first | refine blk_drewN ?_ _ | refine blk_drew ?_ | refine blk_alloc ?_ _)); exact BK185.out) hb)
       have n1_ := Aside0.mk (blk_below (g := gb186) (o := .cells #[.int .i64 a2_0, .string a2_1, .string a2_2, .string a2_3, .string a2_4, .string a2_5, .string a2_6, .string a2_7, .string a2_8] 24 (0, 0)) (by (with_reducible repeat (first | refine blk_drewN ?_ _ | refine blk_drew ?_ | refine blk_alloc ?_ _)); exact BK186.out) hb)
       have n2_ := Aside0.mk (below_step (by repeat (first | (with_reducible first | exact HB.out | apply below_alloc | apply pw_below_drewN | apply below_drew1 | refine below_set ?_ GE185.out | refine below_set ?_ GE186.out) | exact HB.out)) hb)
       clear BK185
       clear BK186
       clear HB
       have BK185 := n0_
       have BK186 := n1_
       have HB := n2_
       clear n0_ n1_ n2_
       (try clear hb)
       (try clear hb2)
       (try clear hk)
       (try clear hi)
       refine hK.out _ _ ⟨(blk_cell BK185.out 0).trans rfl, (blk_cell BK185.out 1).trans rfl, (blk_cell BK185.out 2).trans rfl, (blk_cell BK185.out 3).trans rfl, (blk_cell BK185.out 4).trans rfl, (blk_cell BK185.out 5).trans rfl, (blk_cell BK185.out 6).trans rfl, (blk_cell BK185.out 7).trans rfl, (blk_cell BK185.out 8).trans rfl⟩ (fun hHeld => ?_)
       clear hK K
       refine norm_ (a' := ?_) ?_ ?_
       rotate_left
       ·show Act.put _ (some 67) _ = _
        simp only [Act.put, List.setIfInBounds_toArray, List.set_cons_zero, List.set_cons_succ, i64_w, i32_w]
        rfl
       refine one_ (i := 4) (N := some 69) #[true, true, true, true, true, false, false, false, false, false] rfl rfl (one_of HT_.out (by kernel_rfl)) (by decide) (fun K hK => ?_)
       refine goes_ Tryz.func11 (by kernel_rfl) rfl #[.string t199, .agg #[.int .i64 a1_0, .string a1_1, .string a1_2, .string a1_3, .string a1_4, .string a1_5, .string a1_6, .string a1_7, .string a1_8]] (by rfl) rfl rfl (by (try simp only [List.map_toArray, List.map_cons, List.map_nil]); first | done | rfl | (simp only [List.length_drop, List.length_take]; rfl)) ?_
       with_reducible refine (spec_LsBack.calls kj24 t199 a1_0 a1_1 a1_2 a1_3 a1_4 a1_5 a1_6 a1_7 a1_8 t200 t203 _ A83.out).mono ?_
       rintro e w102 ⟨v201, rfl, ho0, hb⟩
       refine ⟨_, rfl, ?_⟩
       have n0_ := Aside0.mk (Kd.R_lower ho0 (below_size (by repeat (first | (with_reducible first | exact HB.out | apply below_alloc | apply pw_below_drewN | apply below_drew1 | refine below_set ?_ GE185.out | refine below_set ?_ GE186.out) | exact HB.out))))
       have n1_ := Aside0.mk (blk_below (g := gb185) (o := .cells #[.int .i64 a1_0, .string a1_1, .string a1_2, .string a1_3, .string a1_4, .string a1_5, .string a1_6, .string a1_7, .string a1_8] 24 (0, 0)) (by (with_reducible repeat (first | refine blk_drewN ?_ _ | refine blk_drew ?_ | refine blk_alloc ?_ _)); exact BK185.out) hb)
       have n2_ := Aside0.mk (blk_below (g := gb186) (o := .cells #[.int .i64 a2_0, .string a2_1, .string a2_2, .string a2_3, .string a2_4, .string a2_5, .string a2_6, .string a2_7, .string a2_8] 24 (0, 0)) (by (with_reducible repeat (first | refine blk_drewN ?_ _ | refine blk_drew ?_ | refine blk_alloc ?_ _)); exact BK186.out) hb)
       have n3_ := Aside0.mk (below_step (by repeat (first | (with_reducible first | exact HB.out | apply below_alloc | apply pw_below_drewN | apply below_drew1 | refine below_set ?_ GE185.out | refine below_set ?_ GE186.out) | exact HB.out)) hb)
       clear BK185
       clear BK186
       clear HB
       have HO202 := n0_
       have BK185 := n1_
       have BK186 := n2_
       have HB := n3_
       clear n0_ n1_ n2_ n3_
       (try clear hb)
       (try clear hb2)
       (try clear hk)
       (try clear hi)
       (try clear ho0)
       refine hK.out _ _ ⟨(blk_cell BK185.out 0).trans rfl, (blk_cell BK185.out 1).trans rfl, (blk_cell BK185.out 2).trans rfl, (blk_cell BK185.out 3).trans rfl, (blk_cell BK185.out 4).trans rfl, (blk_cell BK185.out 5).trans rfl, (blk_cell BK185.out 6).trans rfl, (blk_cell BK185.out 7).trans rfl, (blk_cell BK185.out 8).trans rfl⟩ (fun hHeld => ?_)
       clear hK K
       refine norm_ (a' := ?_) ?_ ?_
       rotate_left
       ·show Act.put _ (some 69) _ = _
        simp only [Act.put, List.setIfInBounds_toArray, List.set_cons_zero, List.set_cons_succ, i64_w, i32_w]
        rfl
       refine pure_ (i := 5) (N := some 64) (v := ?_) (a' := ?_) #[true, true, true, true, true, true, false, false, false, false] rfl rfl (any_of HT_.out (by kernel_rfl)) (fun _ _ _ h => h) (Or.inl ⟨by rfl, ?_⟩) ?_ ?_
       rotate_left
       ·intro w'
        go_simp
        with_reducible rfl
       rotate_left
       ·simp only [Act.put, List.setIfInBounds_toArray, List.set_cons_zero, List.set_cons_succ, i64_w, i32_w]
        rfl
       refine pure_ (i := 6) (N := some 70) (v := ?_) (a' := ?_) #[true, true, true, true, true, true, true, false, false, false] rfl rfl (any_of HT_.out (by kernel_rfl)) (fun _ _ _ h => h) (Or.inl ⟨by rfl, ?_⟩) ?_ ?_
       rotate_left
       ·intro w'
        go_simp
        with_reducible rfl
       rotate_left
       ·simp only [Act.put, List.setIfInBounds_toArray, List.set_cons_zero, List.set_cons_succ, i64_w, i32_w]
        rfl
       refine pure_ (i := 7) (N := some 71) (v := ?_) (a' := ?_) #[true, true, true, true, true, true, true, true, false, false] rfl rfl (any_of HT_.out (by kernel_rfl)) (fun _ _ _ h => h) (Or.inl ⟨by rfl, ?_⟩) ?_ ?_
       rotate_left
       ·intro w'
        go_simp
        with_reducible rfl
       rotate_left
       ·simp only [Act.put, List.setIfInBounds_toArray, List.set_cons_zero, List.set_cons_succ, i64_w, i32_w]
        rfl
       refine pure_ (i := 8) (N := some 8) (v := ?_) (a' := ?_) #[true, true, true, true, true, true, true, true, true, false] rfl rfl (any_of HT_.out (by kernel_rfl)) (fun _ _ _ h => h) (Or.inl ⟨by rfl, ?_⟩) ?_ ?_
       rotate_left
       ·intro w'
        go_simp
        with_reducible rfl
       rotate_left
       ·simp only [Act.put, List.setIfInBounds_toArray, List.set_cons_zero, List.set_cons_succ, i64_w, i32_w]
        rfl
       refine pure_ (i := 9) (N := some 9) (v := ?_) (a' := ?_) #[true, true, true, true, true, true, true, true, true, true] rfl rfl (any_of HT_.out (by kernel_rfl)) (fun _ _ _ h => h) (Or.inl ⟨by rfl, ?_⟩) ?_ ?_
       rotate_left
       ·intro w'
        go_simp
        with_reducible rfl
       rotate_left
       ·simp only [Act.put, List.setIfInBounds_toArray, List.set_cons_zero, List.set_cons_succ, i64_w, i32_w]
        rfl
       refine done_ (done_of HT_.out (by kernel_rfl)) ?_
       try go_wp2
       have n0_ := Aside0.mk (Kd.R_drew HO202.out)
       have n1_ := Aside0.mk (blk_drew BK185.out)
       have n2_ := Aside0.mk (blk_drew BK186.out)
       have n3_ := Aside0.mk (below_drew1 HB.out)
       clear HO202
       clear BK185
       clear BK186
       clear HB
       have HO202 := n0_
       have BK185 := n1_
       have BK186 := n2_
       have HB := n3_
       clear n0_ n1_ n2_ n3_
       refine start_ (n := 10) (S := fun w' => w'.cell? ⟨gb186, 0, none⟩ = some (.int .i64 a2_0) ∧ w'.cell? ⟨gb186, 1, none⟩ = some (.string a2_1) ∧ w'.cell? ⟨gb186, 2, none⟩ = some (.string a2_2) ∧ w'.cell? ⟨gb186, 3, none⟩ = some (.string a2_3) ∧ w'.cell? ⟨gb186, 4, none⟩ = some (.string a2_4) ∧ w'.cell? ⟨gb186, 5, none⟩ = some (.string a2_5) ∧ w'.cell? ⟨gb186, 6, none⟩ = some (.string a2_6) ∧ w'.cell? ⟨gb186, 7, none⟩ = some (.string a2_7) ∧ w'.cell? ⟨gb186, 8, none⟩ = some (.string a2_8)) (ds := []) #[false, false, false, false, false, false, false, false, false, false] (by kernel_rfl) rfl rfl ⟨(blk_cell BK186.out 0).trans rfl, (blk_cell BK186.out 1).trans rfl, (blk_cell BK186.out 2).trans rfl, (blk_cell BK186.out 3).trans rfl, (blk_cell BK186.out 4).trans rfl, (blk_cell BK186.out 5).trans rfl, (blk_cell BK186.out 6).trans rfl, (blk_cell BK186.out 7).trans rfl, (blk_cell BK186.out 8).trans rfl⟩ (fun hHeld => ?_); refine with_tabW laws_FnListsRoads.tab7 laws_FnListsRoads.bits7 (fun HT_ HW_ => ?_)
       generalize w102.drew = w103 at HO202 BK185 BK186 HB hHeld ⊢
       refine pure_ (i := 0) (N := some 73) (v := ?_) (a' := ?_) #[true, false, false, false, false, false, false, false, false, false] rfl rfl (any_of HT_.out (by kernel_rfl)) (fun _ _ _ h => h) (Or.inl ⟨by rfl, ?_⟩) ?_ ?_
       rotate_left
       ·intro w'
        go_simp
        with_reducible rfl
       rotate_left
       ·simp only [Act.put, List.setIfInBounds_toArray, List.set_cons_zero, List.set_cons_succ, i64_w, i32_w]
        rfl
       refine take_ (i := 1) (N := some 74) (v := ?_) (a' := ?_) #[true, true, false, false, false, false, false, false, false, false] rfl rfl (take_ofW HT_.out HW_.out (by kernel_rfl)) (fun _ _ _ h => h) (Or.inl ⟨by rfl, ?_⟩) hHeld ?_ ?_
       rotate_left
       ·rintro w' ⟨s0, s1, s2, s3, s4, s5, s6, s7, s8⟩
        go_simp
        with_reducible rfl
       rotate_left
       ·simp only [Act.put, List.setIfInBounds_toArray, List.set_cons_zero, List.set_cons_succ, i64_w, i32_w]
        rfl
       refine take_ (i := 3) (N := some 76) (v := ?_) (a' := ?_) #[true, true, false, true, false, false, false, false, false, false] rfl rfl (take_ofW HT_.out HW_.out (by kernel_rfl)) (fun _ _ _ h => h) (Or.inl ⟨by rfl, ?_⟩) hHeld ?_ ?_
       rotate_left
       ·rintro w' ⟨s0, s1, s2, s3, s4, s5, s6, s7, s8⟩
        go_simp
        with_reducible rfl
       rotate_left
       ·simp only [Act.put, List.setIfInBounds_toArray, List.set_cons_zero, List.set_cons_succ, i64_w, i32_w]
        rfl
       refine one_ (i := 2) (N := some 75) #[true, true, true, true, false, false, false, false, false, false] rfl rfl (one_of HT_.out (by kernel_rfl)) (by decide) (fun K hK => ?_)
       refine goes_ Tryz.func12 (by kernel_rfl) rfl #[.slice A0 l0.length c0, .agg #[.int .i64 a2_0, .string a2_1, .string a2_2, .string a2_3, .string a2_4, .string a2_5, .string a2_6, .string a2_7, .string a2_8]] (by rfl) rfl rfl (by (try simp only [List.map_toArray, List.map_cons, List.map_nil]); first | done | rfl | (simp only [List.length_drop, List.length_take]; rfl)) ?_
       with_reducible refine (impl_ListRender.calls _ _ l0 a2_0 a2_1 a2_2 a2_3 a2_4 a2_5 a2_6 a2_7 a2_8 t204 _ ?side1 ?side2 A84.out).mono ?_
       (case side1 => repeat (first | exact (Kd.C_below HR0.out HB.out) | (with_reducible refine Kd.C_alloc ?_ _) | (with_reducible refine Kd.C_drewN ?_ _) | (with_reducible refine Kd.C_drew ?_)))
       (case side2 => exact HC0.out)
       rintro e w104 ⟨rfl, hb⟩
       refine ⟨_, rfl, ?_⟩
       have n0_ := Aside0.mk (Kd.R_below (by (with_reducible repeat (first | apply Kd.R_alloc | apply Kd.R_drewN | apply Kd.R_drew)); exact HO202.out) hb)
       have n1_ := Aside0.mk (blk_below (g := gb185) (o := .cells #[.int .i64 a1_0, .string a1_1, .string a1_2, .string a1_3, .string a1_4, .string a1_5, .string a1_6, .string a1_7, .string a1_8] 24 (0, 0)) (by (with_reducible repeat (first | refine blk_drewN ?_ _ | refine blk_drew ?_ | refine blk_alloc ?_ _)); exact BK185.out) hb)
       have n2_ := Aside0.mk (blk_below (g := gb186) (o := .cells #[.int .i64 a2_0, .string a2_1, .string a2_2, .string a2_3, .string a2_4, .string a2_5, .string a2_6, .string a2_7, .string a2_8] 24 (0, 0)) (by (with_reducible repeat (first | refine blk_drewN ?_ _ | refine blk_drew ?_ | refine blk_alloc ?_ _)); exact BK186.out) hb)
       have n3_ := Aside0.mk (below_step (by repeat (first | (with_reducible first | exact HB.out | apply below_alloc | apply pw_below_drewN | apply below_drew1 | refine below_set ?_ GE185.out | refine below_set ?_ GE186.out) | exact HB.out)) hb)
       clear HO202
       clear BK185
       clear BK186
       clear HB
       have HO202 := n0_
       have BK185 := n1_
       have BK186 := n2_
       have HB := n3_
       clear n0_ n1_ n2_ n3_
       (try clear hb)
       (try clear hb2)
       (try clear hk)
       (try clear hi)
       refine hK.out _ _ ⟨(blk_cell BK186.out 0).trans rfl, (blk_cell BK186.out 1).trans rfl, (blk_cell BK186.out 2).trans rfl, (blk_cell BK186.out 3).trans rfl, (blk_cell BK186.out 4).trans rfl, (blk_cell BK186.out 5).trans rfl, (blk_cell BK186.out 6).trans rfl, (blk_cell BK186.out 7).trans rfl, (blk_cell BK186.out 8).trans rfl⟩ (fun hHeld => ?_)
       clear hK K
       refine norm_ (a' := ?_) ?_ ?_
       rotate_left
       ·show Act.put _ (some 75) _ = _
        simp only [Act.put, List.setIfInBounds_toArray, List.set_cons_zero, List.set_cons_succ, i64_w, i32_w]
        rfl
       refine one_ (i := 4) (N := some 77) #[true, true, true, true, true, false, false, false, false, false] rfl rfl (one_of HT_.out (by kernel_rfl)) (by decide) (fun K hK => ?_)
       refine goes_ Tryz.func11 (by kernel_rfl) rfl #[.string t204, .agg #[.int .i64 a2_0, .string a2_1, .string a2_2, .string a2_3, .string a2_4, .string a2_5, .string a2_6, .string a2_7, .string a2_8]] (by rfl) rfl rfl (by (try simp only [List.map_toArray, List.map_cons, List.map_nil]); first | done | rfl | (simp only [List.length_drop, List.length_take]; rfl)) ?_
       with_reducible refine (spec_LsBack.calls kj24 t204 a2_0 a2_1 a2_2 a2_3 a2_4 a2_5 a2_6 a2_7 a2_8 t205 t208 _ A85.out).mono ?_
       rintro e w105 ⟨v206, rfl, ho0, hb⟩
       refine ⟨_, rfl, ?_⟩
       have n0_ := Aside0.mk (Kd.R_elder' (by (with_reducible repeat (first | apply Kd.R_alloc | apply Kd.R_drewN | apply Kd.R_drew)); exact HO202.out) (Kd.R_base ho0) hb)
       have n1_ := Aside0.mk (Kd.R_lower (Kd.R_new' ho0 (Kd.R_lt (by (with_reducible repeat (first | apply Kd.R_alloc | apply Kd.R_drewN | apply Kd.R_drew)); exact HO202.out))) (below_size (by repeat (first | (with_reducible first | exact HB.out | apply below_alloc | apply pw_below_drewN | apply below_drew1 | refine below_set ?_ GE185.out | refine below_set ?_ GE186.out) | exact HB.out))))
       have n2_ := Aside0.mk (blk_below (g := gb185) (o := .cells #[.int .i64 a1_0, .string a1_1, .string a1_2, .string a1_3, .string a1_4, .string a1_5, .string a1_6, .string a1_7, .string a1_8] 24 (0, 0)) (by (with_reducible repeat (first | refine blk_drewN ?_ _ | refine blk_drew ?_ | refine blk_alloc ?_ _)); exact BK185.out) hb)
       have n3_ := Aside0.mk (blk_below (g := gb186) (o := .cells #[.int .i64 a2_0, .string a2_1, .string a2_2, .string a2_3, .string a2_4, .string a2_5, .string a2_6, .string a2_7, .string a2_8] 24 (0, 0)) (by (with_reducible repeat (first | refine blk_drewN ?_ _ | refine blk_drew ?_ | refine blk_alloc ?_ _)); exact BK186.out) hb)
       have n4_ := Aside0.mk (below_step (by repeat (first | (with_reducible first | exact HB.out | apply below_alloc | apply pw_below_drewN | apply below_drew1 | refine below_set ?_ GE185.out | refine below_set ?_ GE186.out) | exact HB.out)) hb)
       clear HO202
       clear BK185
       clear BK186
       clear HB
       have HO202 := n0_
       have HO207 := n1_
       have BK185 := n2_
       have BK186 := n3_
       have HB := n4_
       clear n0_ n1_ n2_ n3_ n4_
       (try clear hb)
       (try clear hb2)
       (try clear hk)
       (try clear hi)
       (try clear ho0)
       refine hK.out _ _ ⟨(blk_cell BK186.out 0).trans rfl, (blk_cell BK186.out 1).trans rfl, (blk_cell BK186.out 2).trans rfl, (blk_cell BK186.out 3).trans rfl, (blk_cell BK186.out 4).trans rfl, (blk_cell BK186.out 5).trans rfl, (blk_cell BK186.out 6).trans rfl, (blk_cell BK186.out 7).trans rfl, (blk_cell BK186.out 8).trans rfl⟩ (fun hHeld => ?_)
       clear hK K
       refine norm_ (a' := ?_) ?_ ?_
       rotate_left
       ·show Act.put _ (some 77) _ = _
        simp only [Act.put, List.setIfInBounds_toArray, List.set_cons_zero, List.set_cons_succ, i64_w, i32_w]
        rfl
       refine pure_ (i := 5) (N := some 72) (v := ?_) (a' := ?_) #[true, true, true, true, true, true, false, false, false, false] rfl rfl (any_of HT_.out (by kernel_rfl)) (fun _ _ _ h => h) (Or.inl ⟨by rfl, ?_⟩) ?_ ?_
       rotate_left
       ·intro w'
        go_simp
        with_reducible rfl
       rotate_left
       ·simp only [Act.put, List.setIfInBounds_toArray, List.set_cons_zero, List.set_cons_succ, i64_w, i32_w]
        rfl
       refine pure_ (i := 6) (N := some 78) (v := ?_) (a' := ?_) #[true, true, true, true, true, true, true, false, false, false] rfl rfl (any_of HT_.out (by kernel_rfl)) (fun _ _ _ h => h) (Or.inl ⟨by rfl, ?_⟩) ?_ ?_
       rotate_left
       ·intro w'
        go_simp
        with_reducible rfl
       rotate_left
       ·simp only [Act.put, List.setIfInBounds_toArray, List.set_cons_zero, List.set_cons_succ, i64_w, i32_w]
        rfl
       refine pure_ (i := 7) (N := some 79) (v := ?_) (a' := ?_) #[true, true, true, true, true, true, true, true, false, false] rfl rfl (any_of HT_.out (by kernel_rfl)) (fun _ _ _ h => h) (Or.inl ⟨by rfl, ?_⟩) ?_ ?_
       rotate_left
       ·intro w'
        go_simp
        with_reducible rfl
       rotate_left
       ·simp only [Act.put, List.setIfInBounds_toArray, List.set_cons_zero, List.set_cons_succ, i64_w, i32_w]
        rfl
       refine pure_ (i := 8) (N := some 10) (v := ?_) (a' := ?_) #[true, true, true, true, true, true, true, true, true, false] rfl rfl (any_of HT_.out (by kernel_rfl)) (fun _ _ _ h => h) (Or.inl ⟨by rfl, ?_⟩) ?_ ?_
       rotate_left
       ·intro w'
        go_simp
        with_reducible rfl
       rotate_left
       ·simp only [Act.put, List.setIfInBounds_toArray, List.set_cons_zero, List.set_cons_succ, i64_w, i32_w]
        rfl
       refine pure_ (i := 9) (N := some 11) (v := ?_) (a' := ?_) #[true, true, true, true, true, true, true, true, true, true] rfl rfl (any_of HT_.out (by kernel_rfl)) (fun _ _ _ h => h) (Or.inl ⟨by rfl, ?_⟩) ?_ ?_
       rotate_left
       ·intro w'
        go_simp
        with_reducible rfl
       rotate_left
       ·simp only [Act.put, List.setIfInBounds_toArray, List.set_cons_zero, List.set_cons_succ, i64_w, i32_w]
        rfl
       refine done_ (done_of HT_.out (by kernel_rfl)) ?_
       by_cases c90 : t203 = true
       ·subst c90
        have H1 : (if t208 = true then (if t211 = true then (if t216 = true then (if (t200.length : Int) > 0 then ((spec_LsSame.f kj24 t200 t205).bind fun t219 => (if t219 = true then ((spec_LsSame.f kj24 t205 t210).bind fun t220 => (if t220 = true then ((spec_LsSame.f kj24 t210 t215).bind fun t221 => (some t221)) else (some false))) else (some false))) else (some false)) else (some false)) else (some false)) else (some false)) = some r := by rw [if_pos rfl] at H; exact H
        clear H
        have H := H1
        clear H1
        by_cases c91 : t208 = true
        ·subst c91
         have H1 : (if t211 = true then (if t216 = true then (if (t200.length : Int) > 0 then ((spec_LsSame.f kj24 t200 t205).bind fun t219 => (if t219 = true then ((spec_LsSame.f kj24 t205 t210).bind fun t220 => (if t220 = true then ((spec_LsSame.f kj24 t210 t215).bind fun t221 => (some t221)) else (some false))) else (some false))) else (some false)) else (some false)) else (some false)) = some r := by rw [if_pos rfl] at H; exact H
         clear H
         have H := H1
         clear H1
         by_cases c92 : t211 = true
         ·subst c92
          have H1 : (if t216 = true then (if (t200.length : Int) > 0 then ((spec_LsSame.f kj24 t200 t205).bind fun t219 => (if t219 = true then ((spec_LsSame.f kj24 t205 t210).bind fun t220 => (if t220 = true then ((spec_LsSame.f kj24 t210 t215).bind fun t221 => (some t221)) else (some false))) else (some false))) else (some false)) else (some false)) = some r := by rw [if_pos rfl] at H; exact H
          clear H
          have H := H1
          clear H1
          by_cases c93 : t216 = true
          ·subst c93
           have H1 : (if (t200.length : Int) > 0 then ((spec_LsSame.f kj24 t200 t205).bind fun t219 => (if t219 = true then ((spec_LsSame.f kj24 t205 t210).bind fun t220 => (if t220 = true then ((spec_LsSame.f kj24 t210 t215).bind fun t221 => (some t221)) else (some false))) else (some false))) else (some false)) = some r := by rw [if_pos rfl] at H; exact H
           clear H
           have H := H1
           clear H1
           by_cases c94 : (t200.length : Int) > 0
           ·rw [if_pos c94] at H
            have c94b0 : decide (0 < (t200.length : Int)) = true := decide_eq_true c94
            have c94b1 : decide (0 < t200.length) = true := decide_eq_true (by omega)
            clear c94
            replace H := Option.bind_eq_some_iff.mp H
            obtain ⟨t219, A950, H⟩ := H
            replace H : (if t219 = true then ((spec_LsSame.f kj24 t205 t210).bind fun t220 => (if t220 = true then ((spec_LsSame.f kj24 t210 t215).bind fun t221 => (some t221)) else (some false))) else (some false)) = some r := H
            have A95 := Aside0.mk A950
            clear A950
            by_cases c96 : t219 = true
            ·subst c96
             have H1 : ((spec_LsSame.f kj24 t205 t210).bind fun t220 => (if t220 = true then ((spec_LsSame.f kj24 t210 t215).bind fun t221 => (some t221)) else (some false))) = some r := by rw [if_pos rfl] at H; exact H
             clear H
             have H := H1
             clear H1
             replace H := Option.bind_eq_some_iff.mp H
             obtain ⟨t220, A970, H⟩ := H
             replace H : (if t220 = true then ((spec_LsSame.f kj24 t210 t215).bind fun t221 => (some t221)) else (some false)) = some r := H
             have A97 := Aside0.mk A970
             clear A970
             by_cases c98 : t220 = true
             ·subst c98
              have H1 : ((spec_LsSame.f kj24 t210 t215).bind fun t221 => (some t221)) = some r := by rw [if_pos rfl] at H; exact H
              clear H
              have H := H1
              clear H1
              replace H := Option.bind_eq_some_iff.mp H
              obtain ⟨t221, A990, H⟩ := H
              replace H : (some t221) = some r := H
              have A99 := Aside0.mk A990
              clear A990
              obtain rfl := Option.some.inj H
              have hnb106 := NB185_186.out
              have hnc106 := NB186_185.out
              have hcz107_0 : w105.cell? ⟨gb185, 0, none⟩ = some (.int .i64 a1_0) := (blk_cell BK185.out 0).trans rfl
              have hcz107_1 : w105.cell? ⟨gb185, 1, none⟩ = some (.string a1_1) := (blk_cell BK185.out 1).trans rfl
              have hcz107_2 : w105.cell? ⟨gb185, 2, none⟩ = some (.string a1_2) := (blk_cell BK185.out 2).trans rfl
              have hcz107_3 : w105.cell? ⟨gb185, 3, none⟩ = some (.string a1_3) := (blk_cell BK185.out 3).trans rfl
              have hcz107_4 : w105.cell? ⟨gb185, 4, none⟩ = some (.string a1_4) := (blk_cell BK185.out 4).trans rfl
              have hcz107_5 : w105.cell? ⟨gb185, 5, none⟩ = some (.string a1_5) := (blk_cell BK185.out 5).trans rfl
              have hcz107_6 : w105.cell? ⟨gb185, 6, none⟩ = some (.string a1_6) := (blk_cell BK185.out 6).trans rfl
              have hcz107_7 : w105.cell? ⟨gb185, 7, none⟩ = some (.string a1_7) := (blk_cell BK185.out 7).trans rfl
              have hcz107_8 : w105.cell? ⟨gb185, 8, none⟩ = some (.string a1_8) := (blk_cell BK185.out 8).trans rfl
              have hfz107_0 := blk_frozen BK185.out 0
              have hfz107_1 := blk_frozen BK185.out 1
              have hfz107_2 := blk_frozen BK185.out 2
              have hfz107_3 := blk_frozen BK185.out 3
              have hfz107_4 := blk_frozen BK185.out 4
              have hfz107_5 := blk_frozen BK185.out 5
              have hfz107_6 := blk_frozen BK185.out 6
              have hfz107_7 := blk_frozen BK185.out 7
              have hfz107_8 := blk_frozen BK185.out 8
              try go_wp2_with (first | ((with_reducible refine gate_callee (f := 14) rfl ?_); refine goesL_ (some 83) rfl rfl Tryz.func14 (by kernel_rfl) rfl #[.slice A0 l0.length c0, .agg #[.int .i64 a1_0, .string a1_1, .string a1_2, .string a1_3, .string a1_4, .string a1_5, .string a1_6, .string a1_7, .string a1_8]] rfl (by (try simp only [List.map_toArray, List.map_cons, List.map_nil]); first | done | rfl | (simp only [List.length_drop, List.length_take]; rfl)) ?_; (with_reducible refine (impl_ListMarkdown.calls _ _ l0 a1_0 a1_1 a1_2 a1_3 a1_4 a1_5 a1_6 a1_7 a1_8 t209 _ ?side1 ?side2 A86.out).mono ?_); (case side1 => repeat (first | exact (Kd.C_below HR0.out HB.out) | (with_reducible refine Kd.C_alloc ?_ _) | (with_reducible refine Kd.C_drewN ?_ _) | (with_reducible refine Kd.C_drew ?_))); (case side2 => exact HC0.out); rintro e w108 ⟨rfl, hb⟩; refine ⟨_, rfl, ?_⟩; have n0_ := Aside0.mk (Kd.R_below (by (with_reducible repeat (first | apply Kd.R_alloc | apply Kd.R_drewN | apply Kd.R_drew)); exact HO202.out) hb); have n1_ := Aside0.mk (Kd.R_below (by (with_reducible repeat (first | apply Kd.R_alloc | apply Kd.R_drewN | apply Kd.R_drew)); exact HO207.out) hb); have n2_ := Aside0.mk (blk_below (g := gb185) (o := .cells #[.int .i64 a1_0, .string a1_1, .string a1_2, .string a1_3, .string a1_4, .string a1_5, .string a1_6, .string a1_7, .string a1_8] 24 (0, 0)) (by (with_reducible repeat (first | refine blk_drewN ?_ _ | refine blk_drew ?_ | refine blk_alloc ?_ _)); exact BK185.out) hb); have n3_ := Aside0.mk (blk_below (g := gb186) (o := .cells #[.int .i64 a2_0, .string a2_1, .string a2_2, .string a2_3, .string a2_4, .string a2_5, .string a2_6, .string a2_7, .string a2_8] 24 (0, 0)) (by (with_reducible repeat (first | refine blk_drewN ?_ _ | refine blk_drew ?_ | refine blk_alloc ?_ _)); exact BK186.out) hb); have n4_ := Aside0.mk (below_step (by repeat (first | (with_reducible first | exact HB.out | apply below_alloc | apply pw_below_drewN | apply below_drew1 | refine below_set ?_ GE185.out | refine below_set ?_ GE186.out) | exact HB.out)) hb); clear HO202; clear HO207; clear BK185; clear BK186; clear HB; have HO202 := n0_; have HO207 := n1_; have BK185 := n2_; have BK186 := n3_; have HB := n4_; clear n0_ n1_ n2_ n3_ n4_; (try clear hb); (try clear hb2); (try clear hk); (try clear hi)) | ((with_reducible refine gate_callee (f := 13) rfl ?_); refine goesL_ (some 84) rfl rfl Tryz.func13 (by kernel_rfl) rfl #[.string t209] rfl (by (try simp only [List.map_toArray, List.map_cons, List.map_nil]); first | done | rfl | (simp only [List.length_drop, List.length_take]; rfl)) ?_; (with_reducible refine (spec_LtMarkdownBack.calls kj24 t209 t210 true _ A87.out).mono ?_); rintro e w109 ⟨v212, rfl, ho0, hb⟩; refine ⟨_, rfl, ?_⟩; have n0_ := Aside0.mk (Kd.R_elder' (by (with_reducible repeat (first | apply Kd.R_alloc | apply Kd.R_drewN | apply Kd.R_drew)); exact HO202.out) (Kd.R_base ho0) hb); have n1_ := Aside0.mk (Kd.R_elder' (by (with_reducible repeat (first | apply Kd.R_alloc | apply Kd.R_drewN | apply Kd.R_drew)); exact HO207.out) (Kd.R_base ho0) hb); have n2_ := Aside0.mk (Kd.R_lower (Kd.R_new' (Kd.R_new' ho0 (Kd.R_lt (by (with_reducible repeat (first | apply Kd.R_alloc | apply Kd.R_drewN | apply Kd.R_drew)); exact HO202.out))) (Kd.R_lt (by (with_reducible repeat (first | apply Kd.R_alloc | apply Kd.R_drewN | apply Kd.R_drew)); exact HO207.out))) (below_size (by repeat (first | (with_reducible first | exact HB.out | apply below_alloc | apply pw_below_drewN | apply below_drew1 | refine below_set ?_ GE185.out | refine below_set ?_ GE186.out) | exact HB.out)))); have n3_ := Aside0.mk (blk_below (g := gb185) (o := .cells #[.int .i64 a1_0, .string a1_1, .string a1_2, .string a1_3, .string a1_4, .string a1_5, .string a1_6, .string a1_7, .string a1_8] 24 (0, 0)) (by (with_reducible repeat (first | refine blk_drewN ?_ _ | refine blk_drew ?_ | refine blk_alloc ?_ _)); exact BK185.out) hb); have n4_ := Aside0.mk (blk_below (g := gb186) (o := .cells #[.int .i64 a2_0, .string a2_1, .string a2_2, .string a2_3, .string a2_4, .string a2_5, .string a2_6, .string a2_7, .string a2_8] 24 (0, 0)) (by (with_reducible repeat (first | refine blk_drewN ?_ _ | refine blk_drew ?_ | refine blk_alloc ?_ _)); exact BK186.out) hb); have n5_ := Aside0.mk (below_step (by repeat (first | (with_reducible first | exact HB.out | apply below_alloc | apply pw_below_drewN | apply below_drew1 | refine below_set ?_ GE185.out | refine below_set ?_ GE186.out) | exact HB.out)) hb); clear HO202; clear HO207; clear BK185; clear BK186; clear HB; have HO202 := n0_; have HO207 := n1_; have HO213 := n2_; have BK185 := n3_; have BK186 := n4_; have HB := n5_; clear n0_ n1_ n2_ n3_ n4_ n5_; (try clear hb); (try clear hb2); (try clear hk); (try clear hi); (try clear ho0)) | ((with_reducible refine gate_callee (f := 16) rfl ?_); refine goesL_ (some 89) rfl rfl Tryz.func16 (by kernel_rfl) rfl #[.slice A0 l0.length c0, .string (⟨#[]⟩ : ByteArray)] rfl (by (try simp only [List.map_toArray, List.map_cons, List.map_nil]); first | done | rfl | (simp only [List.length_drop, List.length_take]; rfl)) ?_; (with_reducible refine (impl_ListHTML.calls _ _ l0 (⟨#[]⟩ : ByteArray) t214 _ ?side1 ?side2 A88.out).mono ?_); (case side1 => repeat (first | exact (Kd.C_below HR0.out HB.out) | (with_reducible refine Kd.C_alloc ?_ _) | (with_reducible refine Kd.C_drewN ?_ _) | (with_reducible refine Kd.C_drew ?_))); (case side2 => exact HC0.out); rintro e w110 ⟨rfl, hb⟩; refine ⟨_, rfl, ?_⟩; have n0_ := Aside0.mk (Kd.R_below (by (with_reducible repeat (first | apply Kd.R_alloc | apply Kd.R_drewN | apply Kd.R_drew)); exact HO202.out) hb); have n1_ := Aside0.mk (Kd.R_below (by (with_reducible repeat (first | apply Kd.R_alloc | apply Kd.R_drewN | apply Kd.R_drew)); exact HO207.out) hb); have n2_ := Aside0.mk (Kd.R_below (by (with_reducible repeat (first | apply Kd.R_alloc | apply Kd.R_drewN | apply Kd.R_drew)); exact HO213.out) hb); have n3_ := Aside0.mk (blk_below (g := gb185) (o := .cells #[.int .i64 a1_0, .string a1_1, .string a1_2, .string a1_3, .string a1_4, .string a1_5, .string a1_6, .string a1_7, .string a1_8] 24 (0, 0)) (by (with_reducible repeat (first | refine blk_drewN ?_ _ | refine blk_drew ?_ | refine blk_alloc ?_ _)); exact BK185.out) hb); have n4_ := Aside0.mk (blk_below (g := gb186) (o := .cells #[.int .i64 a2_0, .string a2_1, .string a2_2, .string a2_3, .string a2_4, .string a2_5, .string a2_6, .string a2_7, .string a2_8] 24 (0, 0)) (by (with_reducible repeat (first | refine blk_drewN ?_ _ | refine blk_drew ?_ | refine blk_alloc ?_ _)); exact BK186.out) hb); have n5_ := Aside0.mk (below_step (by repeat (first | (with_reducible first | exact HB.out | apply below_alloc | apply pw_below_drewN | apply below_drew1 | refine below_set ?_ GE185.out | refine below_set ?_ GE186.out) | exact HB.out)) hb); clear HO202; clear HO207; clear HO213; clear BK185; clear BK186; clear HB; have HO202 := n0_; have HO207 := n1_; have HO213 := n2_; have BK185 := n3_; have BK186 := n4_; have HB := n5_; clear n0_ n1_ n2_ n3_ n4_ n5_; (try clear hb); (try clear hb2); (try clear hk); (try clear hi)) | ((with_reducible refine gate_callee (f := 15) rfl ?_); refine goesL_ (some 90) rfl rfl Tryz.func15 (by kernel_rfl) rfl #[.string t214] rfl (by (try simp only [List.map_toArray, List.map_cons, List.map_nil]); first | done | rfl | (simp only [List.length_drop, List.length_take]; rfl)) ?_; (with_reducible refine (spec_LtHTMLBack.calls kj24 t214 t215 true _ A89.out).mono ?_); rintro e w111 ⟨v217, rfl, ho0, hb⟩; refine ⟨_, rfl, ?_⟩; have n0_ := Aside0.mk (Kd.R_elder' (by (with_reducible repeat (first | apply Kd.R_alloc | apply Kd.R_drewN | apply Kd.R_drew)); exact HO202.out) (Kd.R_base ho0) hb); have n1_ := Aside0.mk (Kd.R_elder' (by (with_reducible repeat (first | apply Kd.R_alloc | apply Kd.R_drewN | apply Kd.R_drew)); exact HO207.out) (Kd.R_base ho0) hb); have n2_ := Aside0.mk (Kd.R_elder' (by (with_reducible repeat (first | apply Kd.R_alloc | apply Kd.R_drewN | apply Kd.R_drew)); exact HO213.out) (Kd.R_base ho0) hb); have n3_ := Aside0.mk (Kd.R_lower (Kd.R_new' (Kd.R_new' (Kd.R_new' ho0 (Kd.R_lt (by (with_reducible repeat (first | apply Kd.R_alloc | apply Kd.R_drewN | apply Kd.R_drew)); exact HO202.out))) (Kd.R_lt (by (with_reducible repeat (first | apply Kd.R_alloc | apply Kd.R_drewN | apply Kd.R_drew)); exact HO207.out))) (Kd.R_lt (by (with_reducible repeat (first | apply Kd.R_alloc | apply Kd.R_drewN | apply Kd.R_drew)); exact HO213.out))) (below_size (by repeat (first | (with_reducible first | exact HB.out | apply below_alloc | apply pw_below_drewN | apply below_drew1 | refine below_set ?_ GE185.out | refine below_set ?_ GE186.out) | exact HB.out)))); have n4_ := Aside0.mk (blk_below (g := gb185) (o := .cells #[.int .i64 a1_0, .string a1_1, .string a1_2, .string a1_3, .string a1_4, .string a1_5, .string a1_6, .string a1_7, .string a1_8] 24 (0, 0)) (by (with_reducible repeat (first | refine blk_drewN ?_ _ | refine blk_drew ?_ | refine blk_alloc ?_ _)); exact BK185.out) hb); have n5_ := Aside0.mk (blk_below (g := gb186) (o := .cells #[.int .i64 a2_0, .string a2_1, .string a2_2, .string a2_3, .string a2_4, .string a2_5, .string a2_6, .string a2_7, .string a2_8] 24 (0, 0)) (by (with_reducible repeat (first | refine blk_drewN ?_ _ | refine blk_drew ?_ | refine blk_alloc ?_ _)); exact BK186.out) hb); have n6_ := Aside0.mk (below_step (by repeat (first | (with_reducible first | exact HB.out | apply below_alloc | apply pw_below_drewN | apply below_drew1 | refine below_set ?_ GE185.out | refine below_set ?_ GE186.out) | exact HB.out)) hb); clear HO202; clear HO207; clear HO213; clear BK185; clear BK186; clear HB; have HO202 := n0_; have HO207 := n1_; have HO213 := n2_; have HO218 := n3_; have BK185 := n4_; have BK186 := n5_; have HB := n6_; clear n0_ n1_ n2_ n3_ n4_ n5_ n6_; (try clear hb); (try clear hb2); (try clear hk); (try clear hi); (try clear ho0); obtain ⟨Ao112, co112, eo112⟩ := Kd.R_slice HO202.out; subst eo112; obtain ⟨Ao113, co113, eo113⟩ := Kd.R_slice HO207.out; subst eo113) | (go_at_call 17; (with_reducible refine (spec_LsSame.calls kj24 _ _ t200 _ _ t205 true _ ?side1 ?side2 ?side3 ?side4 A95.out).mono ?_); (case side1 => repeat (first | exact (Kd.R_reads' HO202.out).2.2 | (with_reducible refine Kd.C_alloc ?_ _) | (with_reducible refine Kd.C_drewN ?_ _) | (with_reducible refine Kd.C_drew ?_))); (case side2 => exact (Kd.R_reads' HO202.out).2.1); (case side3 => repeat (first | exact (Kd.R_reads' HO207.out).2.2 | (with_reducible refine Kd.C_alloc ?_ _) | (with_reducible refine Kd.C_drewN ?_ _) | (with_reducible refine Kd.C_drew ?_))); (case side4 => exact (Kd.R_reads' HO207.out).2.1); rintro e w' ⟨rfl, ⟨nd, rfl⟩⟩; obtain ⟨Ao114, co114, eo114⟩ := Kd.R_slice HO213.out; subst eo114) | (go_at_call 17; (with_reducible refine (spec_LsSame.calls kj24 _ _ t205 _ _ t210 true _ ?side1 ?side2 ?side3 ?side4 A97.out).mono ?_); (case side1 => repeat (first | exact (Kd.R_reads' HO207.out).2.2 | (with_reducible refine Kd.C_alloc ?_ _) | (with_reducible refine Kd.C_drewN ?_ _) | (with_reducible refine Kd.C_drew ?_))); (case side2 => exact (Kd.R_reads' HO207.out).2.1); (case side3 => repeat (first | exact (Kd.R_reads' HO213.out).2.2 | (with_reducible refine Kd.C_alloc ?_ _) | (with_reducible refine Kd.C_drewN ?_ _) | (with_reducible refine Kd.C_drew ?_))); (case side4 => exact (Kd.R_reads' HO213.out).2.1); rintro e w' ⟨rfl, ⟨nd, rfl⟩⟩; obtain ⟨Ao115, co115, eo115⟩ := Kd.R_slice HO218.out; subst eo115) | (go_at_call 17; (with_reducible refine (spec_LsSame.calls kj24 _ _ t210 _ _ t215 t221 _ ?side1 ?side2 ?side3 ?side4 A99.out).mono ?_); (case side1 => repeat (first | exact (Kd.R_reads' HO213.out).2.2 | (with_reducible refine Kd.C_alloc ?_ _) | (with_reducible refine Kd.C_drewN ?_ _) | (with_reducible refine Kd.C_drew ?_))); (case side2 => exact (Kd.R_reads' HO213.out).2.1); (case side3 => repeat (first | exact (Kd.R_reads' HO218.out).2.2 | (with_reducible refine Kd.C_alloc ?_ _) | (with_reducible refine Kd.C_drewN ?_ _) | (with_reducible refine Kd.C_drew ?_))); (case side4 => exact (Kd.R_reads' HO218.out).2.1); rintro e w' ⟨rfl, ⟨nd, rfl⟩⟩))
              go_ret
              exact ⟨by first | rfl | (simp [errW_none, errW_some] <;> rfl) | (have e_ : ∀ l_ : List UInt8, (l_ != []) = !l_.isEmpty := fun l_ => (by cases l_ <;> rfl); simp [errW_none, errW_some, e_]; done) | (simp [*, errW_none, errW_some] <;> rfl), by repeat (first | (with_reducible first | exact HB.out | apply below_alloc | apply pw_below_drewN | apply below_drew1 | refine below_set ?_ GE185.out | refine below_set ?_ GE186.out) | exact HB.out)⟩
             ·replace c98 := Bool.eq_false_iff.mpr c98
              subst c98
              have H1 : (some false) = some r := by rw [if_neg (show ¬ (false = true) by decide)] at H; exact H
              clear H
              have H := H1
              clear H1
              obtain rfl := Option.some.inj H
              have hnb122 := NB185_186.out
              have hnc122 := NB186_185.out
              have hcz123_0 : w105.cell? ⟨gb185, 0, none⟩ = some (.int .i64 a1_0) := (blk_cell BK185.out 0).trans rfl
              have hcz123_1 : w105.cell? ⟨gb185, 1, none⟩ = some (.string a1_1) := (blk_cell BK185.out 1).trans rfl
              have hcz123_2 : w105.cell? ⟨gb185, 2, none⟩ = some (.string a1_2) := (blk_cell BK185.out 2).trans rfl
              have hcz123_3 : w105.cell? ⟨gb185, 3, none⟩ = some (.string a1_3) := (blk_cell BK185.out 3).trans rfl
              have hcz123_4 : w105.cell? ⟨gb185, 4, none⟩ = some (.string a1_4) := (blk_cell BK185.out 4).trans rfl
              have hcz123_5 : w105.cell? ⟨gb185, 5, none⟩ = some (.string a1_5) := (blk_cell BK185.out 5).trans rfl
              have hcz123_6 : w105.cell? ⟨gb185, 6, none⟩ = some (.string a1_6) := (blk_cell BK185.out 6).trans rfl
              have hcz123_7 : w105.cell? ⟨gb185, 7, none⟩ = some (.string a1_7) := (blk_cell BK185.out 7).trans rfl
              have hcz123_8 : w105.cell? ⟨gb185, 8, none⟩ = some (.string a1_8) := (blk_cell BK185.out 8).trans rfl
              have hfz123_0 := blk_frozen BK185.out 0
              have hfz123_1 := blk_frozen BK185.out 1
              have hfz123_2 := blk_frozen BK185.out 2
              have hfz123_3 := blk_frozen BK185.out 3
              have hfz123_4 := blk_frozen BK185.out 4
              have hfz123_5 := blk_frozen BK185.out 5
              have hfz123_6 := blk_frozen BK185.out 6
              have hfz123_7 := blk_frozen BK185.out 7
              have hfz123_8 := blk_frozen BK185.out 8
              try go_wp2_with (first | ((with_reducible refine gate_callee (f := 14) rfl ?_); refine goesL_ (some 83) rfl rfl Tryz.func14 (by kernel_rfl) rfl #[.slice A0 l0.length c0, .agg #[.int .i64 a1_0, .string a1_1, .string a1_2, .string a1_3, .string a1_4, .string a1_5, .string a1_6, .string a1_7, .string a1_8]] rfl (by (try simp only [List.map_toArray, List.map_cons, List.map_nil]); first | done | rfl | (simp only [List.length_drop, List.length_take]; rfl)) ?_; (with_reducible refine (impl_ListMarkdown.calls _ _ l0 a1_0 a1_1 a1_2 a1_3 a1_4 a1_5 a1_6 a1_7 a1_8 t209 _ ?side1 ?side2 A86.out).mono ?_); (case side1 => repeat (first | exact (Kd.C_below HR0.out HB.out) | (with_reducible refine Kd.C_alloc ?_ _) | (with_reducible refine Kd.C_drewN ?_ _) | (with_reducible refine Kd.C_drew ?_))); (case side2 => exact HC0.out); rintro e w124 ⟨rfl, hb⟩; refine ⟨_, rfl, ?_⟩; have n0_ := Aside0.mk (Kd.R_below (by (with_reducible repeat (first | apply Kd.R_alloc | apply Kd.R_drewN | apply Kd.R_drew)); exact HO202.out) hb); have n1_ := Aside0.mk (Kd.R_below (by (with_reducible repeat (first | apply Kd.R_alloc | apply Kd.R_drewN | apply Kd.R_drew)); exact HO207.out) hb); have n2_ := Aside0.mk (blk_below (g := gb185) (o := .cells #[.int .i64 a1_0, .string a1_1, .string a1_2, .string a1_3, .string a1_4, .string a1_5, .string a1_6, .string a1_7, .string a1_8] 24 (0, 0)) (by (with_reducible repeat (first | refine blk_drewN ?_ _ | refine blk_drew ?_ | refine blk_alloc ?_ _)); exact BK185.out) hb); have n3_ := Aside0.mk (blk_below (g := gb186) (o := .cells #[.int .i64 a2_0, .string a2_1, .string a2_2, .string a2_3, .string a2_4, .string a2_5, .string a2_6, .string a2_7, .string a2_8] 24 (0, 0)) (by (with_reducible repeat (first | refine blk_drewN ?_ _ | refine blk_drew ?_ | refine blk_alloc ?_ _)); exact BK186.out) hb); have n4_ := Aside0.mk (below_step (by repeat (first | (with_reducible first | exact HB.out | apply below_alloc | apply pw_below_drewN | apply below_drew1 | refine below_set ?_ GE185.out | refine below_set ?_ GE186.out) | exact HB.out)) hb); clear HO202; clear HO207; clear BK185; clear BK186; clear HB; have HO202 := n0_; have HO207 := n1_; have BK185 := n2_; have BK186 := n3_; have HB := n4_; clear n0_ n1_ n2_ n3_ n4_; (try clear hb); (try clear hb2); (try clear hk); (try clear hi)) | ((with_reducible refine gate_callee (f := 13) rfl ?_); refine goesL_ (some 84) rfl rfl Tryz.func13 (by kernel_rfl) rfl #[.string t209] rfl (by (try simp only [List.map_toArray, List.map_cons, List.map_nil]); first | done | rfl | (simp only [List.length_drop, List.length_take]; rfl)) ?_; (with_reducible refine (spec_LtMarkdownBack.calls kj24 t209 t210 true _ A87.out).mono ?_); rintro e w125 ⟨v212, rfl, ho0, hb⟩; refine ⟨_, rfl, ?_⟩; have n0_ := Aside0.mk (Kd.R_elder' (by (with_reducible repeat (first | apply Kd.R_alloc | apply Kd.R_drewN | apply Kd.R_drew)); exact HO202.out) (Kd.R_base ho0) hb); have n1_ := Aside0.mk (Kd.R_elder' (by (with_reducible repeat (first | apply Kd.R_alloc | apply Kd.R_drewN | apply Kd.R_drew)); exact HO207.out) (Kd.R_base ho0) hb); have n2_ := Aside0.mk (Kd.R_lower (Kd.R_new' (Kd.R_new' ho0 (Kd.R_lt (by (with_reducible repeat (first | apply Kd.R_alloc | apply Kd.R_drewN | apply Kd.R_drew)); exact HO202.out))) (Kd.R_lt (by (with_reducible repeat (first | apply Kd.R_alloc | apply Kd.R_drewN | apply Kd.R_drew)); exact HO207.out))) (below_size (by repeat (first | (with_reducible first | exact HB.out | apply below_alloc | apply pw_below_drewN | apply below_drew1 | refine below_set ?_ GE185.out | refine below_set ?_ GE186.out) | exact HB.out)))); have n3_ := Aside0.mk (blk_below (g := gb185) (o := .cells #[.int .i64 a1_0, .string a1_1, .string a1_2, .string a1_3, .string a1_4, .string a1_5, .string a1_6, .string a1_7, .string a1_8] 24 (0, 0)) (by (with_reducible repeat (first | refine blk_drewN ?_ _ | refine blk_drew ?_ | refine blk_alloc ?_ _)); exact BK185.out) hb); have n4_ := Aside0.mk (blk_below (g := gb186) (o := .cells #[.int .i64 a2_0, .string a2_1, .string a2_2, .string a2_3, .string a2_4, .string a2_5, .string a2_6, .string a2_7, .string a2_8] 24 (0, 0)) (by (with_reducible repeat (first | refine blk_drewN ?_ _ | refine blk_drew ?_ | refine blk_alloc ?_ _)); exact BK186.out) hb); have n5_ := Aside0.mk (below_step (by repeat (first | (with_reducible first | exact HB.out | apply below_alloc | apply pw_below_drewN | apply below_drew1 | refine below_set ?_ GE185.out | refine below_set ?_ GE186.out) | exact HB.out)) hb); clear HO202; clear HO207; clear BK185; clear BK186; clear HB; have HO202 := n0_; have HO207 := n1_; have HO213 := n2_; have BK185 := n3_; have BK186 := n4_; have HB := n5_; clear n0_ n1_ n2_ n3_ n4_ n5_; (try clear hb); (try clear hb2); (try clear hk); (try clear hi); (try clear ho0)) | ((with_reducible refine gate_callee (f := 16) rfl ?_); refine goesL_ (some 89) rfl rfl Tryz.func16 (by kernel_rfl) rfl #[.slice A0 l0.length c0, .string (⟨#[]⟩ : ByteArray)] rfl (by (try simp only [List.map_toArray, List.map_cons, List.map_nil]); first | done | rfl | (simp only [List.length_drop, List.length_take]; rfl)) ?_; (with_reducible refine (impl_ListHTML.calls _ _ l0 (⟨#[]⟩ : ByteArray) t214 _ ?side1 ?side2 A88.out).mono ?_); (case side1 => repeat (first | exact (Kd.C_below HR0.out HB.out) | (with_reducible refine Kd.C_alloc ?_ _) | (with_reducible refine Kd.C_drewN ?_ _) | (with_reducible refine Kd.C_drew ?_))); (case side2 => exact HC0.out); rintro e w126 ⟨rfl, hb⟩; refine ⟨_, rfl, ?_⟩; have n0_ := Aside0.mk (Kd.R_below (by (with_reducible repeat (first | apply Kd.R_alloc | apply Kd.R_drewN | apply Kd.R_drew)); exact HO202.out) hb); have n1_ := Aside0.mk (Kd.R_below (by (with_reducible repeat (first | apply Kd.R_alloc | apply Kd.R_drewN | apply Kd.R_drew)); exact HO207.out) hb); have n2_ := Aside0.mk (Kd.R_below (by (with_reducible repeat (first | apply Kd.R_alloc | apply Kd.R_drewN | apply Kd.R_drew)); exact HO213.out) hb); have n3_ := Aside0.mk (blk_below (g := gb185) (o := .cells #[.int .i64 a1_0, .string a1_1, .string a1_2, .string a1_3, .string a1_4, .string a1_5, .string a1_6, .string a1_7, .string a1_8] 24 (0, 0)) (by (with_reducible repeat (first | refine blk_drewN ?_ _ | refine blk_drew ?_ | refine blk_alloc ?_ _)); exact BK185.out) hb); have n4_ := Aside0.mk (blk_below (g := gb186) (o := .cells #[.int .i64 a2_0, .string a2_1, .string a2_2, .string a2_3, .string a2_4, .string a2_5, .string a2_6, .string a2_7, .string a2_8] 24 (0, 0)) (by (with_reducible repeat (first | refine blk_drewN ?_ _ | refine blk_drew ?_ | refine blk_alloc ?_ _)); exact BK186.out) hb); have n5_ := Aside0.mk (below_step (by repeat (first | (with_reducible first | exact HB.out | apply below_alloc | apply pw_below_drewN | apply below_drew1 | refine below_set ?_ GE185.out | refine below_set ?_ GE186.out) | exact HB.out)) hb); clear HO202; clear HO207; clear HO213; clear BK185; clear BK186; clear HB; have HO202 := n0_; have HO207 := n1_; have HO213 := n2_; have BK185 := n3_; have BK186 := n4_; have HB := n5_; clear n0_ n1_ n2_ n3_ n4_ n5_; (try clear hb); (try clear hb2); (try clear hk); (try clear hi)) | ((with_reducible refine gate_callee (f := 15) rfl ?_); refine goesL_ (some 90) rfl rfl Tryz.func15 (by kernel_rfl) rfl #[.string t214] rfl (by (try simp only [List.map_toArray, List.map_cons, List.map_nil]); first | done | rfl | (simp only [List.length_drop, List.length_take]; rfl)) ?_; (with_reducible refine (spec_LtHTMLBack.calls kj24 t214 t215 true _ A89.out).mono ?_); rintro e w127 ⟨v217, rfl, ho0, hb⟩; refine ⟨_, rfl, ?_⟩; have n0_ := Aside0.mk (Kd.R_elder' (by (with_reducible repeat (first | apply Kd.R_alloc | apply Kd.R_drewN | apply Kd.R_drew)); exact HO202.out) (Kd.R_base ho0) hb); have n1_ := Aside0.mk (Kd.R_elder' (by (with_reducible repeat (first | apply Kd.R_alloc | apply Kd.R_drewN | apply Kd.R_drew)); exact HO207.out) (Kd.R_base ho0) hb); have n2_ := Aside0.mk (Kd.R_elder' (by (with_reducible repeat (first | apply Kd.R_alloc | apply Kd.R_drewN | apply Kd.R_drew)); exact HO213.out) (Kd.R_base ho0) hb); have n3_ := Aside0.mk (Kd.R_lower (Kd.R_new' (Kd.R_new' (Kd.R_new' ho0 (Kd.R_lt (by (with_reducible repeat (first | apply Kd.R_alloc | apply Kd.R_drewN | apply Kd.R_drew)); exact HO202.out))) (Kd.R_lt (by (with_reducible repeat (first | apply Kd.R_alloc | apply Kd.R_drewN | apply Kd.R_drew)); exact HO207.out))) (Kd.R_lt (by (with_reducible repeat (first | apply Kd.R_alloc | apply Kd.R_drewN | apply Kd.R_drew)); exact HO213.out))) (below_size (by repeat (first | (with_reducible first | exact HB.out | apply below_alloc | apply pw_below_drewN | apply below_drew1 | refine below_set ?_ GE185.out | refine below_set ?_ GE186.out) | exact HB.out)))); have n4_ := Aside0.mk (blk_below (g := gb185) (o := .cells #[.int .i64 a1_0, .string a1_1, .string a1_2, .string a1_3, .string a1_4, .string a1_5, .string a1_6, .string a1_7, .string a1_8] 24 (0, 0)) (by (with_reducible repeat (first | refine blk_drewN ?_ _ | refine blk_drew ?_ | refine blk_alloc ?_ _)); exact BK185.out) hb); have n5_ := Aside0.mk (blk_below (g := gb186) (o := .cells #[.int .i64 a2_0, .string a2_1, .string a2_2, .string a2_3, .string a2_4, .string a2_5, .string a2_6, .string a2_7, .string a2_8] 24 (0, 0)) (by (with_reducible repeat (first | refine blk_drewN ?_ _ | refine blk_drew ?_ | refine blk_alloc ?_ _)); exact BK186.out) hb); have n6_ := Aside0.mk (below_step (by repeat (first | (with_reducible first | exact HB.out | apply below_alloc | apply pw_below_drewN | apply below_drew1 | refine below_set ?_ GE185.out | refine below_set ?_ GE186.out) | exact HB.out)) hb); clear HO202; clear HO207; clear HO213; clear BK185; clear BK186; clear HB; have HO202 := n0_; have HO207 := n1_; have HO213 := n2_; have HO218 := n3_; have BK185 := n4_; have BK186 := n5_; have HB := n6_; clear n0_ n1_ n2_ n3_ n4_ n5_ n6_; (try clear hb); (try clear hb2); (try clear hk); (try clear hi); (try clear ho0); obtain ⟨Ao128, co128, eo128⟩ := Kd.R_slice HO202.out; subst eo128; obtain ⟨Ao129, co129, eo129⟩ := Kd.R_slice HO207.out; subst eo129) | (go_at_call 17; (with_reducible refine (spec_LsSame.calls kj24 _ _ t200 _ _ t205 true _ ?side1 ?side2 ?side3 ?side4 A95.out).mono ?_); (case side1 => repeat (first | exact (Kd.R_reads' HO202.out).2.2 | (with_reducible refine Kd.C_alloc ?_ _) | (with_reducible refine Kd.C_drewN ?_ _) | (with_reducible refine Kd.C_drew ?_))); (case side2 => exact (Kd.R_reads' HO202.out).2.1); (case side3 => repeat (first | exact (Kd.R_reads' HO207.out).2.2 | (with_reducible refine Kd.C_alloc ?_ _) | (with_reducible refine Kd.C_drewN ?_ _) | (with_reducible refine Kd.C_drew ?_))); (case side4 => exact (Kd.R_reads' HO207.out).2.1); rintro e w' ⟨rfl, ⟨nd, rfl⟩⟩; obtain ⟨Ao130, co130, eo130⟩ := Kd.R_slice HO213.out; subst eo130) | (go_at_call 17; (with_reducible refine (spec_LsSame.calls kj24 _ _ t205 _ _ t210 false _ ?side1 ?side2 ?side3 ?side4 A97.out).mono ?_); (case side1 => repeat (first | exact (Kd.R_reads' HO207.out).2.2 | (with_reducible refine Kd.C_alloc ?_ _) | (with_reducible refine Kd.C_drewN ?_ _) | (with_reducible refine Kd.C_drew ?_))); (case side2 => exact (Kd.R_reads' HO207.out).2.1); (case side3 => repeat (first | exact (Kd.R_reads' HO213.out).2.2 | (with_reducible refine Kd.C_alloc ?_ _) | (with_reducible refine Kd.C_drewN ?_ _) | (with_reducible refine Kd.C_drew ?_))); (case side4 => exact (Kd.R_reads' HO213.out).2.1); rintro e w' ⟨rfl, ⟨nd, rfl⟩⟩))
              go_ret
              exact ⟨by first | rfl | (simp [errW_none, errW_some] <;> rfl) | (have e_ : ∀ l_ : List UInt8, (l_ != []) = !l_.isEmpty := fun l_ => (by cases l_ <;> rfl); simp [errW_none, errW_some, e_]; done) | (simp [*, errW_none, errW_some] <;> rfl), by repeat (first | (with_reducible first | exact HB.out | apply below_alloc | apply pw_below_drewN | apply below_drew1 | refine below_set ?_ GE185.out | refine below_set ?_ GE186.out) | exact HB.out)⟩
            ·replace c96 := Bool.eq_false_iff.mpr c96
             subst c96
             have H1 : (some false) = some r := by rw [if_neg (show ¬ (false = true) by decide)] at H; exact H
             clear H
             have H := H1
             clear H1
             obtain rfl := Option.some.inj H
             have hnb137 := NB185_186.out
             have hnc137 := NB186_185.out
             have hcz138_0 : w105.cell? ⟨gb185, 0, none⟩ = some (.int .i64 a1_0) := (blk_cell BK185.out 0).trans rfl
             have hcz138_1 : w105.cell? ⟨gb185, 1, none⟩ = some (.string a1_1) := (blk_cell BK185.out 1).trans rfl
             have hcz138_2 : w105.cell? ⟨gb185, 2, none⟩ = some (.string a1_2) := (blk_cell BK185.out 2).trans rfl
             have hcz138_3 : w105.cell? ⟨gb185, 3, none⟩ = some (.string a1_3) := (blk_cell BK185.out 3).trans rfl
             have hcz138_4 : w105.cell? ⟨gb185, 4, none⟩ = some (.string a1_4) := (blk_cell BK185.out 4).trans rfl
             have hcz138_5 : w105.cell? ⟨gb185, 5, none⟩ = some (.string a1_5) := (blk_cell BK185.out 5).trans rfl
             have hcz138_6 : w105.cell? ⟨gb185, 6, none⟩ = some (.string a1_6) := (blk_cell BK185.out 6).trans rfl
             have hcz138_7 : w105.cell? ⟨gb185, 7, none⟩ = some (.string a1_7) := (blk_cell BK185.out 7).trans rfl
             have hcz138_8 : w105.cell? ⟨gb185, 8, none⟩ = some (.string a1_8) := (blk_cell BK185.out 8).trans rfl
             have hfz138_0 := blk_frozen BK185.out 0
             have hfz138_1 := blk_frozen BK185.out 1
             have hfz138_2 := blk_frozen BK185.out 2
             have hfz138_3 := blk_frozen BK185.out 3
             have hfz138_4 := blk_frozen BK185.out 4
             have hfz138_5 := blk_frozen BK185.out 5
             have hfz138_6 := blk_frozen BK185.out 6
             have hfz138_7 := blk_frozen BK185.out 7
             have hfz138_8 := blk_frozen BK185.out 8
             try go_wp2_with (first | ((with_reducible refine gate_callee (f := 14) rfl ?_); refine goesL_ (some 83) rfl rfl Tryz.func14 (by kernel_rfl) rfl #[.slice A0 l0.length c0, .agg #[.int .i64 a1_0, .string a1_1, .string a1_2, .string a1_3, .string a1_4, .string a1_5, .string a1_6, .string a1_7, .string a1_8]] rfl (by (try simp only [List.map_toArray, List.map_cons, List.map_nil]); first | done | rfl | (simp only [List.length_drop, List.length_take]; rfl)) ?_; (with_reducible refine (impl_ListMarkdown.calls _ _ l0 a1_0 a1_1 a1_2 a1_3 a1_4 a1_5 a1_6 a1_7 a1_8 t209 _ ?side1 ?side2 A86.out).mono ?_); (case side1 => repeat (first | exact (Kd.C_below HR0.out HB.out) | (with_reducible refine Kd.C_alloc ?_ _) | (with_reducible refine Kd.C_drewN ?_ _) | (with_reducible refine Kd.C_drew ?_))); (case side2 => exact HC0.out); rintro e w139 ⟨rfl, hb⟩; refine ⟨_, rfl, ?_⟩; have n0_ := Aside0.mk (Kd.R_below (by (with_reducible repeat (first | apply Kd.R_alloc | apply Kd.R_drewN | apply Kd.R_drew)); exact HO202.out) hb); have n1_ := Aside0.mk (Kd.R_below (by (with_reducible repeat (first | apply Kd.R_alloc | apply Kd.R_drewN | apply Kd.R_drew)); exact HO207.out) hb); have n2_ := Aside0.mk (blk_below (g := gb185) (o := .cells #[.int .i64 a1_0, .string a1_1, .string a1_2, .string a1_3, .string a1_4, .string a1_5, .string a1_6, .string a1_7, .string a1_8] 24 (0, 0)) (by (with_reducible repeat (first | refine blk_drewN ?_ _ | refine blk_drew ?_ | refine blk_alloc ?_ _)); exact BK185.out) hb); have n3_ := Aside0.mk (blk_below (g := gb186) (o := .cells #[.int .i64 a2_0, .string a2_1, .string a2_2, .string a2_3, .string a2_4, .string a2_5, .string a2_6, .string a2_7, .string a2_8] 24 (0, 0)) (by (with_reducible repeat (first | refine blk_drewN ?_ _ | refine blk_drew ?_ | refine blk_alloc ?_ _)); exact BK186.out) hb); have n4_ := Aside0.mk (below_step (by repeat (first | (with_reducible first | exact HB.out | apply below_alloc | apply pw_below_drewN | apply below_drew1 | refine below_set ?_ GE185.out | refine below_set ?_ GE186.out) | exact HB.out)) hb); clear HO202; clear HO207; clear BK185; clear BK186; clear HB; have HO202 := n0_; have HO207 := n1_; have BK185 := n2_; have BK186 := n3_; have HB := n4_; clear n0_ n1_ n2_ n3_ n4_; (try clear hb); (try clear hb2); (try clear hk); (try clear hi)) | ((with_reducible refine gate_callee (f := 13) rfl ?_); refine goesL_ (some 84) rfl rfl Tryz.func13 (by kernel_rfl) rfl #[.string t209] rfl (by (try simp only [List.map_toArray, List.map_cons, List.map_nil]); first | done | rfl | (simp only [List.length_drop, List.length_take]; rfl)) ?_; (with_reducible refine (spec_LtMarkdownBack.calls kj24 t209 t210 true _ A87.out).mono ?_); rintro e w140 ⟨v212, rfl, ho0, hb⟩; refine ⟨_, rfl, ?_⟩; have n0_ := Aside0.mk (Kd.R_elder' (by (with_reducible repeat (first | apply Kd.R_alloc | apply Kd.R_drewN | apply Kd.R_drew)); exact HO202.out) (Kd.R_base ho0) hb); have n1_ := Aside0.mk (Kd.R_elder' (by (with_reducible repeat (first | apply Kd.R_alloc | apply Kd.R_drewN | apply Kd.R_drew)); exact HO207.out) (Kd.R_base ho0) hb); have n2_ := Aside0.mk (Kd.R_lower (Kd.R_new' (Kd.R_new' ho0 (Kd.R_lt (by (with_reducible repeat (first | apply Kd.R_alloc | apply Kd.R_drewN | apply Kd.R_drew)); exact HO202.out))) (Kd.R_lt (by (with_reducible repeat (first | apply Kd.R_alloc | apply Kd.R_drewN | apply Kd.R_drew)); exact HO207.out))) (below_size (by repeat (first | (with_reducible first | exact HB.out | apply below_alloc | apply pw_below_drewN | apply below_drew1 | refine below_set ?_ GE185.out | refine below_set ?_ GE186.out) | exact HB.out)))); have n3_ := Aside0.mk (blk_below (g := gb185) (o := .cells #[.int .i64 a1_0, .string a1_1, .string a1_2, .string a1_3, .string a1_4, .string a1_5, .string a1_6, .string a1_7, .string a1_8] 24 (0, 0)) (by (with_reducible repeat (first | refine blk_drewN ?_ _ | refine blk_drew ?_ | refine blk_alloc ?_ _)); exact BK185.out) hb); have n4_ := Aside0.mk (blk_below (g := gb186) (o := .cells #[.int .i64 a2_0, .string a2_1, .string a2_2, .string a2_3, .string a2_4, .string a2_5, .string a2_6, .string a2_7, .string a2_8] 24 (0, 0)) (by (with_reducible repeat (first | refine blk_drewN ?_ _ | refine blk_drew ?_ | refine blk_alloc ?_ _)); exact BK186.out) hb); have n5_ := Aside0.mk (below_step (by repeat (first | (with_reducible first | exact HB.out | apply below_alloc | apply pw_below_drewN | apply below_drew1 | refine below_set ?_ GE185.out | refine below_set ?_ GE186.out) | exact HB.out)) hb); clear HO202; clear HO207; clear BK185; clear BK186; clear HB; have HO202 := n0_; have HO207 := n1_; have HO213 := n2_; have BK185 := n3_; have BK186 := n4_; have HB := n5_; clear n0_ n1_ n2_ n3_ n4_ n5_; (try clear hb); (try clear hb2); (try clear hk); (try clear hi); (try clear ho0)) | ((with_reducible refine gate_callee (f := 16) rfl ?_); refine goesL_ (some 89) rfl rfl Tryz.func16 (by kernel_rfl) rfl #[.slice A0 l0.length c0, .string (⟨#[]⟩ : ByteArray)] rfl (by (try simp only [List.map_toArray, List.map_cons, List.map_nil]); first | done | rfl | (simp only [List.length_drop, List.length_take]; rfl)) ?_; (with_reducible refine (impl_ListHTML.calls _ _ l0 (⟨#[]⟩ : ByteArray) t214 _ ?side1 ?side2 A88.out).mono ?_); (case side1 => repeat (first | exact (Kd.C_below HR0.out HB.out) | (with_reducible refine Kd.C_alloc ?_ _) | (with_reducible refine Kd.C_drewN ?_ _) | (with_reducible refine Kd.C_drew ?_))); (case side2 => exact HC0.out); rintro e w141 ⟨rfl, hb⟩; refine ⟨_, rfl, ?_⟩; have n0_ := Aside0.mk (Kd.R_below (by (with_reducible repeat (first | apply Kd.R_alloc | apply Kd.R_drewN | apply Kd.R_drew)); exact HO202.out) hb); have n1_ := Aside0.mk (Kd.R_below (by (with_reducible repeat (first | apply Kd.R_alloc | apply Kd.R_drewN | apply Kd.R_drew)); exact HO207.out) hb); have n2_ := Aside0.mk (Kd.R_below (by (with_reducible repeat (first | apply Kd.R_alloc | apply Kd.R_drewN | apply Kd.R_drew)); exact HO213.out) hb); have n3_ := Aside0.mk (blk_below (g := gb185) (o := .cells #[.int .i64 a1_0, .string a1_1, .string a1_2, .string a1_3, .string a1_4, .string a1_5, .string a1_6, .string a1_7, .string a1_8] 24 (0, 0)) (by (with_reducible repeat (first | refine blk_drewN ?_ _ | refine blk_drew ?_ | refine blk_alloc ?_ _)); exact BK185.out) hb); have n4_ := Aside0.mk (blk_below (g := gb186) (o := .cells #[.int .i64 a2_0, .string a2_1, .string a2_2, .string a2_3, .string a2_4, .string a2_5, .string a2_6, .string a2_7, .string a2_8] 24 (0, 0)) (by (with_reducible repeat (first | refine blk_drewN ?_ _ | refine blk_drew ?_ | refine blk_alloc ?_ _)); exact BK186.out) hb); have n5_ := Aside0.mk (below_step (by repeat (first | (with_reducible first | exact HB.out | apply below_alloc | apply pw_below_drewN | apply below_drew1 | refine below_set ?_ GE185.out | refine below_set ?_ GE186.out) | exact HB.out)) hb); clear HO202; clear HO207; clear HO213; clear BK185; clear BK186; clear HB; have HO202 := n0_; have HO207 := n1_; have HO213 := n2_; have BK185 := n3_; have BK186 := n4_; have HB := n5_; clear n0_ n1_ n2_ n3_ n4_ n5_; (try clear hb); (try clear hb2); (try clear hk); (try clear hi)) | ((with_reducible refine gate_callee (f := 15) rfl ?_); refine goesL_ (some 90) rfl rfl Tryz.func15 (by kernel_rfl) rfl #[.string t214] rfl (by (try simp only [List.map_toArray, List.map_cons, List.map_nil]); first | done | rfl | (simp only [List.length_drop, List.length_take]; rfl)) ?_; (with_reducible refine (spec_LtHTMLBack.calls kj24 t214 t215 true _ A89.out).mono ?_); rintro e w142 ⟨v217, rfl, ho0, hb⟩; refine ⟨_, rfl, ?_⟩; have n0_ := Aside0.mk (Kd.R_elder' (by (with_reducible repeat (first | apply Kd.R_alloc | apply Kd.R_drewN | apply Kd.R_drew)); exact HO202.out) (Kd.R_base ho0) hb); have n1_ := Aside0.mk (Kd.R_elder' (by (with_reducible repeat (first | apply Kd.R_alloc | apply Kd.R_drewN | apply Kd.R_drew)); exact HO207.out) (Kd.R_base ho0) hb); have n2_ := Aside0.mk (Kd.R_elder' (by (with_reducible repeat (first | apply Kd.R_alloc | apply Kd.R_drewN | apply Kd.R_drew)); exact HO213.out) (Kd.R_base ho0) hb); have n3_ := Aside0.mk (Kd.R_lower (Kd.R_new' (Kd.R_new' (Kd.R_new' ho0 (Kd.R_lt (by (with_reducible repeat (first | apply Kd.R_alloc | apply Kd.R_drewN | apply Kd.R_drew)); exact HO202.out))) (Kd.R_lt (by (with_reducible repeat (first | apply Kd.R_alloc | apply Kd.R_drewN | apply Kd.R_drew)); exact HO207.out))) (Kd.R_lt (by (with_reducible repeat (first | apply Kd.R_alloc | apply Kd.R_drewN | apply Kd.R_drew)); exact HO213.out))) (below_size (by repeat (first | (with_reducible first | exact HB.out | apply below_alloc | apply pw_below_drewN | apply below_drew1 | refine below_set ?_ GE185.out | refine below_set ?_ GE186.out) | exact HB.out)))); have n4_ := Aside0.mk (blk_below (g := gb185) (o := .cells #[.int .i64 a1_0, .string a1_1, .string a1_2, .string a1_3, .string a1_4, .string a1_5, .string a1_6, .string a1_7, .string a1_8] 24 (0, 0)) (by (with_reducible repeat (first | refine blk_drewN ?_ _ | refine blk_drew ?_ | refine blk_alloc ?_ _)); exact BK185.out) hb); have n5_ := Aside0.mk (blk_below (g := gb186) (o := .cells #[.int .i64 a2_0, .string a2_1, .string a2_2, .string a2_3, .string a2_4, .string a2_5, .string a2_6, .string a2_7, .string a2_8] 24 (0, 0)) (by (with_reducible repeat (first | refine blk_drewN ?_ _ | refine blk_drew ?_ | refine blk_alloc ?_ _)); exact BK186.out) hb); have n6_ := Aside0.mk (below_step (by repeat (first | (with_reducible first | exact HB.out | apply below_alloc | apply pw_below_drewN | apply below_drew1 | refine below_set ?_ GE185.out | refine below_set ?_ GE186.out) | exact HB.out)) hb); clear HO202; clear HO207; clear HO213; clear BK185; clear BK186; clear HB; have HO202 := n0_; have HO207 := n1_; have HO213 := n2_; have HO218 := n3_; have BK185 := n4_; have BK186 := n5_; have HB := n6_; clear n0_ n1_ n2_ n3_ n4_ n5_ n6_; (try clear hb); (try clear hb2); (try clear hk); (try clear hi); (try clear ho0); obtain ⟨Ao143, co143, eo143⟩ := Kd.R_slice HO202.out; subst eo143; obtain ⟨Ao144, co144, eo144⟩ := Kd.R_slice HO207.out; subst eo144) | (go_at_call 17; (with_reducible refine (spec_LsSame.calls kj24 _ _ t200 _ _ t205 false _ ?side1 ?side2 ?side3 ?side4 A95.out).mono ?_); (case side1 => repeat (first | exact (Kd.R_reads' HO202.out).2.2 | (with_reducible refine Kd.C_alloc ?_ _) | (with_reducible refine Kd.C_drewN ?_ _) | (with_reducible refine Kd.C_drew ?_))); (case side2 => exact (Kd.R_reads' HO202.out).2.1); (case side3 => repeat (first | exact (Kd.R_reads' HO207.out).2.2 | (with_reducible refine Kd.C_alloc ?_ _) | (with_reducible refine Kd.C_drewN ?_ _) | (with_reducible refine Kd.C_drew ?_))); (case side4 => exact (Kd.R_reads' HO207.out).2.1); rintro e w' ⟨rfl, ⟨nd, rfl⟩⟩))
             go_ret
             exact ⟨by first | rfl | (simp [errW_none, errW_some] <;> rfl) | (have e_ : ∀ l_ : List UInt8, (l_ != []) = !l_.isEmpty := fun l_ => (by cases l_ <;> rfl); simp [errW_none, errW_some, e_]; done) | (simp [*, errW_none, errW_some] <;> rfl), by repeat (first | (with_reducible first | exact HB.out | apply below_alloc | apply pw_below_drewN | apply below_drew1 | refine below_set ?_ GE185.out | refine below_set ?_ GE186.out) | exact HB.out)⟩
           ·rw [if_neg c94] at H
            have c94b0 : decide (0 < (t200.length : Int)) = false := decide_eq_false c94
            have c94b1 : decide (0 < t200.length) = false := decide_eq_false (by omega)
            clear c94
            obtain rfl := Option.some.inj H
            have hnb151 := NB185_186.out
            have hnc151 := NB186_185.out
            have hcz152_0 : w105.cell? ⟨gb185, 0, none⟩ = some (.int .i64 a1_0) := (blk_cell BK185.out 0).trans rfl
            have hcz152_1 : w105.cell? ⟨gb185, 1, none⟩ = some (.string a1_1) := (blk_cell BK185.out 1).trans rfl
            have hcz152_2 : w105.cell? ⟨gb185, 2, none⟩ = some (.string a1_2) := (blk_cell BK185.out 2).trans rfl
            have hcz152_3 : w105.cell? ⟨gb185, 3, none⟩ = some (.string a1_3) := (blk_cell BK185.out 3).trans rfl
            have hcz152_4 : w105.cell? ⟨gb185, 4, none⟩ = some (.string a1_4) := (blk_cell BK185.out 4).trans rfl
            have hcz152_5 : w105.cell? ⟨gb185, 5, none⟩ = some (.string a1_5) := (blk_cell BK185.out 5).trans rfl
            have hcz152_6 : w105.cell? ⟨gb185, 6, none⟩ = some (.string a1_6) := (blk_cell BK185.out 6).trans rfl
            have hcz152_7 : w105.cell? ⟨gb185, 7, none⟩ = some (.string a1_7) := (blk_cell BK185.out 7).trans rfl
            have hcz152_8 : w105.cell? ⟨gb185, 8, none⟩ = some (.string a1_8) := (blk_cell BK185.out 8).trans rfl
            have hfz152_0 := blk_frozen BK185.out 0
            have hfz152_1 := blk_frozen BK185.out 1
            have hfz152_2 := blk_frozen BK185.out 2
            have hfz152_3 := blk_frozen BK185.out 3
            have hfz152_4 := blk_frozen BK185.out 4
            have hfz152_5 := blk_frozen BK185.out 5
            have hfz152_6 := blk_frozen BK185.out 6
            have hfz152_7 := blk_frozen BK185.out 7
            have hfz152_8 := blk_frozen BK185.out 8
            try go_wp2_with (first | ((with_reducible refine gate_callee (f := 14) rfl ?_); refine goesL_ (some 83) rfl rfl Tryz.func14 (by kernel_rfl) rfl #[.slice A0 l0.length c0, .agg #[.int .i64 a1_0, .string a1_1, .string a1_2, .string a1_3, .string a1_4, .string a1_5, .string a1_6, .string a1_7, .string a1_8]] rfl (by (try simp only [List.map_toArray, List.map_cons, List.map_nil]); first | done | rfl | (simp only [List.length_drop, List.length_take]; rfl)) ?_; (with_reducible refine (impl_ListMarkdown.calls _ _ l0 a1_0 a1_1 a1_2 a1_3 a1_4 a1_5 a1_6 a1_7 a1_8 t209 _ ?side1 ?side2 A86.out).mono ?_); (case side1 => repeat (first | exact (Kd.C_below HR0.out HB.out) | (with_reducible refine Kd.C_alloc ?_ _) | (with_reducible refine Kd.C_drewN ?_ _) | (with_reducible refine Kd.C_drew ?_))); (case side2 => exact HC0.out); rintro e w153 ⟨rfl, hb⟩; refine ⟨_, rfl, ?_⟩; have n0_ := Aside0.mk (Kd.R_below (by (with_reducible repeat (first | apply Kd.R_alloc | apply Kd.R_drewN | apply Kd.R_drew)); exact HO202.out) hb); have n1_ := Aside0.mk (Kd.R_below (by (with_reducible repeat (first | apply Kd.R_alloc | apply Kd.R_drewN | apply Kd.R_drew)); exact HO207.out) hb); have n2_ := Aside0.mk (blk_below (g := gb185) (o := .cells #[.int .i64 a1_0, .string a1_1, .string a1_2, .string a1_3, .string a1_4, .string a1_5, .string a1_6, .string a1_7, .string a1_8] 24 (0, 0)) (by (with_reducible repeat (first | refine blk_drewN ?_ _ | refine blk_drew ?_ | refine blk_alloc ?_ _)); exact BK185.out) hb); have n3_ := Aside0.mk (blk_below (g := gb186) (o := .cells #[.int .i64 a2_0, .string a2_1, .string a2_2, .string a2_3, .string a2_4, .string a2_5, .string a2_6, .string a2_7, .string a2_8] 24 (0, 0)) (by (with_reducible repeat (first | refine blk_drewN ?_ _ | refine blk_drew ?_ | refine blk_alloc ?_ _)); exact BK186.out) hb); have n4_ := Aside0.mk (below_step (by repeat (first | (with_reducible first | exact HB.out | apply below_alloc | apply pw_below_drewN | apply below_drew1 | refine below_set ?_ GE185.out | refine below_set ?_ GE186.out) | exact HB.out)) hb); clear HO202; clear HO207; clear BK185; clear BK186; clear HB; have HO202 := n0_; have HO207 := n1_; have BK185 := n2_; have BK186 := n3_; have HB := n4_; clear n0_ n1_ n2_ n3_ n4_; (try clear hb); (try clear hb2); (try clear hk); (try clear hi)) | ((with_reducible refine gate_callee (f := 13) rfl ?_); refine goesL_ (some 84) rfl rfl Tryz.func13 (by kernel_rfl) rfl #[.string t209] rfl (by (try simp only [List.map_toArray, List.map_cons, List.map_nil]); first | done | rfl | (simp only [List.length_drop, List.length_take]; rfl)) ?_; (with_reducible refine (spec_LtMarkdownBack.calls kj24 t209 t210 true _ A87.out).mono ?_); rintro e w154 ⟨v212, rfl, ho0, hb⟩; refine ⟨_, rfl, ?_⟩; have n0_ := Aside0.mk (Kd.R_elder' (by (with_reducible repeat (first | apply Kd.R_alloc | apply Kd.R_drewN | apply Kd.R_drew)); exact HO202.out) (Kd.R_base ho0) hb); have n1_ := Aside0.mk (Kd.R_elder' (by (with_reducible repeat (first | apply Kd.R_alloc | apply Kd.R_drewN | apply Kd.R_drew)); exact HO207.out) (Kd.R_base ho0) hb); have n2_ := Aside0.mk (Kd.R_lower (Kd.R_new' (Kd.R_new' ho0 (Kd.R_lt (by (with_reducible repeat (first | apply Kd.R_alloc | apply Kd.R_drewN | apply Kd.R_drew)); exact HO202.out))) (Kd.R_lt (by (with_reducible repeat (first | apply Kd.R_alloc | apply Kd.R_drewN | apply Kd.R_drew)); exact HO207.out))) (below_size (by repeat (first | (with_reducible first | exact HB.out | apply below_alloc | apply pw_below_drewN | apply below_drew1 | refine below_set ?_ GE185.out | refine below_set ?_ GE186.out) | exact HB.out)))); have n3_ := Aside0.mk (blk_below (g := gb185) (o := .cells #[.int .i64 a1_0, .string a1_1, .string a1_2, .string a1_3, .string a1_4, .string a1_5, .string a1_6, .string a1_7, .string a1_8] 24 (0, 0)) (by (with_reducible repeat (first | refine blk_drewN ?_ _ | refine blk_drew ?_ | refine blk_alloc ?_ _)); exact BK185.out) hb); have n4_ := Aside0.mk (blk_below (g := gb186) (o := .cells #[.int .i64 a2_0, .string a2_1, .string a2_2, .string a2_3, .string a2_4, .string a2_5, .string a2_6, .string a2_7, .string a2_8] 24 (0, 0)) (by (with_reducible repeat (first | refine blk_drewN ?_ _ | refine blk_drew ?_ | refine blk_alloc ?_ _)); exact BK186.out) hb); have n5_ := Aside0.mk (below_step (by repeat (first | (with_reducible first | exact HB.out | apply below_alloc | apply pw_below_drewN | apply below_drew1 | refine below_set ?_ GE185.out | refine below_set ?_ GE186.out) | exact HB.out)) hb); clear HO202; clear HO207; clear BK185; clear BK186; clear HB; have HO202 := n0_; have HO207 := n1_; have HO213 := n2_; have BK185 := n3_; have BK186 := n4_; have HB := n5_; clear n0_ n1_ n2_ n3_ n4_ n5_; (try clear hb); (try clear hb2); (try clear hk); (try clear hi); (try clear ho0)) | ((with_reducible refine gate_callee (f := 16) rfl ?_); refine goesL_ (some 89) rfl rfl Tryz.func16 (by kernel_rfl) rfl #[.slice A0 l0.length c0, .string (⟨#[]⟩ : ByteArray)] rfl (by (try simp only [List.map_toArray, List.map_cons, List.map_nil]); first | done | rfl | (simp only [List.length_drop, List.length_take]; rfl)) ?_; (with_reducible refine (impl_ListHTML.calls _ _ l0 (⟨#[]⟩ : ByteArray) t214 _ ?side1 ?side2 A88.out).mono ?_); (case side1 => repeat (first | exact (Kd.C_below HR0.out HB.out) | (with_reducible refine Kd.C_alloc ?_ _) | (with_reducible refine Kd.C_drewN ?_ _) | (with_reducible refine Kd.C_drew ?_))); (case side2 => exact HC0.out); rintro e w155 ⟨rfl, hb⟩; refine ⟨_, rfl, ?_⟩; have n0_ := Aside0.mk (Kd.R_below (by (with_reducible repeat (first | apply Kd.R_alloc | apply Kd.R_drewN | apply Kd.R_drew)); exact HO202.out) hb); have n1_ := Aside0.mk (Kd.R_below (by (with_reducible repeat (first | apply Kd.R_alloc | apply Kd.R_drewN | apply Kd.R_drew)); exact HO207.out) hb); have n2_ := Aside0.mk (Kd.R_below (by (with_reducible repeat (first | apply Kd.R_alloc | apply Kd.R_drewN | apply Kd.R_drew)); exact HO213.out) hb); have n3_ := Aside0.mk (blk_below (g := gb185) (o := .cells #[.int .i64 a1_0, .string a1_1, .string a1_2, .string a1_3, .string a1_4, .string a1_5, .string a1_6, .string a1_7, .string a1_8] 24 (0, 0)) (by (with_reducible repeat (first | refine blk_drewN ?_ _ | refine blk_drew ?_ | refine blk_alloc ?_ _)); exact BK185.out) hb); have n4_ := Aside0.mk (blk_below (g := gb186) (o := .cells #[.int .i64 a2_0, .string a2_1, .string a2_2, .string a2_3, .string a2_4, .string a2_5, .string a2_6, .string a2_7, .string a2_8] 24 (0, 0)) (by (with_reducible repeat (first | refine blk_drewN ?_ _ | refine blk_drew ?_ | refine blk_alloc ?_ _)); exact BK186.out) hb); have n5_ := Aside0.mk (below_step (by repeat (first | (with_reducible first | exact HB.out | apply below_alloc | apply pw_below_drewN | apply below_drew1 | refine below_set ?_ GE185.out | refine below_set ?_ GE186.out) | exact HB.out)) hb); clear HO202; clear HO207; clear HO213; clear BK185; clear BK186; clear HB; have HO202 := n0_; have HO207 := n1_; have HO213 := n2_; have BK185 := n3_; have BK186 := n4_; have HB := n5_; clear n0_ n1_ n2_ n3_ n4_ n5_; (try clear hb); (try clear hb2); (try clear hk); (try clear hi)) | ((with_reducible refine gate_callee (f := 15) rfl ?_); refine goesL_ (some 90) rfl rfl Tryz.func15 (by kernel_rfl) rfl #[.string t214] rfl (by (try simp only [List.map_toArray, List.map_cons, List.map_nil]); first | done | rfl | (simp only [List.length_drop, List.length_take]; rfl)) ?_; (with_reducible refine (spec_LtHTMLBack.calls kj24 t214 t215 true _ A89.out).mono ?_); rintro e w156 ⟨v217, rfl, ho0, hb⟩; refine ⟨_, rfl, ?_⟩; have n0_ := Aside0.mk (Kd.R_elder' (by (with_reducible repeat (first | apply Kd.R_alloc | apply Kd.R_drewN | apply Kd.R_drew)); exact HO202.out) (Kd.R_base ho0) hb); have n1_ := Aside0.mk (Kd.R_elder' (by (with_reducible repeat (first | apply Kd.R_alloc | apply Kd.R_drewN | apply Kd.R_drew)); exact HO207.out) (Kd.R_base ho0) hb); have n2_ := Aside0.mk (Kd.R_elder' (by (with_reducible repeat (first | apply Kd.R_alloc | apply Kd.R_drewN | apply Kd.R_drew)); exact HO213.out) (Kd.R_base ho0) hb); have n3_ := Aside0.mk (Kd.R_lower (Kd.R_new' (Kd.R_new' (Kd.R_new' ho0 (Kd.R_lt (by (with_reducible repeat (first | apply Kd.R_alloc | apply Kd.R_drewN | apply Kd.R_drew)); exact HO202.out))) (Kd.R_lt (by (with_reducible repeat (first | apply Kd.R_alloc | apply Kd.R_drewN | apply Kd.R_drew)); exact HO207.out))) (Kd.R_lt (by (with_reducible repeat (first | apply Kd.R_alloc | apply Kd.R_drewN | apply Kd.R_drew)); exact HO213.out))) (below_size (by repeat (first | (with_reducible first | exact HB.out | apply below_alloc | apply pw_below_drewN | apply below_drew1 | refine below_set ?_ GE185.out | refine below_set ?_ GE186.out) | exact HB.out)))); have n4_ := Aside0.mk (blk_below (g := gb185) (o := .cells #[.int .i64 a1_0, .string a1_1, .string a1_2, .string a1_3, .string a1_4, .string a1_5, .string a1_6, .string a1_7, .string a1_8] 24 (0, 0)) (by (with_reducible repeat (first | refine blk_drewN ?_ _ | refine blk_drew ?_ | refine blk_alloc ?_ _)); exact BK185.out) hb); have n5_ := Aside0.mk (blk_below (g := gb186) (o := .cells #[.int .i64 a2_0, .string a2_1, .string a2_2, .string a2_3, .string a2_4, .string a2_5, .string a2_6, .string a2_7, .string a2_8] 24 (0, 0)) (by (with_reducible repeat (first | refine blk_drewN ?_ _ | refine blk_drew ?_ | refine blk_alloc ?_ _)); exact BK186.out) hb); have n6_ := Aside0.mk (below_step (by repeat (first | (with_reducible first | exact HB.out | apply below_alloc | apply pw_below_drewN | apply below_drew1 | refine below_set ?_ GE185.out | refine below_set ?_ GE186.out) | exact HB.out)) hb); clear HO202; clear HO207; clear HO213; clear BK185; clear BK186; clear HB; have HO202 := n0_; have HO207 := n1_; have HO213 := n2_; have HO218 := n3_; have BK185 := n4_; have BK186 := n5_; have HB := n6_; clear n0_ n1_ n2_ n3_ n4_ n5_ n6_; (try clear hb); (try clear hb2); (try clear hk); (try clear hi); (try clear ho0); obtain ⟨Ao157, co157, eo157⟩ := Kd.R_slice HO202.out; subst eo157))
            go_ret
            exact ⟨by first | rfl | (simp [errW_none, errW_some] <;> rfl) | (have e_ : ∀ l_ : List UInt8, (l_ != []) = !l_.isEmpty := fun l_ => (by cases l_ <;> rfl); simp [errW_none, errW_some, e_]; done) | (simp [*, errW_none, errW_some] <;> rfl), by repeat (first | (with_reducible first | exact HB.out | apply below_alloc | apply pw_below_drewN | apply below_drew1 | refine below_set ?_ GE185.out | refine below_set ?_ GE186.out) | exact HB.out)⟩
          ·replace c93 := Bool.eq_false_iff.mpr c93
           subst c93
           have H1 : (some false) = some r := by rw [if_neg (show ¬ (false = true) by decide)] at H; exact H
           clear H
           have H := H1
           clear H1
           obtain rfl := Option.some.inj H
           have hnb164 := NB185_186.out
           have hnc164 := NB186_185.out
           have hcz165_0 : w105.cell? ⟨gb185, 0, none⟩ = some (.int .i64 a1_0) := (blk_cell BK185.out 0).trans rfl
           have hcz165_1 : w105.cell? ⟨gb185, 1, none⟩ = some (.string a1_1) := (blk_cell BK185.out 1).trans rfl
           have hcz165_2 : w105.cell? ⟨gb185, 2, none⟩ = some (.string a1_2) := (blk_cell BK185.out 2).trans rfl
           have hcz165_3 : w105.cell? ⟨gb185, 3, none⟩ = some (.string a1_3) := (blk_cell BK185.out 3).trans rfl
           have hcz165_4 : w105.cell? ⟨gb185, 4, none⟩ = some (.string a1_4) := (blk_cell BK185.out 4).trans rfl
           have hcz165_5 : w105.cell? ⟨gb185, 5, none⟩ = some (.string a1_5) := (blk_cell BK185.out 5).trans rfl
           have hcz165_6 : w105.cell? ⟨gb185, 6, none⟩ = some (.string a1_6) := (blk_cell BK185.out 6).trans rfl
           have hcz165_7 : w105.cell? ⟨gb185, 7, none⟩ = some (.string a1_7) := (blk_cell BK185.out 7).trans rfl
           have hcz165_8 : w105.cell? ⟨gb185, 8, none⟩ = some (.string a1_8) := (blk_cell BK185.out 8).trans rfl
           have hfz165_0 := blk_frozen BK185.out 0
           have hfz165_1 := blk_frozen BK185.out 1
           have hfz165_2 := blk_frozen BK185.out 2
           have hfz165_3 := blk_frozen BK185.out 3
           have hfz165_4 := blk_frozen BK185.out 4
           have hfz165_5 := blk_frozen BK185.out 5
           have hfz165_6 := blk_frozen BK185.out 6
           have hfz165_7 := blk_frozen BK185.out 7
           have hfz165_8 := blk_frozen BK185.out 8
           try go_wp2_with (first | ((with_reducible refine gate_callee (f := 14) rfl ?_); refine goesL_ (some 83) rfl rfl Tryz.func14 (by kernel_rfl) rfl #[.slice A0 l0.length c0, .agg #[.int .i64 a1_0, .string a1_1, .string a1_2, .string a1_3, .string a1_4, .string a1_5, .string a1_6, .string a1_7, .string a1_8]] rfl (by (try simp only [List.map_toArray, List.map_cons, List.map_nil]); first | done | rfl | (simp only [List.length_drop, List.length_take]; rfl)) ?_; (with_reducible refine (impl_ListMarkdown.calls _ _ l0 a1_0 a1_1 a1_2 a1_3 a1_4 a1_5 a1_6 a1_7 a1_8 t209 _ ?side1 ?side2 A86.out).mono ?_); (case side1 => repeat (first | exact (Kd.C_below HR0.out HB.out) | (with_reducible refine Kd.C_alloc ?_ _) | (with_reducible refine Kd.C_drewN ?_ _) | (with_reducible refine Kd.C_drew ?_))); (case side2 => exact HC0.out); rintro e w166 ⟨rfl, hb⟩; refine ⟨_, rfl, ?_⟩; have n0_ := Aside0.mk (Kd.R_below (by (with_reducible repeat (first | apply Kd.R_alloc | apply Kd.R_drewN | apply Kd.R_drew)); exact HO202.out) hb); have n1_ := Aside0.mk (Kd.R_below (by (with_reducible repeat (first | apply Kd.R_alloc | apply Kd.R_drewN | apply Kd.R_drew)); exact HO207.out) hb); have n2_ := Aside0.mk (blk_below (g := gb185) (o := .cells #[.int .i64 a1_0, .string a1_1, .string a1_2, .string a1_3, .string a1_4, .string a1_5, .string a1_6, .string a1_7, .string a1_8] 24 (0, 0)) (by (with_reducible repeat (first | refine blk_drewN ?_ _ | refine blk_drew ?_ | refine blk_alloc ?_ _)); exact BK185.out) hb); have n3_ := Aside0.mk (blk_below (g := gb186) (o := .cells #[.int .i64 a2_0, .string a2_1, .string a2_2, .string a2_3, .string a2_4, .string a2_5, .string a2_6, .string a2_7, .string a2_8] 24 (0, 0)) (by (with_reducible repeat (first | refine blk_drewN ?_ _ | refine blk_drew ?_ | refine blk_alloc ?_ _)); exact BK186.out) hb); have n4_ := Aside0.mk (below_step (by repeat (first | (with_reducible first | exact HB.out | apply below_alloc | apply pw_below_drewN | apply below_drew1 | refine below_set ?_ GE185.out | refine below_set ?_ GE186.out) | exact HB.out)) hb); clear HO202; clear HO207; clear BK185; clear BK186; clear HB; have HO202 := n0_; have HO207 := n1_; have BK185 := n2_; have BK186 := n3_; have HB := n4_; clear n0_ n1_ n2_ n3_ n4_; (try clear hb); (try clear hb2); (try clear hk); (try clear hi)) | ((with_reducible refine gate_callee (f := 13) rfl ?_); refine goesL_ (some 84) rfl rfl Tryz.func13 (by kernel_rfl) rfl #[.string t209] rfl (by (try simp only [List.map_toArray, List.map_cons, List.map_nil]); first | done | rfl | (simp only [List.length_drop, List.length_take]; rfl)) ?_; (with_reducible refine (spec_LtMarkdownBack.calls kj24 t209 t210 true _ A87.out).mono ?_); rintro e w167 ⟨v212, rfl, ho0, hb⟩; refine ⟨_, rfl, ?_⟩; have n0_ := Aside0.mk (Kd.R_elder' (by (with_reducible repeat (first | apply Kd.R_alloc | apply Kd.R_drewN | apply Kd.R_drew)); exact HO202.out) (Kd.R_base ho0) hb); have n1_ := Aside0.mk (Kd.R_elder' (by (with_reducible repeat (first | apply Kd.R_alloc | apply Kd.R_drewN | apply Kd.R_drew)); exact HO207.out) (Kd.R_base ho0) hb); have n2_ := Aside0.mk (Kd.R_lower (Kd.R_new' (Kd.R_new' ho0 (Kd.R_lt (by (with_reducible repeat (first | apply Kd.R_alloc | apply Kd.R_drewN | apply Kd.R_drew)); exact HO202.out))) (Kd.R_lt (by (with_reducible repeat (first | apply Kd.R_alloc | apply Kd.R_drewN | apply Kd.R_drew)); exact HO207.out))) (below_size (by repeat (first | (with_reducible first | exact HB.out | apply below_alloc | apply pw_below_drewN | apply below_drew1 | refine below_set ?_ GE185.out | refine below_set ?_ GE186.out) | exact HB.out)))); have n3_ := Aside0.mk (blk_below (g := gb185) (o := .cells #[.int .i64 a1_0, .string a1_1, .string a1_2, .string a1_3, .string a1_4, .string a1_5, .string a1_6, .string a1_7, .string a1_8] 24 (0, 0)) (by (with_reducible repeat (first | refine blk_drewN ?_ _ | refine blk_drew ?_ | refine blk_alloc ?_ _)); exact BK185.out) hb); have n4_ := Aside0.mk (blk_below (g := gb186) (o := .cells #[.int .i64 a2_0, .string a2_1, .string a2_2, .string a2_3, .string a2_4, .string a2_5, .string a2_6, .string a2_7, .string a2_8] 24 (0, 0)) (by (with_reducible repeat (first | refine blk_drewN ?_ _ | refine blk_drew ?_ | refine blk_alloc ?_ _)); exact BK186.out) hb); have n5_ := Aside0.mk (below_step (by repeat (first | (with_reducible first | exact HB.out | apply below_alloc | apply pw_below_drewN | apply below_drew1 | refine below_set ?_ GE185.out | refine below_set ?_ GE186.out) | exact HB.out)) hb); clear HO202; clear HO207; clear BK185; clear BK186; clear HB; have HO202 := n0_; have HO207 := n1_; have HO213 := n2_; have BK185 := n3_; have BK186 := n4_; have HB := n5_; clear n0_ n1_ n2_ n3_ n4_ n5_; (try clear hb); (try clear hb2); (try clear hk); (try clear hi); (try clear ho0)) | ((with_reducible refine gate_callee (f := 16) rfl ?_); refine goesL_ (some 89) rfl rfl Tryz.func16 (by kernel_rfl) rfl #[.slice A0 l0.length c0, .string (⟨#[]⟩ : ByteArray)] rfl (by (try simp only [List.map_toArray, List.map_cons, List.map_nil]); first | done | rfl | (simp only [List.length_drop, List.length_take]; rfl)) ?_; (with_reducible refine (impl_ListHTML.calls _ _ l0 (⟨#[]⟩ : ByteArray) t214 _ ?side1 ?side2 A88.out).mono ?_); (case side1 => repeat (first | exact (Kd.C_below HR0.out HB.out) | (with_reducible refine Kd.C_alloc ?_ _) | (with_reducible refine Kd.C_drewN ?_ _) | (with_reducible refine Kd.C_drew ?_))); (case side2 => exact HC0.out); rintro e w168 ⟨rfl, hb⟩; refine ⟨_, rfl, ?_⟩; have n0_ := Aside0.mk (Kd.R_below (by (with_reducible repeat (first | apply Kd.R_alloc | apply Kd.R_drewN | apply Kd.R_drew)); exact HO202.out) hb); have n1_ := Aside0.mk (Kd.R_below (by (with_reducible repeat (first | apply Kd.R_alloc | apply Kd.R_drewN | apply Kd.R_drew)); exact HO207.out) hb); have n2_ := Aside0.mk (Kd.R_below (by (with_reducible repeat (first | apply Kd.R_alloc | apply Kd.R_drewN | apply Kd.R_drew)); exact HO213.out) hb); have n3_ := Aside0.mk (blk_below (g := gb185) (o := .cells #[.int .i64 a1_0, .string a1_1, .string a1_2, .string a1_3, .string a1_4, .string a1_5, .string a1_6, .string a1_7, .string a1_8] 24 (0, 0)) (by (with_reducible repeat (first | refine blk_drewN ?_ _ | refine blk_drew ?_ | refine blk_alloc ?_ _)); exact BK185.out) hb); have n4_ := Aside0.mk (blk_below (g := gb186) (o := .cells #[.int .i64 a2_0, .string a2_1, .string a2_2, .string a2_3, .string a2_4, .string a2_5, .string a2_6, .string a2_7, .string a2_8] 24 (0, 0)) (by (with_reducible repeat (first | refine blk_drewN ?_ _ | refine blk_drew ?_ | refine blk_alloc ?_ _)); exact BK186.out) hb); have n5_ := Aside0.mk (below_step (by repeat (first | (with_reducible first | exact HB.out | apply below_alloc | apply pw_below_drewN | apply below_drew1 | refine below_set ?_ GE185.out | refine below_set ?_ GE186.out) | exact HB.out)) hb); clear HO202; clear HO207; clear HO213; clear BK185; clear BK186; clear HB; have HO202 := n0_; have HO207 := n1_; have HO213 := n2_; have BK185 := n3_; have BK186 := n4_; have HB := n5_; clear n0_ n1_ n2_ n3_ n4_ n5_; (try clear hb); (try clear hb2); (try clear hk); (try clear hi)) | ((with_reducible refine gate_callee (f := 15) rfl ?_); refine goesL_ (some 90) rfl rfl Tryz.func15 (by kernel_rfl) rfl #[.string t214] rfl (by (try simp only [List.map_toArray, List.map_cons, List.map_nil]); first | done | rfl | (simp only [List.length_drop, List.length_take]; rfl)) ?_; (with_reducible refine (spec_LtHTMLBack.calls kj24 t214 t215 false _ A89.out).mono ?_); rintro e w169 ⟨v217, rfl, ho0, hb⟩; refine ⟨_, rfl, ?_⟩; have n0_ := Aside0.mk (Kd.R_elder' (by (with_reducible repeat (first | apply Kd.R_alloc | apply Kd.R_drewN | apply Kd.R_drew)); exact HO202.out) (Kd.R_base ho0) hb); have n1_ := Aside0.mk (Kd.R_elder' (by (with_reducible repeat (first | apply Kd.R_alloc | apply Kd.R_drewN | apply Kd.R_drew)); exact HO207.out) (Kd.R_base ho0) hb); have n2_ := Aside0.mk (Kd.R_elder' (by (with_reducible repeat (first | apply Kd.R_alloc | apply Kd.R_drewN | apply Kd.R_drew)); exact HO213.out) (Kd.R_base ho0) hb); have n3_ := Aside0.mk (Kd.R_lower (Kd.R_new' (Kd.R_new' (Kd.R_new' ho0 (Kd.R_lt (by (with_reducible repeat (first | apply Kd.R_alloc | apply Kd.R_drewN | apply Kd.R_drew)); exact HO202.out))) (Kd.R_lt (by (with_reducible repeat (first | apply Kd.R_alloc | apply Kd.R_drewN | apply Kd.R_drew)); exact HO207.out))) (Kd.R_lt (by (with_reducible repeat (first | apply Kd.R_alloc | apply Kd.R_drewN | apply Kd.R_drew)); exact HO213.out))) (below_size (by repeat (first | (with_reducible first | exact HB.out | apply below_alloc | apply pw_below_drewN | apply below_drew1 | refine below_set ?_ GE185.out | refine below_set ?_ GE186.out) | exact HB.out)))); have n4_ := Aside0.mk (blk_below (g := gb185) (o := .cells #[.int .i64 a1_0, .string a1_1, .string a1_2, .string a1_3, .string a1_4, .string a1_5, .string a1_6, .string a1_7, .string a1_8] 24 (0, 0)) (by (with_reducible repeat (first | refine blk_drewN ?_ _ | refine blk_drew ?_ | refine blk_alloc ?_ _)); exact BK185.out) hb); have n5_ := Aside0.mk (blk_below (g := gb186) (o := .cells #[.int .i64 a2_0, .string a2_1, .string a2_2, .string a2_3, .string a2_4, .string a2_5, .string a2_6, .string a2_7, .string a2_8] 24 (0, 0)) (by (with_reducible repeat (first | refine blk_drewN ?_ _ | refine blk_drew ?_ | refine blk_alloc ?_ _)); exact BK186.out) hb); have n6_ := Aside0.mk (below_step (by repeat (first | (with_reducible first | exact HB.out | apply below_alloc | apply pw_below_drewN | apply below_drew1 | refine below_set ?_ GE185.out | refine below_set ?_ GE186.out) | exact HB.out)) hb); clear HO202; clear HO207; clear HO213; clear BK185; clear BK186; clear HB; have HO202 := n0_; have HO207 := n1_; have HO213 := n2_; have HO218 := n3_; have BK185 := n4_; have BK186 := n5_; have HB := n6_; clear n0_ n1_ n2_ n3_ n4_ n5_ n6_; (try clear hb); (try clear hb2); (try clear hk); (try clear hi); (try clear ho0)))
           go_ret
           exact ⟨by first | rfl | (simp [errW_none, errW_some] <;> rfl) | (have e_ : ∀ l_ : List UInt8, (l_ != []) = !l_.isEmpty := fun l_ => (by cases l_ <;> rfl); simp [errW_none, errW_some, e_]; done) | (simp [*, errW_none, errW_some] <;> rfl), by repeat (first | (with_reducible first | exact HB.out | apply below_alloc | apply pw_below_drewN | apply below_drew1 | refine below_set ?_ GE185.out | refine below_set ?_ GE186.out) | exact HB.out)⟩
         ·replace c92 := Bool.eq_false_iff.mpr c92
          subst c92
          have H1 : (some false) = some r := by rw [if_neg (show ¬ (false = true) by decide)] at H; exact H
          clear H
          have H := H1
          clear H1
          obtain rfl := Option.some.inj H
          have hnb176 := NB185_186.out
          have hnc176 := NB186_185.out
          have hcz177_0 : w105.cell? ⟨gb185, 0, none⟩ = some (.int .i64 a1_0) := (blk_cell BK185.out 0).trans rfl
          have hcz177_1 : w105.cell? ⟨gb185, 1, none⟩ = some (.string a1_1) := (blk_cell BK185.out 1).trans rfl
          have hcz177_2 : w105.cell? ⟨gb185, 2, none⟩ = some (.string a1_2) := (blk_cell BK185.out 2).trans rfl
          have hcz177_3 : w105.cell? ⟨gb185, 3, none⟩ = some (.string a1_3) := (blk_cell BK185.out 3).trans rfl
          have hcz177_4 : w105.cell? ⟨gb185, 4, none⟩ = some (.string a1_4) := (blk_cell BK185.out 4).trans rfl
          have hcz177_5 : w105.cell? ⟨gb185, 5, none⟩ = some (.string a1_5) := (blk_cell BK185.out 5).trans rfl
          have hcz177_6 : w105.cell? ⟨gb185, 6, none⟩ = some (.string a1_6) := (blk_cell BK185.out 6).trans rfl
          have hcz177_7 : w105.cell? ⟨gb185, 7, none⟩ = some (.string a1_7) := (blk_cell BK185.out 7).trans rfl
          have hcz177_8 : w105.cell? ⟨gb185, 8, none⟩ = some (.string a1_8) := (blk_cell BK185.out 8).trans rfl
          have hfz177_0 := blk_frozen BK185.out 0
          have hfz177_1 := blk_frozen BK185.out 1
          have hfz177_2 := blk_frozen BK185.out 2
          have hfz177_3 := blk_frozen BK185.out 3
          have hfz177_4 := blk_frozen BK185.out 4
          have hfz177_5 := blk_frozen BK185.out 5
          have hfz177_6 := blk_frozen BK185.out 6
          have hfz177_7 := blk_frozen BK185.out 7
          have hfz177_8 := blk_frozen BK185.out 8
          try go_wp2_with (first | ((with_reducible refine gate_callee (f := 14) rfl ?_); refine goesL_ (some 83) rfl rfl Tryz.func14 (by kernel_rfl) rfl #[.slice A0 l0.length c0, .agg #[.int .i64 a1_0, .string a1_1, .string a1_2, .string a1_3, .string a1_4, .string a1_5, .string a1_6, .string a1_7, .string a1_8]] rfl (by (try simp only [List.map_toArray, List.map_cons, List.map_nil]); first | done | rfl | (simp only [List.length_drop, List.length_take]; rfl)) ?_; (with_reducible refine (impl_ListMarkdown.calls _ _ l0 a1_0 a1_1 a1_2 a1_3 a1_4 a1_5 a1_6 a1_7 a1_8 t209 _ ?side1 ?side2 A86.out).mono ?_); (case side1 => repeat (first | exact (Kd.C_below HR0.out HB.out) | (with_reducible refine Kd.C_alloc ?_ _) | (with_reducible refine Kd.C_drewN ?_ _) | (with_reducible refine Kd.C_drew ?_))); (case side2 => exact HC0.out); rintro e w178 ⟨rfl, hb⟩; refine ⟨_, rfl, ?_⟩; have n0_ := Aside0.mk (Kd.R_below (by (with_reducible repeat (first | apply Kd.R_alloc | apply Kd.R_drewN | apply Kd.R_drew)); exact HO202.out) hb); have n1_ := Aside0.mk (Kd.R_below (by (with_reducible repeat (first | apply Kd.R_alloc | apply Kd.R_drewN | apply Kd.R_drew)); exact HO207.out) hb); have n2_ := Aside0.mk (blk_below (g := gb185) (o := .cells #[.int .i64 a1_0, .string a1_1, .string a1_2, .string a1_3, .string a1_4, .string a1_5, .string a1_6, .string a1_7, .string a1_8] 24 (0, 0)) (by (with_reducible repeat (first | refine blk_drewN ?_ _ | refine blk_drew ?_ | refine blk_alloc ?_ _)); exact BK185.out) hb); have n3_ := Aside0.mk (blk_below (g := gb186) (o := .cells #[.int .i64 a2_0, .string a2_1, .string a2_2, .string a2_3, .string a2_4, .string a2_5, .string a2_6, .string a2_7, .string a2_8] 24 (0, 0)) (by (with_reducible repeat (first | refine blk_drewN ?_ _ | refine blk_drew ?_ | refine blk_alloc ?_ _)); exact BK186.out) hb); have n4_ := Aside0.mk (below_step (by repeat (first | (with_reducible first | exact HB.out | apply below_alloc | apply pw_below_drewN | apply below_drew1 | refine below_set ?_ GE185.out | refine below_set ?_ GE186.out) | exact HB.out)) hb); clear HO202; clear HO207; clear BK185; clear BK186; clear HB; have HO202 := n0_; have HO207 := n1_; have BK185 := n2_; have BK186 := n3_; have HB := n4_; clear n0_ n1_ n2_ n3_ n4_; (try clear hb); (try clear hb2); (try clear hk); (try clear hi)) | ((with_reducible refine gate_callee (f := 13) rfl ?_); refine goesL_ (some 84) rfl rfl Tryz.func13 (by kernel_rfl) rfl #[.string t209] rfl (by (try simp only [List.map_toArray, List.map_cons, List.map_nil]); first | done | rfl | (simp only [List.length_drop, List.length_take]; rfl)) ?_; (with_reducible refine (spec_LtMarkdownBack.calls kj24 t209 t210 false _ A87.out).mono ?_); rintro e w179 ⟨v212, rfl, ho0, hb⟩; refine ⟨_, rfl, ?_⟩; have n0_ := Aside0.mk (Kd.R_elder' (by (with_reducible repeat (first | apply Kd.R_alloc | apply Kd.R_drewN | apply Kd.R_drew)); exact HO202.out) (Kd.R_base ho0) hb); have n1_ := Aside0.mk (Kd.R_elder' (by (with_reducible repeat (first | apply Kd.R_alloc | apply Kd.R_drewN | apply Kd.R_drew)); exact HO207.out) (Kd.R_base ho0) hb); have n2_ := Aside0.mk (Kd.R_lower (Kd.R_new' (Kd.R_new' ho0 (Kd.R_lt (by (with_reducible repeat (first | apply Kd.R_alloc | apply Kd.R_drewN | apply Kd.R_drew)); exact HO202.out))) (Kd.R_lt (by (with_reducible repeat (first | apply Kd.R_alloc | apply Kd.R_drewN | apply Kd.R_drew)); exact HO207.out))) (below_size (by repeat (first | (with_reducible first | exact HB.out | apply below_alloc | apply pw_below_drewN | apply below_drew1 | refine below_set ?_ GE185.out | refine below_set ?_ GE186.out) | exact HB.out)))); have n3_ := Aside0.mk (blk_below (g := gb185) (o := .cells #[.int .i64 a1_0, .string a1_1, .string a1_2, .string a1_3, .string a1_4, .string a1_5, .string a1_6, .string a1_7, .string a1_8] 24 (0, 0)) (by (with_reducible repeat (first | refine blk_drewN ?_ _ | refine blk_drew ?_ | refine blk_alloc ?_ _)); exact BK185.out) hb); have n4_ := Aside0.mk (blk_below (g := gb186) (o := .cells #[.int .i64 a2_0, .string a2_1, .string a2_2, .string a2_3, .string a2_4, .string a2_5, .string a2_6, .string a2_7, .string a2_8] 24 (0, 0)) (by (with_reducible repeat (first | refine blk_drewN ?_ _ | refine blk_drew ?_ | refine blk_alloc ?_ _)); exact BK186.out) hb); have n5_ := Aside0.mk (below_step (by repeat (first | (with_reducible first | exact HB.out | apply below_alloc | apply pw_below_drewN | apply below_drew1 | refine below_set ?_ GE185.out | refine below_set ?_ GE186.out) | exact HB.out)) hb); clear HO202; clear HO207; clear BK185; clear BK186; clear HB; have HO202 := n0_; have HO207 := n1_; have HO213 := n2_; have BK185 := n3_; have BK186 := n4_; have HB := n5_; clear n0_ n1_ n2_ n3_ n4_ n5_; (try clear hb); (try clear hb2); (try clear hk); (try clear hi); (try clear ho0)) | ((with_reducible refine gate_callee (f := 16) rfl ?_); refine goesL_ (some 89) rfl rfl Tryz.func16 (by kernel_rfl) rfl #[.slice A0 l0.length c0, .string (⟨#[]⟩ : ByteArray)] rfl (by (try simp only [List.map_toArray, List.map_cons, List.map_nil]); first | done | rfl | (simp only [List.length_drop, List.length_take]; rfl)) ?_; (with_reducible refine (impl_ListHTML.calls _ _ l0 (⟨#[]⟩ : ByteArray) t214 _ ?side1 ?side2 A88.out).mono ?_); (case side1 => repeat (first | exact (Kd.C_below HR0.out HB.out) | (with_reducible refine Kd.C_alloc ?_ _) | (with_reducible refine Kd.C_drewN ?_ _) | (with_reducible refine Kd.C_drew ?_))); (case side2 => exact HC0.out); rintro e w180 ⟨rfl, hb⟩; refine ⟨_, rfl, ?_⟩; have n0_ := Aside0.mk (Kd.R_below (by (with_reducible repeat (first | apply Kd.R_alloc | apply Kd.R_drewN | apply Kd.R_drew)); exact HO202.out) hb); have n1_ := Aside0.mk (Kd.R_below (by (with_reducible repeat (first | apply Kd.R_alloc | apply Kd.R_drewN | apply Kd.R_drew)); exact HO207.out) hb); have n2_ := Aside0.mk (Kd.R_below (by (with_reducible repeat (first | apply Kd.R_alloc | apply Kd.R_drewN | apply Kd.R_drew)); exact HO213.out) hb); have n3_ := Aside0.mk (blk_below (g := gb185) (o := .cells #[.int .i64 a1_0, .string a1_1, .string a1_2, .string a1_3, .string a1_4, .string a1_5, .string a1_6, .string a1_7, .string a1_8] 24 (0, 0)) (by (with_reducible repeat (first | refine blk_drewN ?_ _ | refine blk_drew ?_ | refine blk_alloc ?_ _)); exact BK185.out) hb); have n4_ := Aside0.mk (blk_below (g := gb186) (o := .cells #[.int .i64 a2_0, .string a2_1, .string a2_2, .string a2_3, .string a2_4, .string a2_5, .string a2_6, .string a2_7, .string a2_8] 24 (0, 0)) (by (with_reducible repeat (first | refine blk_drewN ?_ _ | refine blk_drew ?_ | refine blk_alloc ?_ _)); exact BK186.out) hb); have n5_ := Aside0.mk (below_step (by repeat (first | (with_reducible first | exact HB.out | apply below_alloc | apply pw_below_drewN | apply below_drew1 | refine below_set ?_ GE185.out | refine below_set ?_ GE186.out) | exact HB.out)) hb); clear HO202; clear HO207; clear HO213; clear BK185; clear BK186; clear HB; have HO202 := n0_; have HO207 := n1_; have HO213 := n2_; have BK185 := n3_; have BK186 := n4_; have HB := n5_; clear n0_ n1_ n2_ n3_ n4_ n5_; (try clear hb); (try clear hb2); (try clear hk); (try clear hi)) | ((with_reducible refine gate_callee (f := 15) rfl ?_); refine goesL_ (some 90) rfl rfl Tryz.func15 (by kernel_rfl) rfl #[.string t214] rfl (by (try simp only [List.map_toArray, List.map_cons, List.map_nil]); first | done | rfl | (simp only [List.length_drop, List.length_take]; rfl)) ?_; (with_reducible refine (spec_LtHTMLBack.calls kj24 t214 t215 t216 _ A89.out).mono ?_); rintro e w181 ⟨v217, rfl, ho0, hb⟩; refine ⟨_, rfl, ?_⟩; have n0_ := Aside0.mk (Kd.R_elder' (by (with_reducible repeat (first | apply Kd.R_alloc | apply Kd.R_drewN | apply Kd.R_drew)); exact HO202.out) (Kd.R_base ho0) hb); have n1_ := Aside0.mk (Kd.R_elder' (by (with_reducible repeat (first | apply Kd.R_alloc | apply Kd.R_drewN | apply Kd.R_drew)); exact HO207.out) (Kd.R_base ho0) hb); have n2_ := Aside0.mk (Kd.R_elder' (by (with_reducible repeat (first | apply Kd.R_alloc | apply Kd.R_drewN | apply Kd.R_drew)); exact HO213.out) (Kd.R_base ho0) hb); have n3_ := Aside0.mk (Kd.R_lower (Kd.R_new' (Kd.R_new' (Kd.R_new' ho0 (Kd.R_lt (by (with_reducible repeat (first | apply Kd.R_alloc | apply Kd.R_drewN | apply Kd.R_drew)); exact HO202.out))) (Kd.R_lt (by (with_reducible repeat (first | apply Kd.R_alloc | apply Kd.R_drewN | apply Kd.R_drew)); exact HO207.out))) (Kd.R_lt (by (with_reducible repeat (first | apply Kd.R_alloc | apply Kd.R_drewN | apply Kd.R_drew)); exact HO213.out))) (below_size (by repeat (first | (with_reducible first | exact HB.out | apply below_alloc | apply pw_below_drewN | apply below_drew1 | refine below_set ?_ GE185.out | refine below_set ?_ GE186.out) | exact HB.out)))); have n4_ := Aside0.mk (blk_below (g := gb185) (o := .cells #[.int .i64 a1_0, .string a1_1, .string a1_2, .string a1_3, .string a1_4, .string a1_5, .string a1_6, .string a1_7, .string a1_8] 24 (0, 0)) (by (with_reducible repeat (first | refine blk_drewN ?_ _ | refine blk_drew ?_ | refine blk_alloc ?_ _)); exact BK185.out) hb); have n5_ := Aside0.mk (blk_below (g := gb186) (o := .cells #[.int .i64 a2_0, .string a2_1, .string a2_2, .string a2_3, .string a2_4, .string a2_5, .string a2_6, .string a2_7, .string a2_8] 24 (0, 0)) (by (with_reducible repeat (first | refine blk_drewN ?_ _ | refine blk_drew ?_ | refine blk_alloc ?_ _)); exact BK186.out) hb); have n6_ := Aside0.mk (below_step (by repeat (first | (with_reducible first | exact HB.out | apply below_alloc | apply pw_below_drewN | apply below_drew1 | refine below_set ?_ GE185.out | refine below_set ?_ GE186.out) | exact HB.out)) hb); clear HO202; clear HO207; clear HO213; clear BK185; clear BK186; clear HB; have HO202 := n0_; have HO207 := n1_; have HO213 := n2_; have HO218 := n3_; have BK185 := n4_; have BK186 := n5_; have HB := n6_; clear n0_ n1_ n2_ n3_ n4_ n5_ n6_; (try clear hb); (try clear hb2); (try clear hk); (try clear hi); (try clear ho0)))
          go_ret
          exact ⟨by first | rfl | (simp [errW_none, errW_some] <;> rfl) | (have e_ : ∀ l_ : List UInt8, (l_ != []) = !l_.isEmpty := fun l_ => (by cases l_ <;> rfl); simp [errW_none, errW_some, e_]; done) | (simp [*, errW_none, errW_some] <;> rfl), by repeat (first | (with_reducible first | exact HB.out | apply below_alloc | apply pw_below_drewN | apply below_drew1 | refine below_set ?_ GE185.out | refine below_set ?_ GE186.out) | exact HB.out)⟩
        ·replace c91 := Bool.eq_false_iff.mpr c91
         subst c91
         have H1 : (some false) = some r := by rw [if_neg (show ¬ (false = true) by decide)] at H; exact H
         clear H
         have H := H1
         clear H1
         obtain rfl := Option.some.inj H
         have hnb188 := NB185_186.out
         have hnc188 := NB186_185.out
         have hcz189_0 : w105.cell? ⟨gb185, 0, none⟩ = some (.int .i64 a1_0) := (blk_cell BK185.out 0).trans rfl
         have hcz189_1 : w105.cell? ⟨gb185, 1, none⟩ = some (.string a1_1) := (blk_cell BK185.out 1).trans rfl
         have hcz189_2 : w105.cell? ⟨gb185, 2, none⟩ = some (.string a1_2) := (blk_cell BK185.out 2).trans rfl
         have hcz189_3 : w105.cell? ⟨gb185, 3, none⟩ = some (.string a1_3) := (blk_cell BK185.out 3).trans rfl
         have hcz189_4 : w105.cell? ⟨gb185, 4, none⟩ = some (.string a1_4) := (blk_cell BK185.out 4).trans rfl
         have hcz189_5 : w105.cell? ⟨gb185, 5, none⟩ = some (.string a1_5) := (blk_cell BK185.out 5).trans rfl
         have hcz189_6 : w105.cell? ⟨gb185, 6, none⟩ = some (.string a1_6) := (blk_cell BK185.out 6).trans rfl
         have hcz189_7 : w105.cell? ⟨gb185, 7, none⟩ = some (.string a1_7) := (blk_cell BK185.out 7).trans rfl
         have hcz189_8 : w105.cell? ⟨gb185, 8, none⟩ = some (.string a1_8) := (blk_cell BK185.out 8).trans rfl
         have hfz189_0 := blk_frozen BK185.out 0
         have hfz189_1 := blk_frozen BK185.out 1
         have hfz189_2 := blk_frozen BK185.out 2
         have hfz189_3 := blk_frozen BK185.out 3
         have hfz189_4 := blk_frozen BK185.out 4
         have hfz189_5 := blk_frozen BK185.out 5
         have hfz189_6 := blk_frozen BK185.out 6
         have hfz189_7 := blk_frozen BK185.out 7
         have hfz189_8 := blk_frozen BK185.out 8
         try go_wp2_with (first | ((with_reducible refine gate_callee (f := 14) rfl ?_); refine goesL_ (some 83) rfl rfl Tryz.func14 (by kernel_rfl) rfl #[.slice A0 l0.length c0, .agg #[.int .i64 a1_0, .string a1_1, .string a1_2, .string a1_3, .string a1_4, .string a1_5, .string a1_6, .string a1_7, .string a1_8]] rfl (by (try simp only [List.map_toArray, List.map_cons, List.map_nil]); first | done | rfl | (simp only [List.length_drop, List.length_take]; rfl)) ?_; (with_reducible refine (impl_ListMarkdown.calls _ _ l0 a1_0 a1_1 a1_2 a1_3 a1_4 a1_5 a1_6 a1_7 a1_8 t209 _ ?side1 ?side2 A86.out).mono ?_); (case side1 => repeat (first | exact (Kd.C_below HR0.out HB.out) | (with_reducible refine Kd.C_alloc ?_ _) | (with_reducible refine Kd.C_drewN ?_ _) | (with_reducible refine Kd.C_drew ?_))); (case side2 => exact HC0.out); rintro e w190 ⟨rfl, hb⟩; refine ⟨_, rfl, ?_⟩; have n0_ := Aside0.mk (Kd.R_below (by (with_reducible repeat (first | apply Kd.R_alloc | apply Kd.R_drewN | apply Kd.R_drew)); exact HO202.out) hb); have n1_ := Aside0.mk (Kd.R_below (by (with_reducible repeat (first | apply Kd.R_alloc | apply Kd.R_drewN | apply Kd.R_drew)); exact HO207.out) hb); have n2_ := Aside0.mk (blk_below (g := gb185) (o := .cells #[.int .i64 a1_0, .string a1_1, .string a1_2, .string a1_3, .string a1_4, .string a1_5, .string a1_6, .string a1_7, .string a1_8] 24 (0, 0)) (by (with_reducible repeat (first | refine blk_drewN ?_ _ | refine blk_drew ?_ | refine blk_alloc ?_ _)); exact BK185.out) hb); have n3_ := Aside0.mk (blk_below (g := gb186) (o := .cells #[.int .i64 a2_0, .string a2_1, .string a2_2, .string a2_3, .string a2_4, .string a2_5, .string a2_6, .string a2_7, .string a2_8] 24 (0, 0)) (by (with_reducible repeat (first | refine blk_drewN ?_ _ | refine blk_drew ?_ | refine blk_alloc ?_ _)); exact BK186.out) hb); have n4_ := Aside0.mk (below_step (by repeat (first | (with_reducible first | exact HB.out | apply below_alloc | apply pw_below_drewN | apply below_drew1 | refine below_set ?_ GE185.out | refine below_set ?_ GE186.out) | exact HB.out)) hb); clear HO202; clear HO207; clear BK185; clear BK186; clear HB; have HO202 := n0_; have HO207 := n1_; have BK185 := n2_; have BK186 := n3_; have HB := n4_; clear n0_ n1_ n2_ n3_ n4_; (try clear hb); (try clear hb2); (try clear hk); (try clear hi)) | ((with_reducible refine gate_callee (f := 13) rfl ?_); refine goesL_ (some 84) rfl rfl Tryz.func13 (by kernel_rfl) rfl #[.string t209] rfl (by (try simp only [List.map_toArray, List.map_cons, List.map_nil]); first | done | rfl | (simp only [List.length_drop, List.length_take]; rfl)) ?_; (with_reducible refine (spec_LtMarkdownBack.calls kj24 t209 t210 t211 _ A87.out).mono ?_); rintro e w191 ⟨v212, rfl, ho0, hb⟩; refine ⟨_, rfl, ?_⟩; have n0_ := Aside0.mk (Kd.R_elder' (by (with_reducible repeat (first | apply Kd.R_alloc | apply Kd.R_drewN | apply Kd.R_drew)); exact HO202.out) (Kd.R_base ho0) hb); have n1_ := Aside0.mk (Kd.R_elder' (by (with_reducible repeat (first | apply Kd.R_alloc | apply Kd.R_drewN | apply Kd.R_drew)); exact HO207.out) (Kd.R_base ho0) hb); have n2_ := Aside0.mk (Kd.R_lower (Kd.R_new' (Kd.R_new' ho0 (Kd.R_lt (by (with_reducible repeat (first | apply Kd.R_alloc | apply Kd.R_drewN | apply Kd.R_drew)); exact HO202.out))) (Kd.R_lt (by (with_reducible repeat (first | apply Kd.R_alloc | apply Kd.R_drewN | apply Kd.R_drew)); exact HO207.out))) (below_size (by repeat (first | (with_reducible first | exact HB.out | apply below_alloc | apply pw_below_drewN | apply below_drew1 | refine below_set ?_ GE185.out | refine below_set ?_ GE186.out) | exact HB.out)))); have n3_ := Aside0.mk (blk_below (g := gb185) (o := .cells #[.int .i64 a1_0, .string a1_1, .string a1_2, .string a1_3, .string a1_4, .string a1_5, .string a1_6, .string a1_7, .string a1_8] 24 (0, 0)) (by (with_reducible repeat (first | refine blk_drewN ?_ _ | refine blk_drew ?_ | refine blk_alloc ?_ _)); exact BK185.out) hb); have n4_ := Aside0.mk (blk_below (g := gb186) (o := .cells #[.int .i64 a2_0, .string a2_1, .string a2_2, .string a2_3, .string a2_4, .string a2_5, .string a2_6, .string a2_7, .string a2_8] 24 (0, 0)) (by (with_reducible repeat (first | refine blk_drewN ?_ _ | refine blk_drew ?_ | refine blk_alloc ?_ _)); exact BK186.out) hb); have n5_ := Aside0.mk (below_step (by repeat (first | (with_reducible first | exact HB.out | apply below_alloc | apply pw_below_drewN | apply below_drew1 | refine below_set ?_ GE185.out | refine below_set ?_ GE186.out) | exact HB.out)) hb); clear HO202; clear HO207; clear BK185; clear BK186; clear HB; have HO202 := n0_; have HO207 := n1_; have HO213 := n2_; have BK185 := n3_; have BK186 := n4_; have HB := n5_; clear n0_ n1_ n2_ n3_ n4_ n5_; (try clear hb); (try clear hb2); (try clear hk); (try clear hi); (try clear ho0)) | ((with_reducible refine gate_callee (f := 16) rfl ?_); refine goesL_ (some 89) rfl rfl Tryz.func16 (by kernel_rfl) rfl #[.slice A0 l0.length c0, .string (⟨#[]⟩ : ByteArray)] rfl (by (try simp only [List.map_toArray, List.map_cons, List.map_nil]); first | done | rfl | (simp only [List.length_drop, List.length_take]; rfl)) ?_; (with_reducible refine (impl_ListHTML.calls _ _ l0 (⟨#[]⟩ : ByteArray) t214 _ ?side1 ?side2 A88.out).mono ?_); (case side1 => repeat (first | exact (Kd.C_below HR0.out HB.out) | (with_reducible refine Kd.C_alloc ?_ _) | (with_reducible refine Kd.C_drewN ?_ _) | (with_reducible refine Kd.C_drew ?_))); (case side2 => exact HC0.out); rintro e w192 ⟨rfl, hb⟩; refine ⟨_, rfl, ?_⟩; have n0_ := Aside0.mk (Kd.R_below (by (with_reducible repeat (first | apply Kd.R_alloc | apply Kd.R_drewN | apply Kd.R_drew)); exact HO202.out) hb); have n1_ := Aside0.mk (Kd.R_below (by (with_reducible repeat (first | apply Kd.R_alloc | apply Kd.R_drewN | apply Kd.R_drew)); exact HO207.out) hb); have n2_ := Aside0.mk (Kd.R_below (by (with_reducible repeat (first | apply Kd.R_alloc | apply Kd.R_drewN | apply Kd.R_drew)); exact HO213.out) hb); have n3_ := Aside0.mk (blk_below (g := gb185) (o := .cells #[.int .i64 a1_0, .string a1_1, .string a1_2, .string a1_3, .string a1_4, .string a1_5, .string a1_6, .string a1_7, .string a1_8] 24 (0, 0)) (by (with_reducible repeat (first | refine blk_drewN ?_ _ | refine blk_drew ?_ | refine blk_alloc ?_ _)); exact BK185.out) hb); have n4_ := Aside0.mk (blk_below (g := gb186) (o := .cells #[.int .i64 a2_0, .string a2_1, .string a2_2, .string a2_3, .string a2_4, .string a2_5, .string a2_6, .string a2_7, .string a2_8] 24 (0, 0)) (by (with_reducible repeat (first | refine blk_drewN ?_ _ | refine blk_drew ?_ | refine blk_alloc ?_ _)); exact BK186.out) hb); have n5_ := Aside0.mk (below_step (by repeat (first | (with_reducible first | exact HB.out | apply below_alloc | apply pw_below_drewN | apply below_drew1 | refine below_set ?_ GE185.out | refine below_set ?_ GE186.out) | exact HB.out)) hb); clear HO202; clear HO207; clear HO213; clear BK185; clear BK186; clear HB; have HO202 := n0_; have HO207 := n1_; have HO213 := n2_; have BK185 := n3_; have BK186 := n4_; have HB := n5_; clear n0_ n1_ n2_ n3_ n4_ n5_; (try clear hb); (try clear hb2); (try clear hk); (try clear hi)) | ((with_reducible refine gate_callee (f := 15) rfl ?_); refine goesL_ (some 90) rfl rfl Tryz.func15 (by kernel_rfl) rfl #[.string t214] rfl (by (try simp only [List.map_toArray, List.map_cons, List.map_nil]); first | done | rfl | (simp only [List.length_drop, List.length_take]; rfl)) ?_; (with_reducible refine (spec_LtHTMLBack.calls kj24 t214 t215 t216 _ A89.out).mono ?_); rintro e w193 ⟨v217, rfl, ho0, hb⟩; refine ⟨_, rfl, ?_⟩; have n0_ := Aside0.mk (Kd.R_elder' (by (with_reducible repeat (first | apply Kd.R_alloc | apply Kd.R_drewN | apply Kd.R_drew)); exact HO202.out) (Kd.R_base ho0) hb); have n1_ := Aside0.mk (Kd.R_elder' (by (with_reducible repeat (first | apply Kd.R_alloc | apply Kd.R_drewN | apply Kd.R_drew)); exact HO207.out) (Kd.R_base ho0) hb); have n2_ := Aside0.mk (Kd.R_elder' (by (with_reducible repeat (first | apply Kd.R_alloc | apply Kd.R_drewN | apply Kd.R_drew)); exact HO213.out) (Kd.R_base ho0) hb); have n3_ := Aside0.mk (Kd.R_lower (Kd.R_new' (Kd.R_new' (Kd.R_new' ho0 (Kd.R_lt (by (with_reducible repeat (first | apply Kd.R_alloc | apply Kd.R_drewN | apply Kd.R_drew)); exact HO202.out))) (Kd.R_lt (by (with_reducible repeat (first | apply Kd.R_alloc | apply Kd.R_drewN | apply Kd.R_drew)); exact HO207.out))) (Kd.R_lt (by (with_reducible repeat (first | apply Kd.R_alloc | apply Kd.R_drewN | apply Kd.R_drew)); exact HO213.out))) (below_size (by repeat (first | (with_reducible first | exact HB.out | apply below_alloc | apply pw_below_drewN | apply below_drew1 | refine below_set ?_ GE185.out | refine below_set ?_ GE186.out) | exact HB.out)))); have n4_ := Aside0.mk (blk_below (g := gb185) (o := .cells #[.int .i64 a1_0, .string a1_1, .string a1_2, .string a1_3, .string a1_4, .string a1_5, .string a1_6, .string a1_7, .string a1_8] 24 (0, 0)) (by (with_reducible repeat (first | refine blk_drewN ?_ _ | refine blk_drew ?_ | refine blk_alloc ?_ _)); exact BK185.out) hb); have n5_ := Aside0.mk (blk_below (g := gb186) (o := .cells #[.int .i64 a2_0, .string a2_1, .string a2_2, .string a2_3, .string a2_4, .string a2_5, .string a2_6, .string a2_7, .string a2_8] 24 (0, 0)) (by (with_reducible repeat (first | refine blk_drewN ?_ _ | refine blk_drew ?_ | refine blk_alloc ?_ _)); exact BK186.out) hb); have n6_ := Aside0.mk (below_step (by repeat (first | (with_reducible first | exact HB.out | apply below_alloc | apply pw_below_drewN | apply below_drew1 | refine below_set ?_ GE185.out | refine below_set ?_ GE186.out) | exact HB.out)) hb); clear HO202; clear HO207; clear HO213; clear BK185; clear BK186; clear HB; have HO202 := n0_; have HO207 := n1_; have HO213 := n2_; have HO218 := n3_; have BK185 := n4_; have BK186 := n5_; have HB := n6_; clear n0_ n1_ n2_ n3_ n4_ n5_ n6_; (try clear hb); (try clear hb2); (try clear hk); (try clear hi); (try clear ho0)))
         go_ret
         exact ⟨by first | rfl | (simp [errW_none, errW_some] <;> rfl) | (have e_ : ∀ l_ : List UInt8, (l_ != []) = !l_.isEmpty := fun l_ => (by cases l_ <;> rfl); simp [errW_none, errW_some, e_]; done) | (simp [*, errW_none, errW_some] <;> rfl), by repeat (first | (with_reducible first | exact HB.out | apply below_alloc | apply pw_below_drewN | apply below_drew1 | refine below_set ?_ GE185.out | refine below_set ?_ GE186.out) | exact HB.out)⟩
       ·replace c90 := Bool.eq_false_iff.mpr c90
        subst c90
        have H1 : (some false) = some r := by rw [if_neg (show ¬ (false = true) by decide)] at H; exact H
        clear H
        have H := H1
        clear H1
        obtain rfl := Option.some.inj H
        have hnb200 := NB185_186.out
        have hnc200 := NB186_185.out
        have hcz201_0 : w105.cell? ⟨gb185, 0, none⟩ = some (.int .i64 a1_0) := (blk_cell BK185.out 0).trans rfl
        have hcz201_1 : w105.cell? ⟨gb185, 1, none⟩ = some (.string a1_1) := (blk_cell BK185.out 1).trans rfl
        have hcz201_2 : w105.cell? ⟨gb185, 2, none⟩ = some (.string a1_2) := (blk_cell BK185.out 2).trans rfl
        have hcz201_3 : w105.cell? ⟨gb185, 3, none⟩ = some (.string a1_3) := (blk_cell BK185.out 3).trans rfl
        have hcz201_4 : w105.cell? ⟨gb185, 4, none⟩ = some (.string a1_4) := (blk_cell BK185.out 4).trans rfl
        have hcz201_5 : w105.cell? ⟨gb185, 5, none⟩ = some (.string a1_5) := (blk_cell BK185.out 5).trans rfl
        have hcz201_6 : w105.cell? ⟨gb185, 6, none⟩ = some (.string a1_6) := (blk_cell BK185.out 6).trans rfl
        have hcz201_7 : w105.cell? ⟨gb185, 7, none⟩ = some (.string a1_7) := (blk_cell BK185.out 7).trans rfl
        have hcz201_8 : w105.cell? ⟨gb185, 8, none⟩ = some (.string a1_8) := (blk_cell BK185.out 8).trans rfl
        have hfz201_0 := blk_frozen BK185.out 0
        have hfz201_1 := blk_frozen BK185.out 1
        have hfz201_2 := blk_frozen BK185.out 2
        have hfz201_3 := blk_frozen BK185.out 3
        have hfz201_4 := blk_frozen BK185.out 4
        have hfz201_5 := blk_frozen BK185.out 5
        have hfz201_6 := blk_frozen BK185.out 6
        have hfz201_7 := blk_frozen BK185.out 7
        have hfz201_8 := blk_frozen BK185.out 8
        try go_wp2_with (first | ((with_reducible refine gate_callee (f := 14) rfl ?_); refine goesL_ (some 83) rfl rfl Tryz.func14 (by kernel_rfl) rfl #[.slice A0 l0.length c0, .agg #[.int .i64 a1_0, .string a1_1, .string a1_2, .string a1_3, .string a1_4, .string a1_5, .string a1_6, .string a1_7, .string a1_8]] rfl (by (try simp only [List.map_toArray, List.map_cons, List.map_nil]); first | done | rfl | (simp only [List.length_drop, List.length_take]; rfl)) ?_; (with_reducible refine (impl_ListMarkdown.calls _ _ l0 a1_0 a1_1 a1_2 a1_3 a1_4 a1_5 a1_6 a1_7 a1_8 t209 _ ?side1 ?side2 A86.out).mono ?_); (case side1 => repeat (first | exact (Kd.C_below HR0.out HB.out) | (with_reducible refine Kd.C_alloc ?_ _) | (with_reducible refine Kd.C_drewN ?_ _) | (with_reducible refine Kd.C_drew ?_))); (case side2 => exact HC0.out); rintro e w202 ⟨rfl, hb⟩; refine ⟨_, rfl, ?_⟩; have n0_ := Aside0.mk (Kd.R_below (by (with_reducible repeat (first | apply Kd.R_alloc | apply Kd.R_drewN | apply Kd.R_drew)); exact HO202.out) hb); have n1_ := Aside0.mk (Kd.R_below (by (with_reducible repeat (first | apply Kd.R_alloc | apply Kd.R_drewN | apply Kd.R_drew)); exact HO207.out) hb); have n2_ := Aside0.mk (blk_below (g := gb185) (o := .cells #[.int .i64 a1_0, .string a1_1, .string a1_2, .string a1_3, .string a1_4, .string a1_5, .string a1_6, .string a1_7, .string a1_8] 24 (0, 0)) (by (with_reducible repeat (first | refine blk_drewN ?_ _ | refine blk_drew ?_ | refine blk_alloc ?_ _)); exact BK185.out) hb); have n3_ := Aside0.mk (blk_below (g := gb186) (o := .cells #[.int .i64 a2_0, .string a2_1, .string a2_2, .string a2_3, .string a2_4, .string a2_5, .string a2_6, .string a2_7, .string a2_8] 24 (0, 0)) (by (with_reducible repeat (first | refine blk_drewN ?_ _ | refine blk_drew ?_ | refine blk_alloc ?_ _)); exact BK186.out) hb); have n4_ := Aside0.mk (below_step (by repeat (first | (with_reducible first | exact HB.out | apply below_alloc | apply pw_below_drewN | apply below_drew1 | refine below_set ?_ GE185.out | refine below_set ?_ GE186.out) | exact HB.out)) hb); clear HO202; clear HO207; clear BK185; clear BK186; clear HB; have HO202 := n0_; have HO207 := n1_; have BK185 := n2_; have BK186 := n3_; have HB := n4_; clear n0_ n1_ n2_ n3_ n4_; (try clear hb); (try clear hb2); (try clear hk); (try clear hi)) | ((with_reducible refine gate_callee (f := 13) rfl ?_); refine goesL_ (some 84) rfl rfl Tryz.func13 (by kernel_rfl) rfl #[.string t209] rfl (by (try simp only [List.map_toArray, List.map_cons, List.map_nil]); first | done | rfl | (simp only [List.length_drop, List.length_take]; rfl)) ?_; (with_reducible refine (spec_LtMarkdownBack.calls kj24 t209 t210 t211 _ A87.out).mono ?_); rintro e w203 ⟨v212, rfl, ho0, hb⟩; refine ⟨_, rfl, ?_⟩; have n0_ := Aside0.mk (Kd.R_elder' (by (with_reducible repeat (first | apply Kd.R_alloc | apply Kd.R_drewN | apply Kd.R_drew)); exact HO202.out) (Kd.R_base ho0) hb); have n1_ := Aside0.mk (Kd.R_elder' (by (with_reducible repeat (first | apply Kd.R_alloc | apply Kd.R_drewN | apply Kd.R_drew)); exact HO207.out) (Kd.R_base ho0) hb); have n2_ := Aside0.mk (Kd.R_lower (Kd.R_new' (Kd.R_new' ho0 (Kd.R_lt (by (with_reducible repeat (first | apply Kd.R_alloc | apply Kd.R_drewN | apply Kd.R_drew)); exact HO202.out))) (Kd.R_lt (by (with_reducible repeat (first | apply Kd.R_alloc | apply Kd.R_drewN | apply Kd.R_drew)); exact HO207.out))) (below_size (by repeat (first | (with_reducible first | exact HB.out | apply below_alloc | apply pw_below_drewN | apply below_drew1 | refine below_set ?_ GE185.out | refine below_set ?_ GE186.out) | exact HB.out)))); have n3_ := Aside0.mk (blk_below (g := gb185) (o := .cells #[.int .i64 a1_0, .string a1_1, .string a1_2, .string a1_3, .string a1_4, .string a1_5, .string a1_6, .string a1_7, .string a1_8] 24 (0, 0)) (by (with_reducible repeat (first | refine blk_drewN ?_ _ | refine blk_drew ?_ | refine blk_alloc ?_ _)); exact BK185.out) hb); have n4_ := Aside0.mk (blk_below (g := gb186) (o := .cells #[.int .i64 a2_0, .string a2_1, .string a2_2, .string a2_3, .string a2_4, .string a2_5, .string a2_6, .string a2_7, .string a2_8] 24 (0, 0)) (by (with_reducible repeat (first | refine blk_drewN ?_ _ | refine blk_drew ?_ | refine blk_alloc ?_ _)); exact BK186.out) hb); have n5_ := Aside0.mk (below_step (by repeat (first | (with_reducible first | exact HB.out | apply below_alloc | apply pw_below_drewN | apply below_drew1 | refine below_set ?_ GE185.out | refine below_set ?_ GE186.out) | exact HB.out)) hb); clear HO202; clear HO207; clear BK185; clear BK186; clear HB; have HO202 := n0_; have HO207 := n1_; have HO213 := n2_; have BK185 := n3_; have BK186 := n4_; have HB := n5_; clear n0_ n1_ n2_ n3_ n4_ n5_; (try clear hb); (try clear hb2); (try clear hk); (try clear hi); (try clear ho0)) | ((with_reducible refine gate_callee (f := 16) rfl ?_); refine goesL_ (some 89) rfl rfl Tryz.func16 (by kernel_rfl) rfl #[.slice A0 l0.length c0, .string (⟨#[]⟩ : ByteArray)] rfl (by (try simp only [List.map_toArray, List.map_cons, List.map_nil]); first | done | rfl | (simp only [List.length_drop, List.length_take]; rfl)) ?_; (with_reducible refine (impl_ListHTML.calls _ _ l0 (⟨#[]⟩ : ByteArray) t214 _ ?side1 ?side2 A88.out).mono ?_); (case side1 => repeat (first | exact (Kd.C_below HR0.out HB.out) | (with_reducible refine Kd.C_alloc ?_ _) | (with_reducible refine Kd.C_drewN ?_ _) | (with_reducible refine Kd.C_drew ?_))); (case side2 => exact HC0.out); rintro e w204 ⟨rfl, hb⟩; refine ⟨_, rfl, ?_⟩; have n0_ := Aside0.mk (Kd.R_below (by (with_reducible repeat (first | apply Kd.R_alloc | apply Kd.R_drewN | apply Kd.R_drew)); exact HO202.out) hb); have n1_ := Aside0.mk (Kd.R_below (by (with_reducible repeat (first | apply Kd.R_alloc | apply Kd.R_drewN | apply Kd.R_drew)); exact HO207.out) hb); have n2_ := Aside0.mk (Kd.R_below (by (with_reducible repeat (first | apply Kd.R_alloc | apply Kd.R_drewN | apply Kd.R_drew)); exact HO213.out) hb); have n3_ := Aside0.mk (blk_below (g := gb185) (o := .cells #[.int .i64 a1_0, .string a1_1, .string a1_2, .string a1_3, .string a1_4, .string a1_5, .string a1_6, .string a1_7, .string a1_8] 24 (0, 0)) (by (with_reducible repeat (first | refine blk_drewN ?_ _ | refine blk_drew ?_ | refine blk_alloc ?_ _)); exact BK185.out) hb); have n4_ := Aside0.mk (blk_below (g := gb186) (o := .cells #[.int .i64 a2_0, .string a2_1, .string a2_2, .string a2_3, .string a2_4, .string a2_5, .string a2_6, .string a2_7, .string a2_8] 24 (0, 0)) (by (with_reducible repeat (first | refine blk_drewN ?_ _ | refine blk_drew ?_ | refine blk_alloc ?_ _)); exact BK186.out) hb); have n5_ := Aside0.mk (below_step (by repeat (first | (with_reducible first | exact HB.out | apply below_alloc | apply pw_below_drewN | apply below_drew1 | refine below_set ?_ GE185.out | refine below_set ?_ GE186.out) | exact HB.out)) hb); clear HO202; clear HO207; clear HO213; clear BK185; clear BK186; clear HB; have HO202 := n0_; have HO207 := n1_; have HO213 := n2_; have BK185 := n3_; have BK186 := n4_; have HB := n5_; clear n0_ n1_ n2_ n3_ n4_ n5_; (try clear hb); (try clear hb2); (try clear hk); (try clear hi)) | ((with_reducible refine gate_callee (f := 15) rfl ?_); refine goesL_ (some 90) rfl rfl Tryz.func15 (by kernel_rfl) rfl #[.string t214] rfl (by (try simp only [List.map_toArray, List.map_cons, List.map_nil]); first | done | rfl | (simp only [List.length_drop, List.length_take]; rfl)) ?_; (with_reducible refine (spec_LtHTMLBack.calls kj24 t214 t215 t216 _ A89.out).mono ?_); rintro e w205 ⟨v217, rfl, ho0, hb⟩; refine ⟨_, rfl, ?_⟩; have n0_ := Aside0.mk (Kd.R_elder' (by (with_reducible repeat (first | apply Kd.R_alloc | apply Kd.R_drewN | apply Kd.R_drew)); exact HO202.out) (Kd.R_base ho0) hb); have n1_ := Aside0.mk (Kd.R_elder' (by (with_reducible repeat (first | apply Kd.R_alloc | apply Kd.R_drewN | apply Kd.R_drew)); exact HO207.out) (Kd.R_base ho0) hb); have n2_ := Aside0.mk (Kd.R_elder' (by (with_reducible repeat (first | apply Kd.R_alloc | apply Kd.R_drewN | apply Kd.R_drew)); exact HO213.out) (Kd.R_base ho0) hb); have n3_ := Aside0.mk (Kd.R_lower (Kd.R_new' (Kd.R_new' (Kd.R_new' ho0 (Kd.R_lt (by (with_reducible repeat (first | apply Kd.R_alloc | apply Kd.R_drewN | apply Kd.R_drew)); exact HO202.out))) (Kd.R_lt (by (with_reducible repeat (first | apply Kd.R_alloc | apply Kd.R_drewN | apply Kd.R_drew)); exact HO207.out))) (Kd.R_lt (by (with_reducible repeat (first | apply Kd.R_alloc | apply Kd.R_drewN | apply Kd.R_drew)); exact HO213.out))) (below_size (by repeat (first | (with_reducible first | exact HB.out | apply below_alloc | apply pw_below_drewN | apply below_drew1 | refine below_set ?_ GE185.out | refine below_set ?_ GE186.out) | exact HB.out)))); have n4_ := Aside0.mk (blk_below (g := gb185) (o := .cells #[.int .i64 a1_0, .string a1_1, .string a1_2, .string a1_3, .string a1_4, .string a1_5, .string a1_6, .string a1_7, .string a1_8] 24 (0, 0)) (by (with_reducible repeat (first | refine blk_drewN ?_ _ | refine blk_drew ?_ | refine blk_alloc ?_ _)); exact BK185.out) hb); have n5_ := Aside0.mk (blk_below (g := gb186) (o := .cells #[.int .i64 a2_0, .string a2_1, .string a2_2, .string a2_3, .string a2_4, .string a2_5, .string a2_6, .string a2_7, .string a2_8] 24 (0, 0)) (by (with_reducible repeat (first | refine blk_drewN ?_ _ | refine blk_drew ?_ | refine blk_alloc ?_ _)); exact BK186.out) hb); have n6_ := Aside0.mk (below_step (by repeat (first | (with_reducible first | exact HB.out | apply below_alloc | apply pw_below_drewN | apply below_drew1 | refine below_set ?_ GE185.out | refine below_set ?_ GE186.out) | exact HB.out)) hb); clear HO202; clear HO207; clear HO213; clear BK185; clear BK186; clear HB; have HO202 := n0_; have HO207 := n1_; have HO213 := n2_; have HO218 := n3_; have BK185 := n4_; have BK186 := n5_; have HB := n6_; clear n0_ n1_ n2_ n3_ n4_ n5_ n6_; (try clear hb); (try clear hb2); (try clear hk); (try clear hi); (try clear ho0)))
        go_ret
        exact ⟨by first | rfl | (simp [errW_none, errW_some] <;> rfl) | (have e_ : ∀ l_ : List UInt8, (l_ != []) = !l_.isEmpty := fun l_ => (by cases l_ <;> rfl); simp [errW_none, errW_some, e_]; done) | (simp [*, errW_none, errW_some] <;> rfl), by repeat (first | (with_reducible first | exact HB.out | apply below_alloc | apply pw_below_drewN | apply below_drew1 | refine below_set ?_ GE185.out | refine below_set ?_ GE186.out) | exact HB.out)⟩

end Go.Proofs.YthjpchabeemfmaaGreatDoor.P
