import Derived.Test.YtbbmboklpfjliaaDoorProg
import Derived.Test.YtbbmboklpfjliaaDoorL
namespace Go.Proofs.YtbbmboklpfjliaaDoor
open Go.RowKit
set_option linter.unusedVariables false
set_option linter.unusedSimpArgs false
set_option maxHeartbeats 4000000
set_option maxRecDepth 100000


def txWide (r : Int) : Bool := decide ((0x3041 ≤ r ∧ r ≤ 0x3096) ∨ (0x30a1 ≤ r ∧ r ≤ 0x30fa) ∨ (0x4e00 ≤ r ∧ r ≤ 0x9fa5) ∨ (0xac00 ≤ r ∧ r ≤ 0xd7a3) ∨ (0xff01 ≤ r ∧ r ≤ 0xff5e))
def txBoxed (r : Int) : Bool := decide (0x2500 ≤ r ∧ r ≤ 0x259f)
def txKnown (r : Int) : Bool := decide ((32 ≤ r ∧ r ≤ 126) ∨ txBoxed r = true ∨ txWide r = true)
def txAttr (c : Int) : Bool := decide ((1 ≤ c ∧ c ≤ 9) ∨ (30 ≤ c ∧ c ≤ 37) ∨ (40 ≤ c ∧ c ≤ 47) ∨ (90 ≤ c ∧ c ≤ 97) ∨ (100 ≤ c ∧ c ≤ 107))


theorem TxWide_calls (r : Int) (w : World) : Calls Tryd.prog 12 #[.int .i32 r] w fun e w' => e = .returned (.bool (txWide r)) ∧ w = w' := by
  go_enter Tryd.func12, Tryd.ntmps12
  go_wp2
  all_goals (go_ret; refine ⟨ret_bool ?_, rfl⟩)
  all_goals (rw [Bool.eq_iff_iff]; simp [txWide]; try omega)


theorem TxBoxed_calls (r : Int) (w : World) : Calls Tryd.prog 11 #[.int .i32 r] w fun e w' => e = .returned (.bool (txBoxed r)) ∧ w = w' := by
  go_enter Tryd.func11, Tryd.ntmps11
  go_wp2
  all_goals (go_ret; refine ⟨ret_bool ?_, rfl⟩)
  all_goals (rw [Bool.eq_iff_iff]; simp [txBoxed]; try omega)


theorem TxAttribute_calls (r : Int) (w : World) : Calls Tryd.prog 5 #[.int .i64 r] w fun e w' => e = .returned (.bool (txAttr r)) ∧ w = w' := by
  go_enter Tryd.func5, Tryd.ntmps5
  go_wp2
  all_goals (go_ret; refine ⟨ret_bool ?_, rfl⟩)
  all_goals (rw [Bool.eq_iff_iff]; simp [txAttr]; try omega)


theorem TxKnown_calls (r : Int) (w : World) : Calls Tryd.prog 8 #[.int .i32 r] w fun e w' => e = .returned (.bool (txKnown r)) ∧ w = w' := by
  go_enter Tryd.func8, Tryd.ntmps8
  go_wp2_with (first | (go_at_call 11; refine (TxBoxed_calls _ _).mono ?_; rintro e w' ⟨rfl, rfl⟩) | (go_at_call 12; refine (TxWide_calls _ _).mono ?_; rintro e w' ⟨rfl, rfl⟩))
  all_goals (go_ret; refine ⟨ret_bool ?_, rfl⟩)
  all_goals (rw [Bool.eq_iff_iff]; simp [txKnown]; grind)

end Go.Proofs.YtbbmboklpfjliaaDoor
