/- Printed by a program of this session (pf.sh): Go functions as Lean functions, with their contracts. -/
import Derived.Test.YthjpchabeemfmaaGreatDoorPx0
import Derived.Test.YthjpchabeemfmaaGreatDoorFf
import Derived.Test.YthjpchabeemfmaaGreatDoorFz
namespace Go.Proofs.YthjpchabeemfmaaGreatDoor.P
open Go.RowKit Go.Proofs.YthjpchabeemfmaaGreatDoorW.PrintWords Go.Proofs.YthjpchabeemfmaaGreatDoorW.PrintLast Go.Proofs.YthjpchabeemfmaaGreatDoorW.PrintMore
attribute [local go_sem] max2_int min2_int max_two min_two max_three min_three max_four min_four   -- for this text's walks alone
set_option linter.unusedVariables false
set_option linter.unusedSimpArgs false

theorem eqA42 (d : Nat) (w : World) (x0 y0 : ByteArray) (x1 y1 : Int) :
    (Op.equalIn (d + 2) 42 (.agg #[.string x0, .int .i64 x1]) (.agg #[.string y0, .int .i64 y1])).run Tryz.prog w = .ok (x0.toList == y0.toList && (x1 == y1)) w := by
  refine eqA_of Tryz.underlying42 (by kernel_rfl) ?_
  refine eqf_cons (by rfl) (by go_simp; rfl) (by go_simp; rfl) (by go_simp) ?_
  exact eqf_last (by rfl) (by go_simp; rfl) (by go_simp; rfl) (by go_simp)
end Go.Proofs.YthjpchabeemfmaaGreatDoor.P
