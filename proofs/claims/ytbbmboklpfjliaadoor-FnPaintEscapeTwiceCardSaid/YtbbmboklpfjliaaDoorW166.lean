import Derived.Test.YtbbmboklpfjliaaDoorShelf
import Derived.Shelf.Strings.BuilderK
/- The laying of WriteString. -/
namespace Go.Proofs.YtbbmboklpfjliaaDoor
open Go.RowKit
set_option maxHeartbeats 4000000
def ren166 : Go.Shelf.Ren := ⟨fun | 166 => 15 | 240 => 21 | 276 => 27 | n => n, fun | 70 => 30 | 3 => 3 | 0 => 0 | 4 => 4 | 9 => 9 | 20 => 20 | 72 => 33 | 37 => 31 | 164 => 45 | 5 => 5 | 75 => 37 | 80 => 41 | n => n, fun | n => n⟩
theorem lays166 : Go.Proofs.Lays.n166 Tryd.prog ren166 := {
  mixed := by kernel_rfl
  f166 := Tryd.func15.trans (congrArg some (by kernel_rfl))
  f240 := Tryd.func21.trans (congrArg some (by kernel_rfl))
  f276 := Tryd.func27.trans (congrArg some (by kernel_rfl))
  t0 := Tryd.underlying0
  a0 := Tryd.isAgg0
  z0 := Tryd.sizeOf0
  v0 := Tryd.zeroValue0
  t3 := Tryd.underlying3
  a3 := Tryd.isAgg3
  z3 := Tryd.sizeOf3
  v3 := Tryd.zeroValue3
  t4 := Tryd.underlying4
  a4 := Tryd.isAgg4
  z4 := Tryd.sizeOf4
  v4 := Tryd.zeroValue4
  t9 := Tryd.underlying9
  a9 := Tryd.isAgg9
  z9 := Tryd.sizeOf9
  v9 := Tryd.zeroValue9
  t20 := Tryd.underlying20
  a20 := Tryd.isAgg20
  z20 := Tryd.sizeOf20
  v20 := Tryd.zeroValue20
  t37 := Tryd.underlying31
  a37 := Tryd.isAgg31
  z37 := Tryd.sizeOf31
  v37 := Tryd.zeroValue31
  t70 := Tryd.underlying30
  a70 := Tryd.isAgg30
  z70 := Tryd.sizeOf30
  v70 := Tryd.zeroValue30
  t72 := Tryd.underlying33
  a72 := Tryd.isAgg33
  z72 := Tryd.sizeOf33
  v72 := Tryd.zeroValue33
  t75 := Tryd.underlying37
  a75 := Tryd.isAgg37
  z75 := Tryd.sizeOf37
  v75 := Tryd.zeroValue37
  t164 := Tryd.underlying45
  a164 := Tryd.isAgg45
  z164 := Tryd.sizeOf45
  v164 := Tryd.zeroValue45 }
theorem extra166 : Builder.Extra Tryd.prog ren166 := {
  sizeBuilder := by kernel_rfl
  liesBuilder := by kernel_rfl
  t5 := Tryd.underlying5
  a5 := Tryd.isAgg5
  z5 := Tryd.sizeOf5
  v5 := Tryd.zeroValue5
  infoByte := by kernel_rfl
  cellsByte := by kernel_rfl
  sizeByte := by kernel_rfl
  neB5 := by decide }
end Go.Proofs.YtbbmboklpfjliaaDoor
