import Derived.Shelf.Strings.Builder1
import Derived.Shelf.Strings.Builder2
import Derived.Shelf.Strings.OnBuilder
import Derived.Shelf.Small.Utf8
import Derived.Shelf.Strings.BuilderF
import Derived.Shelf.Strings.BuilderK
import Derived.Shelf.Strings.BuilderRune
import Derived.Shelf.Utf8.AppendRune
import Derived.Shelf.Utf8.AppendRunePlain
import Derived.Shelf.Utf8.RuneCount
import Derived.Shelf.Strings.Builder2Cap
import Derived.Shelf.Strings.Prefix
import Derived.Shelf.Unicode.Latin
import Derived.Shelf.Unicode.Props
import Derived.Shelf.LaysM
import Derived.Shelf.Unicode.PropsLaid
import Derived.Shelf.Unicode.Decode
import Derived.Shelf.Strings.RuneCount
import Derived.Shelf.Bits.Mul64
import Derived.Shelf.Strings.Repeat
import Derived.Shelf.Unicode.DecodeSlow
import Derived.Shelf.Unicode.DecodeAny
import Derived.Shelf.Unicode.Is16White
import Derived.Shelf.Unicode.IsSpaceAny
import Derived.Shelf.Unicode.Is16WhiteD
import Derived.Shelf.Unicode.IsSpaceAnyD
import Derived.Shelf.Unicode.CaseLookup
import Derived.Shelf.Unicode.CaseConvert
import Derived.Shelf.Unicode.CaseTo
import Derived.Shelf.Unicode.CaseLaid
import Derived.Shelf.Strings.MapAny
import Derived.Shelf.Strings.CaseAny
import Derived.Shelf.Unicode.Is16Any
import Derived.Shelf.Unicode.Is32Any
import Derived.Shelf.Unicode.ExclAny
import Derived.Shelf.Unicode.PredsAny
import Derived.Shelf.Unicode.PredsPay
import Derived.Shelf.Strings.BuilderCap
import Derived.Shelf.Strings.MapGrows
import Derived.Test.YthjpchabeemfmaaGreatDoorProg
namespace Go.Proofs
open Go.Shelf
def Tryz.lays169_ren : Go.Shelf.Ren := ⟨fun | 169 => 66 | n => n, fun | 70 => 70 | 9 => 9 | 0 => 0 | 72 => 72 | 37 => 61 | 127 => 109 | 3 => 3 | 5 => 5 | n => n, fun | n => n⟩
theorem Tryz.lays169 : Go.Proofs.Lays.n169 Tryz.prog Tryz.lays169_ren := {
  mixed := by kernel_rfl
  f169 := Tryz.func66.trans (congrArg some (by kernel_rfl))
  t0 := Tryz.underlying0
  a0 := Tryz.isAgg0
  z0 := Tryz.sizeOf0
  v0 := Tryz.zeroValue0
  t3 := Tryz.underlying3
  a3 := Tryz.isAgg3
  z3 := Tryz.sizeOf3
  v3 := Tryz.zeroValue3
  t9 := Tryz.underlying9
  a9 := Tryz.isAgg9
  z9 := Tryz.sizeOf9
  v9 := Tryz.zeroValue9
  t37 := Tryz.underlying61
  a37 := Tryz.isAgg61
  z37 := Tryz.sizeOf61
  v37 := Tryz.zeroValue61
  t70 := Tryz.underlying70
  a70 := Tryz.isAgg70
  z70 := Tryz.sizeOf70
  v70 := Tryz.zeroValue70
  t72 := Tryz.underlying72
  a72 := Tryz.isAgg72
  z72 := Tryz.sizeOf72
  v72 := Tryz.zeroValue72
  t127 := Tryz.underlying109
  a127 := Tryz.isAgg109
  z127 := Tryz.sizeOf109
  v127 := Tryz.zeroValue109 }
theorem Tryz.Builder_Extra_169 : Builder.Extra Tryz.prog Tryz.lays169_ren := {
  sizeBuilder := by kernel_rfl
  liesBuilder := by kernel_rfl
  t5 := Tryz.underlying5
  a5 := Tryz.isAgg5
  z5 := Tryz.sizeOf5
  v5 := Tryz.zeroValue5
  infoByte := by kernel_rfl
  cellsByte := by kernel_rfl
  sizeByte := by kernel_rfl
  neB5 := by decide }
def Tryz.lays165_ren : Go.Shelf.Ren := ⟨fun | 165 => 44 | 240 => 56 | 241 => 57 | 276 => 75 | 277 => 76 | n => n, fun | 70 => 70 | 3 => 3 | 0 => 0 | 4 => 4 | 9 => 9 | 20 => 20 | 72 => 72 | 37 => 61 | 164 => 103 | 5 => 5 | n => n, fun | n => n⟩
theorem Tryz.lays165 : Go.Proofs.Lays.n165 Tryz.prog Tryz.lays165_ren := {
  mixed := by kernel_rfl
  f165 := Tryz.func44.trans (congrArg some (by kernel_rfl))
  f240 := Tryz.func56.trans (congrArg some (by kernel_rfl))
  f241 := Tryz.func57.trans (congrArg some (by kernel_rfl))
  f276 := Tryz.func75.trans (congrArg some (by kernel_rfl))
  f277 := Tryz.func76.trans (congrArg some (by kernel_rfl))
  t0 := Tryz.underlying0
  a0 := Tryz.isAgg0
  z0 := Tryz.sizeOf0
  v0 := Tryz.zeroValue0
  t3 := Tryz.underlying3
  a3 := Tryz.isAgg3
  z3 := Tryz.sizeOf3
  v3 := Tryz.zeroValue3
  t4 := Tryz.underlying4
  a4 := Tryz.isAgg4
  z4 := Tryz.sizeOf4
  v4 := Tryz.zeroValue4
  t9 := Tryz.underlying9
  a9 := Tryz.isAgg9
  z9 := Tryz.sizeOf9
  v9 := Tryz.zeroValue9
  t20 := Tryz.underlying20
  a20 := Tryz.isAgg20
  z20 := Tryz.sizeOf20
  v20 := Tryz.zeroValue20
  t37 := Tryz.underlying61
  a37 := Tryz.isAgg61
  z37 := Tryz.sizeOf61
  v37 := Tryz.zeroValue61
  t70 := Tryz.underlying70
  a70 := Tryz.isAgg70
  z70 := Tryz.sizeOf70
  v70 := Tryz.zeroValue70
  t72 := Tryz.underlying72
  a72 := Tryz.isAgg72
  z72 := Tryz.sizeOf72
  v72 := Tryz.zeroValue72
  t164 := Tryz.underlying103
  a164 := Tryz.isAgg103
  z164 := Tryz.sizeOf103
  v164 := Tryz.zeroValue103 }
theorem Tryz.Builder_Extra_165 : Builder.Extra Tryz.prog Tryz.lays165_ren := {
  sizeBuilder := by kernel_rfl
  liesBuilder := by kernel_rfl
  t5 := Tryz.underlying5
  a5 := Tryz.isAgg5
  z5 := Tryz.sizeOf5
  v5 := Tryz.zeroValue5
  infoByte := by kernel_rfl
  cellsByte := by kernel_rfl
  sizeByte := by kernel_rfl
  neB5 := by decide }
open Go.RowKit in
theorem Tryz.Builder_Grow_fresh (B b n : Nat) (w : World) (hB : B ≤ b) (hbk : w.heap[b]? = some (.cells #[.pointer none, .slice none 0 0] 72 (0, 0))) (hBw : B ≤ w.heap.size) (hn : n ≤ 281474976710656) :
    Calls Tryz.prog 44 #[.pointer (some ⟨b, 0, none⟩), .int .i64 n] w fun e w' => e = .returned (.tuple #[]) ∧ (Lib.BuilderAt 72 5 B b (.pointer (some ⟨b, 0, none⟩)) [] w' ∧ Below B w w') := Any.Builder_Grow_fresh Tryz.lays165 Tryz.Builder_Extra_165 B b n w hB hbk hBw hn
open Go.RowKit in
theorem Tryz.Builder_String_any_k (B b : Nat) (l : List UInt8) (w : World) (h : Lib.IsBuilderF 72 5 B b (Lib.byteCells l) w) (hBw : B ≤ w.heap.size) :
    Calls Tryz.prog 66 #[.pointer (some ⟨b, 0, none⟩)] w fun e w' => e = .returned (.string ⟨l.toArray⟩) ∧ (Lib.IsBuilderF 72 5 B b (Lib.byteCells l) w' ∧ Below B w w' ∧ Lib.OthersKept 5 (some b) w w') := Any.Builder_String_any_k Tryz.lays169 Tryz.Builder_Extra_169 B b l w h hBw
def Tryz.lays195_ren : Go.Shelf.Ren := ⟨fun | 195 => 55 | n => n, fun | 9 => 9 | 3 => 3 | 0 => 0 | 4 => 4 | n => n, fun | n => n⟩
theorem Tryz.lays195 : Go.Proofs.Lays.n195 Tryz.prog Tryz.lays195_ren := {
  mixed := by kernel_rfl
  f195 := Tryz.func55.trans (congrArg some (by kernel_rfl))
  t0 := Tryz.underlying0
  a0 := Tryz.isAgg0
  z0 := Tryz.sizeOf0
  v0 := Tryz.zeroValue0
  t3 := Tryz.underlying3
  a3 := Tryz.isAgg3
  z3 := Tryz.sizeOf3
  v3 := Tryz.zeroValue3
  t4 := Tryz.underlying4
  a4 := Tryz.isAgg4
  z4 := Tryz.sizeOf4
  v4 := Tryz.zeroValue4
  t9 := Tryz.underlying9
  a9 := Tryz.isAgg9
  z9 := Tryz.sizeOf9
  v9 := Tryz.zeroValue9 }
open Go.RowKit in
theorem Tryz.utf8_RuneCountInString (s : ByteArray) (w : World) (hs : s.size < 9223372036854775807) :
    Calls Tryz.prog 55 #[.string s] w fun e w' => e = .returned (.int .i64 (Lib.runeCount s)) ∧ ∃ pos, w' = w.iter s pos := Any.utf8_RuneCountInString Tryz.lays195 s w hs
def Tryz.lays99_ren : Go.Shelf.Ren := ⟨fun | 99 => 73 | 206 => 90 | n => n, fun | 9 => 9 | 4 => 4 | 3 => 3 | n => n, fun | n => n⟩
theorem Tryz.lays99 : Go.Proofs.Lays.n99 Tryz.prog Tryz.lays99_ren := {
  mixed := by kernel_rfl
  f99 := Tryz.func73.trans (congrArg some (by kernel_rfl))
  f206 := Tryz.func90.trans (congrArg some (by kernel_rfl))
  t3 := Tryz.underlying3
  a3 := Tryz.isAgg3
  z3 := Tryz.sizeOf3
  v3 := Tryz.zeroValue3
  t4 := Tryz.underlying4
  a4 := Tryz.isAgg4
  z4 := Tryz.sizeOf4
  v4 := Tryz.zeroValue4
  t9 := Tryz.underlying9
  a9 := Tryz.isAgg9
  z9 := Tryz.sizeOf9
  v9 := Tryz.zeroValue9 }
open Go.RowKit Go.Lib in
theorem Tryz.strings_HasPrefix (s p : ByteArray) (w : World) :
    Calls Tryz.prog 73 #[.string s, .string p] w fun e w' => e = .returned (.bool (Lib.hasPrefix s.data.toList p.data.toList)) ∧ w' = w := Any.strings_HasPrefix Tryz.lays99 s p w
def Tryz.lays105_ren : Go.Shelf.Ren := ⟨fun | 105 => 54 | 212 => 72 | 99 => 73 | 165 => 44 | 166 => 65 | 170 => 74 | 169 => 66 | 263 => 88 | 264 => 89 | 206 => 90 | 240 => 56 | 241 => 57 | 276 => 75 | 277 => 76 | n => n, fun | 9 => 9 | 3 => 3 | 4 => 4 | 20 => 20 | 0 => 0 | 46 => 99 | 109 => 100 | 5 => 5 | 72 => 72 | 76 => 88 | 51 => 113 | 146 => 114 | 53 => 116 | 148 => 117 | 70 => 70 | 37 => 61 | 75 => 87 | 127 => 109 | 164 => 103 | 80 => 58 | n => n, fun | n => n⟩
theorem Tryz.lays105 : Go.Proofs.Lays.n105 Tryz.prog Tryz.lays105_ren := {
  mixed := by kernel_rfl
  f99 := Tryz.func73.trans (congrArg some (by kernel_rfl))
  f105 := Tryz.func54.trans (congrArg some (by kernel_rfl))
  f165 := Tryz.func44.trans (congrArg some (by kernel_rfl))
  f166 := Tryz.func65.trans (congrArg some (by kernel_rfl))
  f169 := Tryz.func66.trans (congrArg some (by kernel_rfl))
  f170 := Tryz.func74.trans (congrArg some (by kernel_rfl))
  f206 := Tryz.func90.trans (congrArg some (by kernel_rfl))
  f212 := Tryz.func72.trans (congrArg some (by kernel_rfl))
  f240 := Tryz.func56.trans (congrArg some (by kernel_rfl))
  f241 := Tryz.func57.trans (congrArg some (by kernel_rfl))
  f263 := Tryz.func88.trans (congrArg some (by kernel_rfl))
  f264 := Tryz.func89.trans (congrArg some (by kernel_rfl))
  f276 := Tryz.func75.trans (congrArg some (by kernel_rfl))
  f277 := Tryz.func76.trans (congrArg some (by kernel_rfl))
  t0 := Tryz.underlying0
  a0 := Tryz.isAgg0
  z0 := Tryz.sizeOf0
  v0 := Tryz.zeroValue0
  t3 := Tryz.underlying3
  a3 := Tryz.isAgg3
  z3 := Tryz.sizeOf3
  v3 := Tryz.zeroValue3
  t4 := Tryz.underlying4
  a4 := Tryz.isAgg4
  z4 := Tryz.sizeOf4
  v4 := Tryz.zeroValue4
  t5 := Tryz.underlying5
  a5 := Tryz.isAgg5
  z5 := Tryz.sizeOf5
  v5 := Tryz.zeroValue5
  t9 := Tryz.underlying9
  a9 := Tryz.isAgg9
  z9 := Tryz.sizeOf9
  v9 := Tryz.zeroValue9
  t20 := Tryz.underlying20
  a20 := Tryz.isAgg20
  z20 := Tryz.sizeOf20
  v20 := Tryz.zeroValue20
  t37 := Tryz.underlying61
  a37 := Tryz.isAgg61
  z37 := Tryz.sizeOf61
  v37 := Tryz.zeroValue61
  t46 := Tryz.underlying99
  a46 := Tryz.isAgg99
  z46 := Tryz.sizeOf99
  v46 := Tryz.zeroValue99
  t51 := Tryz.underlying113
  a51 := Tryz.isAgg113
  z51 := Tryz.sizeOf113
  v51 := Tryz.zeroValue113
  t53 := Tryz.underlying116
  a53 := Tryz.isAgg116
  z53 := Tryz.sizeOf116
  v53 := Tryz.zeroValue116
  t70 := Tryz.underlying70
  a70 := Tryz.isAgg70
  z70 := Tryz.sizeOf70
  v70 := Tryz.zeroValue70
  t72 := Tryz.underlying72
  a72 := Tryz.isAgg72
  z72 := Tryz.sizeOf72
  v72 := Tryz.zeroValue72
  t75 := Tryz.underlying87
  a75 := Tryz.isAgg87
  z75 := Tryz.sizeOf87
  v75 := Tryz.zeroValue87
  t76 := Tryz.underlying88
  a76 := Tryz.isAgg88
  z76 := Tryz.sizeOf88
  v76 := Tryz.zeroValue88
  t109 := Tryz.underlying100
  a109 := Tryz.isAgg100
  z109 := Tryz.sizeOf100
  v109 := Tryz.zeroValue100
  t127 := Tryz.underlying109
  a127 := Tryz.isAgg109
  z127 := Tryz.sizeOf109
  v127 := Tryz.zeroValue109
  t146 := Tryz.underlying114
  a146 := Tryz.isAgg114
  z146 := Tryz.sizeOf114
  v146 := Tryz.zeroValue114
  t148 := Tryz.underlying117
  a148 := Tryz.isAgg117
  z148 := Tryz.sizeOf117
  v148 := Tryz.zeroValue117
  t164 := Tryz.underlying103
  a164 := Tryz.isAgg103
  z164 := Tryz.sizeOf103
  v164 := Tryz.zeroValue103 }
theorem Tryz.Builder_Extra_105 : Builder.Extra Tryz.prog Tryz.lays105_ren := {
  sizeBuilder := by kernel_rfl
  liesBuilder := by kernel_rfl
  t5 := Tryz.underlying5
  a5 := Tryz.isAgg5
  z5 := Tryz.sizeOf5
  v5 := Tryz.zeroValue5
  infoByte := by kernel_rfl
  cellsByte := by kernel_rfl
  sizeByte := by kernel_rfl
  neB5 := by decide }
open Go.RowKit Go.Lib in
theorem Tryz.strings_Repeat (s : ByteArray) (c : Nat) (w : World) (hc : c ≤ 9223372036854775807) (hlen : s.size * c ≤ 140737488355328) :
    Calls Tryz.prog 54 #[.string s, .int .i64 c] w fun e w' => e = .returned (.string ⟨(Lib.repeatL s.data.toList c).toArray⟩) ∧ Below w.heap.size w w' := Any.strings_Repeat Tryz.lays105 Tryz.Builder_Extra_105 s c w hc hlen
end Go.Proofs

