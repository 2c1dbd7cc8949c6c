import Derived.Shelf.Strings.Builder1
import Derived.Shelf.Strings.Builder2
import Derived.Shelf.Strings.OnBuilder
import Derived.Shelf.Small.Utf8
import Derived.Shelf.Strings.BuilderF
import Derived.Shelf.Strings.BuilderK
import Derived.Shelf.Strings.BuilderRune
import Derived.Shelf.Utf8.AppendRune
import Derived.Shelf.Utf8.AppendRunePlain
import Derived.Shelf.Utf8.RuneCount
import Derived.Shelf.Strings.Builder2Cap
import Derived.Shelf.Strings.Prefix
import Derived.Shelf.Unicode.Latin
import Derived.Shelf.Unicode.Props
import Derived.Shelf.LaysM
import Derived.Shelf.Unicode.PropsLaid
import Derived.Shelf.Unicode.Decode
import Derived.Shelf.Strings.RuneCount
import Derived.Shelf.Bits.Mul64
import Derived.Shelf.Strings.Repeat
import Derived.Shelf.Unicode.DecodeSlow
import Derived.Shelf.Unicode.DecodeAny
import Derived.Shelf.Unicode.Is16White
import Derived.Shelf.Unicode.IsSpaceAny
import Derived.Shelf.Unicode.Is16WhiteD
import Derived.Shelf.Unicode.IsSpaceAnyD
import Derived.Shelf.Unicode.CaseLookup
import Derived.Shelf.Unicode.CaseConvert
import Derived.Shelf.Unicode.CaseTo
import Derived.Shelf.Unicode.CaseLaid
import Derived.Shelf.Strings.MapAny
import Derived.Shelf.Strings.CaseAny
import Derived.Shelf.Unicode.Is16Any
import Derived.Shelf.Unicode.Is32Any
import Derived.Shelf.Unicode.ExclAny
import Derived.Shelf.Unicode.PredsAny
import Derived.Shelf.Unicode.PredsPay
import Derived.Shelf.Strings.BuilderCap
import Derived.Shelf.Strings.MapGrows
import Derived.Test.YthjpchabeemfmaaDoorProg
namespace Go.Proofs
open Go.Shelf
def Tryd.lays170_ren : Go.Shelf.Ren := ⟨fun | 170 => 75 | n => n, fun | 70 => 55 | 3 => 3 | 0 => 0 | 72 => 58 | 37 => 56 | 5 => 5 | n => n, fun | n => n⟩
theorem Tryd.lays170 : Go.Proofs.Lays.n170 Tryd.prog Tryd.lays170_ren := {
  mixed := by kernel_rfl
  f170 := Tryd.func75.trans (congrArg some (by kernel_rfl))
  t0 := Tryd.underlying0
  a0 := Tryd.isAgg0
  z0 := Tryd.sizeOf0
  v0 := Tryd.zeroValue0
  t3 := Tryd.underlying3
  a3 := Tryd.isAgg3
  z3 := Tryd.sizeOf3
  v3 := Tryd.zeroValue3
  t37 := Tryd.underlying56
  a37 := Tryd.isAgg56
  z37 := Tryd.sizeOf56
  v37 := Tryd.zeroValue56
  t70 := Tryd.underlying55
  a70 := Tryd.isAgg55
  z70 := Tryd.sizeOf55
  v70 := Tryd.zeroValue55
  t72 := Tryd.underlying58
  a72 := Tryd.isAgg58
  z72 := Tryd.sizeOf58
  v72 := Tryd.zeroValue58 }
open Go.RowKit in
theorem Tryd.Builder_Len (B b : Nat) (bs : List Value) (w : World) (h : Lib.IsBuilder 58 5 B b bs w) :
    Calls Tryd.prog 75 #[.pointer (some ⟨b, 0, none⟩)] w fun e w' => e = .returned (.int .i64 bs.length) ∧ w' = w := Any.Builder_Len Tryd.lays170 B b bs w h
def Tryd.lays169_ren : Go.Shelf.Ren := ⟨fun | 169 => 44 | n => n, fun | 70 => 55 | 9 => 9 | 0 => 0 | 72 => 58 | 37 => 56 | 127 => 86 | 3 => 3 | 5 => 5 | n => n, fun | n => n⟩
theorem Tryd.lays169 : Go.Proofs.Lays.n169 Tryd.prog Tryd.lays169_ren := {
  mixed := by kernel_rfl
  f169 := Tryd.func44.trans (congrArg some (by kernel_rfl))
  t0 := Tryd.underlying0
  a0 := Tryd.isAgg0
  z0 := Tryd.sizeOf0
  v0 := Tryd.zeroValue0
  t3 := Tryd.underlying3
  a3 := Tryd.isAgg3
  z3 := Tryd.sizeOf3
  v3 := Tryd.zeroValue3
  t9 := Tryd.underlying9
  a9 := Tryd.isAgg9
  z9 := Tryd.sizeOf9
  v9 := Tryd.zeroValue9
  t37 := Tryd.underlying56
  a37 := Tryd.isAgg56
  z37 := Tryd.sizeOf56
  v37 := Tryd.zeroValue56
  t70 := Tryd.underlying55
  a70 := Tryd.isAgg55
  z70 := Tryd.sizeOf55
  v70 := Tryd.zeroValue55
  t72 := Tryd.underlying58
  a72 := Tryd.isAgg58
  z72 := Tryd.sizeOf58
  v72 := Tryd.zeroValue58
  t127 := Tryd.underlying86
  a127 := Tryd.isAgg86
  z127 := Tryd.sizeOf86
  v127 := Tryd.zeroValue86 }
theorem Tryd.Builder_Extra_169 : Builder.Extra Tryd.prog Tryd.lays169_ren := {
  sizeBuilder := by kernel_rfl
  liesBuilder := by kernel_rfl
  t5 := Tryd.underlying5
  a5 := Tryd.isAgg5
  z5 := Tryd.sizeOf5
  v5 := Tryd.zeroValue5
  infoByte := by kernel_rfl
  cellsByte := by kernel_rfl
  sizeByte := by kernel_rfl
  neB5 := by decide }
open Go.RowKit in
theorem Tryd.Builder_String (B b : Nat) (l : List UInt8) (w : World) (h : Lib.IsBuilder 58 5 B b (Lib.byteCells l) w) (h0 : l ≠ []) :
    Calls Tryd.prog 44 #[.pointer (some ⟨b, 0, none⟩)] w fun e w' => e = .returned (.string ⟨l.toArray⟩) ∧ Below B w w' := Any.Builder_String Tryd.lays169 Tryd.Builder_Extra_169 B b l w h h0
open Go.RowKit in
theorem Tryd.Builder_String_empty (B b : Nat) (w : World) (h : Lib.IsBuilder 58 5 B b [] w) (hBw : B ≤ w.heap.size) :
    Calls Tryd.prog 44 #[.pointer (some ⟨b, 0, none⟩)] w fun e w' => e = .returned (.string ⟨#[]⟩) ∧ Below B w w' := Any.Builder_String_empty Tryd.lays169 Tryd.Builder_Extra_169 B b w h hBw
open Go.RowKit in
theorem Tryd.Builder_String_any (B b : Nat) (l : List UInt8) (w : World) (h : Lib.IsBuilder 58 5 B b (Lib.byteCells l) w) (hBw : B ≤ w.heap.size) :
    Calls Tryd.prog 44 #[.pointer (some ⟨b, 0, none⟩)] w fun e w' => e = .returned (.string ⟨l.toArray⟩) ∧ Below B w w' := Any.Builder_String_any Tryd.lays169 Tryd.Builder_Extra_169 B b l w h hBw
def Tryd.lays241_ren : Go.Shelf.Ren := ⟨fun | 241 => 56 | 277 => 77 | n => n, fun | 70 => 55 | 3 => 3 | 0 => 0 | 72 => 58 | 37 => 56 | 5 => 5 | n => n, fun | n => n⟩
theorem Tryd.lays241 : Go.Proofs.Lays.n241 Tryd.prog Tryd.lays241_ren := {
  mixed := by kernel_rfl
  f241 := Tryd.func56.trans (congrArg some (by kernel_rfl))
  f277 := Tryd.func77.trans (congrArg some (by kernel_rfl))
  t0 := Tryd.underlying0
  a0 := Tryd.isAgg0
  z0 := Tryd.sizeOf0
  v0 := Tryd.zeroValue0
  t3 := Tryd.underlying3
  a3 := Tryd.isAgg3
  z3 := Tryd.sizeOf3
  v3 := Tryd.zeroValue3
  t37 := Tryd.underlying56
  a37 := Tryd.isAgg56
  z37 := Tryd.sizeOf56
  v37 := Tryd.zeroValue56
  t70 := Tryd.underlying55
  a70 := Tryd.isAgg55
  z70 := Tryd.sizeOf55
  v70 := Tryd.zeroValue55
  t72 := Tryd.underlying58
  a72 := Tryd.isAgg58
  z72 := Tryd.sizeOf58
  v72 := Tryd.zeroValue58 }
theorem Tryd.Builder_Extra_241 : Builder.Extra Tryd.prog Tryd.lays241_ren := {
  sizeBuilder := by kernel_rfl
  liesBuilder := by kernel_rfl
  t5 := Tryd.underlying5
  a5 := Tryd.isAgg5
  z5 := Tryd.sizeOf5
  v5 := Tryd.zeroValue5
  infoByte := by kernel_rfl
  cellsByte := by kernel_rfl
  sizeByte := by kernel_rfl
  neB5 := by decide }
open Go.RowKit in
theorem Tryd.Builder_grow_fresh (B b n : Nat) (w : World) (hB : B ≤ b) (hbk : w.heap[b]? = some (.cells #[.pointer (some ⟨b, 0, none⟩), .slice none 0 0] 58 (0, 0))) (hBw : B ≤ w.heap.size) (hn : n ≤ 281474976710656) :
    Calls Tryd.prog 56 #[.pointer (some ⟨b, 0, none⟩), .int .i64 n] w fun e w' => e = .returned (.tuple #[]) ∧ (Lib.BuilderAt 58 5 B b (.pointer (some ⟨b, 0, none⟩)) [] w' ∧ Below B w w') := Any.Builder_grow_fresh Tryd.lays241 Tryd.Builder_Extra_241 B b n w hB hbk hBw hn
def Tryd.lays165_ren : Go.Shelf.Ren := ⟨fun | 165 => 35 | 240 => 55 | 241 => 56 | 276 => 76 | 277 => 77 | n => n, fun | 70 => 55 | 3 => 3 | 0 => 0 | 4 => 4 | 9 => 9 | 20 => 20 | 72 => 58 | 37 => 56 | 164 => 96 | 5 => 5 | n => n, fun | n => n⟩
theorem Tryd.lays165 : Go.Proofs.Lays.n165 Tryd.prog Tryd.lays165_ren := {
  mixed := by kernel_rfl
  f165 := Tryd.func35.trans (congrArg some (by kernel_rfl))
  f240 := Tryd.func55.trans (congrArg some (by kernel_rfl))
  f241 := Tryd.func56.trans (congrArg some (by kernel_rfl))
  f276 := Tryd.func76.trans (congrArg some (by kernel_rfl))
  f277 := Tryd.func77.trans (congrArg some (by kernel_rfl))
  t0 := Tryd.underlying0
  a0 := Tryd.isAgg0
  z0 := Tryd.sizeOf0
  v0 := Tryd.zeroValue0
  t3 := Tryd.underlying3
  a3 := Tryd.isAgg3
  z3 := Tryd.sizeOf3
  v3 := Tryd.zeroValue3
  t4 := Tryd.underlying4
  a4 := Tryd.isAgg4
  z4 := Tryd.sizeOf4
  v4 := Tryd.zeroValue4
  t9 := Tryd.underlying9
  a9 := Tryd.isAgg9
  z9 := Tryd.sizeOf9
  v9 := Tryd.zeroValue9
  t20 := Tryd.underlying20
  a20 := Tryd.isAgg20
  z20 := Tryd.sizeOf20
  v20 := Tryd.zeroValue20
  t37 := Tryd.underlying56
  a37 := Tryd.isAgg56
  z37 := Tryd.sizeOf56
  v37 := Tryd.zeroValue56
  t70 := Tryd.underlying55
  a70 := Tryd.isAgg55
  z70 := Tryd.sizeOf55
  v70 := Tryd.zeroValue55
  t72 := Tryd.underlying58
  a72 := Tryd.isAgg58
  z72 := Tryd.sizeOf58
  v72 := Tryd.zeroValue58
  t164 := Tryd.underlying96
  a164 := Tryd.isAgg96
  z164 := Tryd.sizeOf96
  v164 := Tryd.zeroValue96 }
theorem Tryd.Builder_Extra_165 : Builder.Extra Tryd.prog Tryd.lays165_ren := {
  sizeBuilder := by kernel_rfl
  liesBuilder := by kernel_rfl
  t5 := Tryd.underlying5
  a5 := Tryd.isAgg5
  z5 := Tryd.sizeOf5
  v5 := Tryd.zeroValue5
  infoByte := by kernel_rfl
  cellsByte := by kernel_rfl
  sizeByte := by kernel_rfl
  neB5 := by decide }
open Go.RowKit in
theorem Tryd.Builder_Grow_fresh (B b n : Nat) (w : World) (hB : B ≤ b) (hbk : w.heap[b]? = some (.cells #[.pointer none, .slice none 0 0] 58 (0, 0))) (hBw : B ≤ w.heap.size) (hn : n ≤ 281474976710656) :
    Calls Tryd.prog 35 #[.pointer (some ⟨b, 0, none⟩), .int .i64 n] w fun e w' => e = .returned (.tuple #[]) ∧ (Lib.BuilderAt 58 5 B b (.pointer (some ⟨b, 0, none⟩)) [] w' ∧ Below B w w') := Any.Builder_Grow_fresh Tryd.lays165 Tryd.Builder_Extra_165 B b n w hB hbk hBw hn
def Tryd.lays159_ren : Go.Shelf.Ren := ⟨fun | 159 => 25 | 165 => 35 | 166 => 42 | 167 => 43 | 169 => 44 | 230 => 45 | 204 => 46 | 240 => 55 | 241 => 56 | 197 => 63 | 118 => 64 | 168 => 57 | 270 => 65 | 262 => 66 | 276 => 76 | 277 => 77 | 260 => 81 | 242 => 78 | 313 => 82 | 278 => 92 | 274 => 93 | 275 => 94 | n => n, fun | 9 => 9 | 4 => 4 | 3 => 3 | 5 => 5 | 72 => 58 | 0 => 0 | 76 => 71 | 75 => 70 | 107 => 75 | 70 => 55 | 20 => 20 | 37 => 56 | 127 => 86 | 21 => 21 | 105 => 87 | 164 => 96 | 162 => 104 | 203 => 102 | 119 => 106 | 46 => 93 | 139 => 119 | 138 => 118 | 51 => 105 | 160 => 120 | 208 => 138 | 206 => 136 | 80 => 46 | n => n, fun | 13 => 0 | 3 => 6 | 4 => 7 | n => n⟩
theorem Tryd.lays159 : Go.Proofs.Lays.n159 Tryd.prog Tryd.lays159_ren := {
  mixed := by kernel_rfl
  f118 := Tryd.func64.trans (congrArg some (by kernel_rfl))
  f159 := Tryd.func25.trans (congrArg some (by kernel_rfl))
  f165 := Tryd.func35.trans (congrArg some (by kernel_rfl))
  f166 := Tryd.func42.trans (congrArg some (by kernel_rfl))
  f167 := Tryd.func43.trans (congrArg some (by kernel_rfl))
  f168 := Tryd.func57.trans (congrArg some (by kernel_rfl))
  f169 := Tryd.func44.trans (congrArg some (by kernel_rfl))
  f197 := Tryd.func63.trans (congrArg some (by kernel_rfl))
  f204 := Tryd.func46.trans (congrArg some (by kernel_rfl))
  f230 := Tryd.func45.trans (congrArg some (by kernel_rfl))
  f240 := Tryd.func55.trans (congrArg some (by kernel_rfl))
  f241 := Tryd.func56.trans (congrArg some (by kernel_rfl))
  f242 := Tryd.func78.trans (congrArg some (by kernel_rfl))
  f260 := Tryd.func81.trans (congrArg some (by kernel_rfl))
  f262 := Tryd.func66.trans (congrArg some (by kernel_rfl))
  f270 := Tryd.func65.trans (congrArg some (by kernel_rfl))
  f274 := Tryd.func93.trans (congrArg some (by kernel_rfl))
  f275 := Tryd.func94.trans (congrArg some (by kernel_rfl))
  f276 := Tryd.func76.trans (congrArg some (by kernel_rfl))
  f277 := Tryd.func77.trans (congrArg some (by kernel_rfl))
  f278 := Tryd.func92.trans (congrArg some (by kernel_rfl))
  f313 := Tryd.func82.trans (congrArg some (by kernel_rfl))
  t0 := Tryd.underlying0
  a0 := Tryd.isAgg0
  z0 := Tryd.sizeOf0
  v0 := Tryd.zeroValue0
  t3 := Tryd.underlying3
  a3 := Tryd.isAgg3
  z3 := Tryd.sizeOf3
  v3 := Tryd.zeroValue3
  t4 := Tryd.underlying4
  a4 := Tryd.isAgg4
  z4 := Tryd.sizeOf4
  v4 := Tryd.zeroValue4
  t5 := Tryd.underlying5
  a5 := Tryd.isAgg5
  z5 := Tryd.sizeOf5
  v5 := Tryd.zeroValue5
  t9 := Tryd.underlying9
  a9 := Tryd.isAgg9
  z9 := Tryd.sizeOf9
  v9 := Tryd.zeroValue9
  t20 := Tryd.underlying20
  a20 := Tryd.isAgg20
  z20 := Tryd.sizeOf20
  v20 := Tryd.zeroValue20
  t21 := Tryd.underlying21
  a21 := Tryd.isAgg21
  z21 := Tryd.sizeOf21
  v21 := Tryd.zeroValue21
  t37 := Tryd.underlying56
  a37 := Tryd.isAgg56
  z37 := Tryd.sizeOf56
  v37 := Tryd.zeroValue56
  t46 := Tryd.underlying93
  a46 := Tryd.isAgg93
  z46 := Tryd.sizeOf93
  v46 := Tryd.zeroValue93
  t51 := Tryd.underlying105
  a51 := Tryd.isAgg105
  z51 := Tryd.sizeOf105
  v51 := Tryd.zeroValue105
  t70 := Tryd.underlying55
  a70 := Tryd.isAgg55
  z70 := Tryd.sizeOf55
  v70 := Tryd.zeroValue55
  t72 := Tryd.underlying58
  a72 := Tryd.isAgg58
  z72 := Tryd.sizeOf58
  v72 := Tryd.zeroValue58
  t75 := Tryd.underlying70
  a75 := Tryd.isAgg70
  z75 := Tryd.sizeOf70
  v75 := Tryd.zeroValue70
  t76 := Tryd.underlying71
  a76 := Tryd.isAgg71
  z76 := Tryd.sizeOf71
  v76 := Tryd.zeroValue71
  t105 := Tryd.underlying87
  a105 := Tryd.isAgg87
  z105 := Tryd.sizeOf87
  v105 := Tryd.zeroValue87
  t107 := Tryd.underlying75
  a107 := Tryd.isAgg75
  z107 := Tryd.sizeOf75
  v107 := Tryd.zeroValue75
  t119 := Tryd.underlying106
  a119 := Tryd.isAgg106
  z119 := Tryd.sizeOf106
  t127 := Tryd.underlying86
  a127 := Tryd.isAgg86
  z127 := Tryd.sizeOf86
  v127 := Tryd.zeroValue86
  t138 := Tryd.underlying118
  a138 := Tryd.isAgg118
  z138 := Tryd.sizeOf118
  v138 := Tryd.zeroValue118
  t139 := Tryd.underlying119
  a139 := Tryd.isAgg119
  z139 := Tryd.sizeOf119
  v139 := Tryd.zeroValue119
  t160 := Tryd.underlying120
  a160 := Tryd.isAgg120
  z160 := Tryd.sizeOf120
  v160 := Tryd.zeroValue120
  t162 := Tryd.underlying104
  a162 := Tryd.isAgg104
  z162 := Tryd.sizeOf104
  v162 := Tryd.zeroValue104
  t164 := Tryd.underlying96
  a164 := Tryd.isAgg96
  z164 := Tryd.sizeOf96
  v164 := Tryd.zeroValue96
  t203 := Tryd.underlying102
  a203 := Tryd.isAgg102
  z203 := Tryd.sizeOf102
  v203 := Tryd.zeroValue102
  t206 := Tryd.underlying136
  a206 := Tryd.isAgg136
  z206 := Tryd.sizeOf136
  v206 := Tryd.zeroValue136
  t208 := Tryd.underlying138
  a208 := Tryd.isAgg138
  z208 := Tryd.sizeOf138
  v208 := Tryd.zeroValue138
  g3 := by kernel_rfl
  g4 := by kernel_rfl
  g13 := by kernel_rfl }
theorem Tryd.Builder_Extra_159 : Builder.Extra Tryd.prog Tryd.lays159_ren := {
  sizeBuilder := by kernel_rfl
  liesBuilder := by kernel_rfl
  t5 := Tryd.underlying5
  a5 := Tryd.isAgg5
  z5 := Tryd.sizeOf5
  v5 := Tryd.zeroValue5
  infoByte := by kernel_rfl
  cellsByte := by kernel_rfl
  sizeByte := by kernel_rfl
  neB5 := by decide }
open Go.RowKit in
theorem Tryd.strings_ToLower_ascii (s : ByteArray) (w : World) (hs : s.size ≤ 140737488355328) (hascii : ∀ (j : Nat) (b : UInt8), s.data.toList[j]? = some b → b.toNat < 128) :
    Calls Tryd.prog 25 #[.string s] w fun e w' => e = .returned (.string ⟨(Lib.toLowerA s.data.toList).toArray⟩) ∧ Below w.heap.size w w' := Any.strings_ToLower_ascii Tryd.lays159 Tryd.Builder_Extra_159 s w hs hascii
def Tryd.lays156_ren : Go.Shelf.Ren := ⟨fun | 156 => 88 | 165 => 35 | 166 => 42 | 169 => 44 | 240 => 55 | 241 => 56 | 276 => 76 | 277 => 77 | n => n, fun | 31 => 33 | 9 => 9 | 3 => 3 | 4 => 4 | 0 => 0 | 20 => 20 | 72 => 58 | 76 => 71 | 70 => 55 | 37 => 56 | 75 => 70 | 127 => 86 | 164 => 96 | 5 => 5 | 80 => 46 | n => n, fun | n => n⟩
theorem Tryd.lays156 : Go.Proofs.Lays.n156 Tryd.prog Tryd.lays156_ren := {
  mixed := by kernel_rfl
  f156 := Tryd.func88.trans (congrArg some (by kernel_rfl))
  f165 := Tryd.func35.trans (congrArg some (by kernel_rfl))
  f166 := Tryd.func42.trans (congrArg some (by kernel_rfl))
  f169 := Tryd.func44.trans (congrArg some (by kernel_rfl))
  f240 := Tryd.func55.trans (congrArg some (by kernel_rfl))
  f241 := Tryd.func56.trans (congrArg some (by kernel_rfl))
  f276 := Tryd.func76.trans (congrArg some (by kernel_rfl))
  f277 := Tryd.func77.trans (congrArg some (by kernel_rfl))
  t0 := Tryd.underlying0
  a0 := Tryd.isAgg0
  z0 := Tryd.sizeOf0
  v0 := Tryd.zeroValue0
  t3 := Tryd.underlying3
  a3 := Tryd.isAgg3
  z3 := Tryd.sizeOf3
  v3 := Tryd.zeroValue3
  t4 := Tryd.underlying4
  a4 := Tryd.isAgg4
  z4 := Tryd.sizeOf4
  v4 := Tryd.zeroValue4
  t9 := Tryd.underlying9
  a9 := Tryd.isAgg9
  z9 := Tryd.sizeOf9
  v9 := Tryd.zeroValue9
  t20 := Tryd.underlying20
  a20 := Tryd.isAgg20
  z20 := Tryd.sizeOf20
  v20 := Tryd.zeroValue20
  t31 := Tryd.underlying33
  a31 := Tryd.isAgg33
  z31 := Tryd.sizeOf33
  v31 := Tryd.zeroValue33
  t37 := Tryd.underlying56
  a37 := Tryd.isAgg56
  z37 := Tryd.sizeOf56
  v37 := Tryd.zeroValue56
  t70 := Tryd.underlying55
  a70 := Tryd.isAgg55
  z70 := Tryd.sizeOf55
  v70 := Tryd.zeroValue55
  t72 := Tryd.underlying58
  a72 := Tryd.isAgg58
  z72 := Tryd.sizeOf58
  v72 := Tryd.zeroValue58
  t75 := Tryd.underlying70
  a75 := Tryd.isAgg70
  z75 := Tryd.sizeOf70
  v75 := Tryd.zeroValue70
  t76 := Tryd.underlying71
  a76 := Tryd.isAgg71
  z76 := Tryd.sizeOf71
  v76 := Tryd.zeroValue71
  t127 := Tryd.underlying86
  a127 := Tryd.isAgg86
  z127 := Tryd.sizeOf86
  v127 := Tryd.zeroValue86
  t164 := Tryd.underlying96
  a164 := Tryd.isAgg96
  z164 := Tryd.sizeOf96
  v164 := Tryd.zeroValue96 }
theorem Tryd.Builder_Extra_156 : Builder.Extra Tryd.prog Tryd.lays156_ren := {
  sizeBuilder := by kernel_rfl
  liesBuilder := by kernel_rfl
  t5 := Tryd.underlying5
  a5 := Tryd.isAgg5
  z5 := Tryd.sizeOf5
  v5 := Tryd.zeroValue5
  infoByte := by kernel_rfl
  cellsByte := by kernel_rfl
  sizeByte := by kernel_rfl
  neB5 := by decide }
open Go.RowKit in
theorem Tryd.strings_Join_none (a : Option Addr) (c : Nat) (sep : ByteArray) (w : World) :
    Calls Tryd.prog 88 #[.slice a 0 c, .string sep] w fun e w' => e = .returned (.string ⟨#[]⟩) ∧ w' = w := Any.strings_Join_none Tryd.lays156 Tryd.Builder_Extra_156 a c sep w
open Go.RowKit in
theorem Tryd.strings_Join (bk o c : Nat) (xs : List ByteArray) (sep : ByteArray) (w : World) (hcells : ∀ (j : Nat) x, xs[j]? = some x → w.cell? ⟨bk, o + j, none⟩ = some (.string x)) (hbk : bk < w.heap.size) (hN : xs.length ≤ 140737488355328) (hcap : xs.length ≤ c) (hlen : (Lib.join (xs.map (·.data.toList)) sep.data.toList).length ≤ 140737488355328) :
    Calls Tryd.prog 88 #[.slice (some ⟨bk, o, none⟩) xs.length c, .string sep] w fun e w' => e = .returned (.string ⟨(Lib.join (xs.map (·.data.toList)) sep.data.toList).toArray⟩) ∧ Below w.heap.size w w' := Any.strings_Join Tryd.lays156 Tryd.Builder_Extra_156 bk o c xs sep w hcells hbk hN hcap hlen
def Tryd.lays118_ren : Go.Shelf.Ren := ⟨fun | 118 => 64 | n => n, fun | 21 => 21 | 3 => 3 | 4 => 4 | n => n, fun | n => n⟩
theorem Tryd.lays118 : Go.Proofs.Lays.n118 Tryd.prog Tryd.lays118_ren := {
  mixed := by kernel_rfl
  f118 := Tryd.func64.trans (congrArg some (by kernel_rfl))
  t3 := Tryd.underlying3
  a3 := Tryd.isAgg3
  z3 := Tryd.sizeOf3
  v3 := Tryd.zeroValue3
  t4 := Tryd.underlying4
  a4 := Tryd.isAgg4
  z4 := Tryd.sizeOf4
  v4 := Tryd.zeroValue4
  t21 := Tryd.underlying21
  a21 := Tryd.isAgg21
  z21 := Tryd.sizeOf21
  v21 := Tryd.zeroValue21 }
theorem Tryd.utf8_RuneLen (r : Int) (w : World) :
    Calls Tryd.prog 64 #[.int .i32 r] w fun e w' => e = .returned (.int .i64 (Lib.runeLen r)) ∧ w' = w := Any.utf8_RuneLen Tryd.lays118 r w
open Go.RowKit in
theorem Tryd.Builder_Len_f (B b : Nat) (bs : List Value) (w : World) (h : Lib.IsBuilderF 58 5 B b bs w) :
    Calls Tryd.prog 75 #[.pointer (some ⟨b, 0, none⟩)] w fun e w' => e = .returned (.int .i64 bs.length) ∧ w' = w := Any.Builder_Len_f Tryd.lays170 B b bs w h
open Go.RowKit in
theorem Tryd.Builder_String_f (B b : Nat) (l : List UInt8) (w : World) (h : Lib.IsBuilderF 58 5 B b (Lib.byteCells l) w) (h0 : l ≠ []) :
    Calls Tryd.prog 44 #[.pointer (some ⟨b, 0, none⟩)] w fun e w' => e = .returned (.string ⟨l.toArray⟩) ∧ (Lib.IsBuilderF 58 5 B b (Lib.byteCells l) w' ∧ Below B w w') := Any.Builder_String_f Tryd.lays169 Tryd.Builder_Extra_169 B b l w h h0
open Go.RowKit in
theorem Tryd.Builder_String_empty_f (B b : Nat) (w : World) (h : Lib.IsBuilderF 58 5 B b [] w) (hBw : B ≤ w.heap.size) :
    Calls Tryd.prog 44 #[.pointer (some ⟨b, 0, none⟩)] w fun e w' => e = .returned (.string ⟨#[]⟩) ∧ (Lib.IsBuilderF 58 5 B b [] w' ∧ Below B w w') := Any.Builder_String_empty_f Tryd.lays169 Tryd.Builder_Extra_169 B b w h hBw
open Go.RowKit in
theorem Tryd.Builder_String_any_f (B b : Nat) (l : List UInt8) (w : World) (h : Lib.IsBuilderF 58 5 B b (Lib.byteCells l) w) (hBw : B ≤ w.heap.size) :
    Calls Tryd.prog 44 #[.pointer (some ⟨b, 0, none⟩)] w fun e w' => e = .returned (.string ⟨l.toArray⟩) ∧ (Lib.IsBuilderF 58 5 B b (Lib.byteCells l) w' ∧ Below B w w') := Any.Builder_String_any_f Tryd.lays169 Tryd.Builder_Extra_169 B b l w h hBw
open Go.RowKit in
theorem Tryd.Builder_String_k (B b : Nat) (l : List UInt8) (w : World) (h : Lib.IsBuilderF 58 5 B b (Lib.byteCells l) w) (h0 : l ≠ []) :
    Calls Tryd.prog 44 #[.pointer (some ⟨b, 0, none⟩)] w fun e w' => e = .returned (.string ⟨l.toArray⟩) ∧ (Lib.IsBuilderF 58 5 B b (Lib.byteCells l) w' ∧ Below B w w' ∧ Lib.OthersKept 5 (some b) w w') := Any.Builder_String_k Tryd.lays169 Tryd.Builder_Extra_169 B b l w h h0
open Go.RowKit in
theorem Tryd.Builder_String_empty_k (B b : Nat) (w : World) (h : Lib.IsBuilderF 58 5 B b [] w) (hBw : B ≤ w.heap.size) :
    Calls Tryd.prog 44 #[.pointer (some ⟨b, 0, none⟩)] w fun e w' => e = .returned (.string ⟨#[]⟩) ∧ (Lib.IsBuilderF 58 5 B b [] w' ∧ Below B w w' ∧ Lib.OthersKept 5 (some b) w w') := Any.Builder_String_empty_k Tryd.lays169 Tryd.Builder_Extra_169 B b w h hBw
open Go.RowKit in
theorem Tryd.Builder_String_any_k (B b : Nat) (l : List UInt8) (w : World) (h : Lib.IsBuilderF 58 5 B b (Lib.byteCells l) w) (hBw : B ≤ w.heap.size) :
    Calls Tryd.prog 44 #[.pointer (some ⟨b, 0, none⟩)] w fun e w' => e = .returned (.string ⟨l.toArray⟩) ∧ (Lib.IsBuilderF 58 5 B b (Lib.byteCells l) w' ∧ Below B w w' ∧ Lib.OthersKept 5 (some b) w w') := Any.Builder_String_any_k Tryd.lays169 Tryd.Builder_Extra_169 B b l w h hBw
def Tryd.lays278_ren : Go.Shelf.Ren := ⟨fun | 278 => 92 | n => n, fun | 37 => 56 | 21 => 21 | 51 => 105 | 4 => 4 | 46 => 93 | 5 => 5 | n => n, fun | n => n⟩
theorem Tryd.lays278 : Go.Proofs.Lays.n278 Tryd.prog Tryd.lays278_ren := {
  mixed := by kernel_rfl
  f278 := Tryd.func92.trans (congrArg some (by kernel_rfl))
  t4 := Tryd.underlying4
  a4 := Tryd.isAgg4
  z4 := Tryd.sizeOf4
  v4 := Tryd.zeroValue4
  t5 := Tryd.underlying5
  a5 := Tryd.isAgg5
  z5 := Tryd.sizeOf5
  v5 := Tryd.zeroValue5
  t21 := Tryd.underlying21
  a21 := Tryd.isAgg21
  z21 := Tryd.sizeOf21
  v21 := Tryd.zeroValue21
  t37 := Tryd.underlying56
  a37 := Tryd.isAgg56
  z37 := Tryd.sizeOf56
  v37 := Tryd.zeroValue56
  t46 := Tryd.underlying93
  a46 := Tryd.isAgg93
  z46 := Tryd.sizeOf93
  v46 := Tryd.zeroValue93
  t51 := Tryd.underlying105
  a51 := Tryd.isAgg105
  z51 := Tryd.sizeOf105
  v51 := Tryd.zeroValue105 }
open Go.RowKit in
theorem Tryd.utf8_appendRuneNonASCII_row (B : Nat) (v : Value) (n : Nat) (xs : List Value) (r : Int) (hr0 : -2147483648 ≤ r) (hr1 : r ≤ 2147483647) (hna : r < 0 ∨ 128 ≤ r) (w : World) (hown : w.ownsRowF B 5 1 v n xs) (hlen : n + 4 ≤ 140737488355328) (hBw : B ≤ w.heap.size) :
    Calls Tryd.prog 92 #[v, .int .i32 r] w fun e w' => ∃ v', e = .returned v' ∧ w'.ownsRowF B 5 1 v' (n + (Lib.runeCells r).length) (xs ++ Lib.runeCells r) ∧ ∃ o, (w.alloc o).grownBy w' v.ownBlock := Any.utf8_appendRuneNonASCII_row Tryd.lays278 (by kernel_rfl) B v n xs r hr0 hr1 hna w hown hlen hBw
def Tryd.lays242_ren : Go.Shelf.Ren := ⟨fun | 242 => 78 | 278 => 92 | n => n, fun | 37 => 56 | 21 => 21 | 51 => 105 | 4 => 4 | 5 => 5 | 46 => 93 | n => n, fun | n => n⟩
theorem Tryd.lays242 : Go.Proofs.Lays.n242 Tryd.prog Tryd.lays242_ren := {
  mixed := by kernel_rfl
  f242 := Tryd.func78.trans (congrArg some (by kernel_rfl))
  f278 := Tryd.func92.trans (congrArg some (by kernel_rfl))
  t4 := Tryd.underlying4
  a4 := Tryd.isAgg4
  z4 := Tryd.sizeOf4
  v4 := Tryd.zeroValue4
  t5 := Tryd.underlying5
  a5 := Tryd.isAgg5
  z5 := Tryd.sizeOf5
  v5 := Tryd.zeroValue5
  t21 := Tryd.underlying21
  a21 := Tryd.isAgg21
  z21 := Tryd.sizeOf21
  v21 := Tryd.zeroValue21
  t37 := Tryd.underlying56
  a37 := Tryd.isAgg56
  z37 := Tryd.sizeOf56
  v37 := Tryd.zeroValue56
  t46 := Tryd.underlying93
  a46 := Tryd.isAgg93
  z46 := Tryd.sizeOf93
  v46 := Tryd.zeroValue93
  t51 := Tryd.underlying105
  a51 := Tryd.isAgg105
  z51 := Tryd.sizeOf105
  v51 := Tryd.zeroValue105 }
open Go.RowKit in
theorem Tryd.utf8_AppendRune_row (B : Nat) (v : Value) (n : Nat) (xs : List Value) (r : Int) (hr0 : -2147483648 ≤ r) (hr1 : r ≤ 2147483647) (w : World) (hown : w.ownsRowF B 5 1 v n xs) (hlen : n + 4 ≤ 140737488355328) (hBw : B ≤ w.heap.size) :
    Calls Tryd.prog 78 #[v, .int .i32 r] w fun e w' => ∃ v', e = .returned v' ∧ w'.ownsRowF B 5 1 v' (n + (Lib.runeCells r).length) (xs ++ Lib.runeCells r) ∧ ∃ o, (w.alloc o).grownBy w' v.ownBlock := Any.utf8_AppendRune_row Tryd.lays242 (by kernel_rfl) B v n xs r hr0 hr1 w hown hlen hBw
open Go.RowKit in
theorem Tryd.utf8_appendRuneNonASCII_plain (B : Nat) (v : Value) (n : Nat) (xs : List Value) (r : Int) (hr0 : -2147483648 ≤ r) (hr1 : r ≤ 2147483647) (hna : r < 0 ∨ 128 ≤ r) (w : World) (hown : w.ownsRow B 5 1 v n xs) (hlen : n + 4 ≤ 140737488355328) (hBw : B ≤ w.heap.size) :
    Calls Tryd.prog 92 #[v, .int .i32 r] w fun e w' => ∃ v', e = .returned v' ∧ w'.ownsRow B 5 1 v' (n + (Lib.runeCells r).length) (xs ++ Lib.runeCells r) ∧ ∃ o, (w.alloc o).grownBy w' v.ownBlock := Any.utf8_appendRuneNonASCII_plain Tryd.lays278 (by kernel_rfl) B v n xs r hr0 hr1 hna w hown hlen hBw
open Go.RowKit in
theorem Tryd.utf8_AppendRune_plain (B : Nat) (v : Value) (n : Nat) (xs : List Value) (r : Int) (hr0 : -2147483648 ≤ r) (hr1 : r ≤ 2147483647) (w : World) (hown : w.ownsRow B 5 1 v n xs) (hlen : n + 4 ≤ 140737488355328) (hBw : B ≤ w.heap.size) :
    Calls Tryd.prog 78 #[v, .int .i32 r] w fun e w' => ∃ v', e = .returned v' ∧ w'.ownsRow B 5 1 v' (n + (Lib.runeCells r).length) (xs ++ Lib.runeCells r) ∧ ∃ o, (w.alloc o).grownBy w' v.ownBlock := Any.utf8_AppendRune_plain Tryd.lays242 (by kernel_rfl) B v n xs r hr0 hr1 w hown hlen hBw
def Tryd.lays195_ren : Go.Shelf.Ren := ⟨fun | 195 => 54 | n => n, fun | 9 => 9 | 3 => 3 | 0 => 0 | 4 => 4 | n => n, fun | n => n⟩
theorem Tryd.lays195 : Go.Proofs.Lays.n195 Tryd.prog Tryd.lays195_ren := {
  mixed := by kernel_rfl
  f195 := Tryd.func54.trans (congrArg some (by kernel_rfl))
  t0 := Tryd.underlying0
  a0 := Tryd.isAgg0
  z0 := Tryd.sizeOf0
  v0 := Tryd.zeroValue0
  t3 := Tryd.underlying3
  a3 := Tryd.isAgg3
  z3 := Tryd.sizeOf3
  v3 := Tryd.zeroValue3
  t4 := Tryd.underlying4
  a4 := Tryd.isAgg4
  z4 := Tryd.sizeOf4
  v4 := Tryd.zeroValue4
  t9 := Tryd.underlying9
  a9 := Tryd.isAgg9
  z9 := Tryd.sizeOf9
  v9 := Tryd.zeroValue9 }
open Go.RowKit in
theorem Tryd.utf8_RuneCountInString (s : ByteArray) (w : World) (hs : s.size < 9223372036854775807) :
    Calls Tryd.prog 54 #[.string s] w fun e w' => e = .returned (.int .i64 (Lib.runeCount s)) ∧ ∃ pos, w' = w.iter s pos := Any.utf8_RuneCountInString Tryd.lays195 s w hs
open Go.RowKit in
theorem Tryd.Builder_grow_fresh_cap (B b n : Nat) (w : World) (hB : B ≤ b) (hbk : w.heap[b]? = some (.cells #[.pointer (some ⟨b, 0, none⟩), .slice none 0 0] 58 (0, 0))) (hBw : B ≤ w.heap.size) (hn : n ≤ 281474976710656) :
    Calls Tryd.prog 56 #[.pointer (some ⟨b, 0, none⟩), .int .i64 n] w fun e w' => e = .returned (.tuple #[]) ∧ (Lib.BuilderAt 58 5 B b (.pointer (some ⟨b, 0, none⟩)) [] w' ∧ Below B w w') ∧ ∃ p cap, w'.cell? ⟨b, 1, none⟩ = some (.slice p 0 cap) ∧ n ≤ cap := Any.Builder_grow_fresh_cap Tryd.lays241 Tryd.Builder_Extra_241 B b n w hB hbk hBw hn
open Go.RowKit in
theorem Tryd.Builder_Grow_fresh_cap (B b n : Nat) (w : World) (hB : B ≤ b) (hbk : w.heap[b]? = some (.cells #[.pointer none, .slice none 0 0] 58 (0, 0))) (hBw : B ≤ w.heap.size) (hn : n ≤ 281474976710656) :
    Calls Tryd.prog 35 #[.pointer (some ⟨b, 0, none⟩), .int .i64 n] w fun e w' => e = .returned (.tuple #[]) ∧ (Lib.BuilderAt 58 5 B b (.pointer (some ⟨b, 0, none⟩)) [] w' ∧ Below B w w') ∧ ∃ p cap, w'.cell? ⟨b, 1, none⟩ = some (.slice p 0 cap) ∧ n ≤ cap := Any.Builder_Grow_fresh_cap Tryd.lays165 Tryd.Builder_Extra_165 B b n w hB hbk hBw hn
def Tryd.lays206_ren : Go.Shelf.Ren := ⟨fun | 206 => 91 | n => n, fun | 9 => 9 | 4 => 4 | 3 => 3 | n => n, fun | n => n⟩
theorem Tryd.lays206 : Go.Proofs.Lays.n206 Tryd.prog Tryd.lays206_ren := {
  mixed := by kernel_rfl
  f206 := Tryd.func91.trans (congrArg some (by kernel_rfl))
  t3 := Tryd.underlying3
  a3 := Tryd.isAgg3
  z3 := Tryd.sizeOf3
  v3 := Tryd.zeroValue3
  t4 := Tryd.underlying4
  a4 := Tryd.isAgg4
  z4 := Tryd.sizeOf4
  v4 := Tryd.zeroValue4
  t9 := Tryd.underlying9
  a9 := Tryd.isAgg9
  z9 := Tryd.sizeOf9
  v9 := Tryd.zeroValue9 }
open Go.RowKit Go.Lib in
theorem Tryd.stringslite_HasPrefix (s p : ByteArray) (w : World) :
    Calls Tryd.prog 91 #[.string s, .string p] w fun e w' => e = .returned (.bool (Lib.hasPrefix s.data.toList p.data.toList)) ∧ w' = w := Any.stringslite_HasPrefix Tryd.lays206 s p w
def Tryd.lays99_ren : Go.Shelf.Ren := ⟨fun | 99 => 74 | 206 => 91 | n => n, fun | 9 => 9 | 4 => 4 | 3 => 3 | n => n, fun | n => n⟩
theorem Tryd.lays99 : Go.Proofs.Lays.n99 Tryd.prog Tryd.lays99_ren := {
  mixed := by kernel_rfl
  f99 := Tryd.func74.trans (congrArg some (by kernel_rfl))
  f206 := Tryd.func91.trans (congrArg some (by kernel_rfl))
  t3 := Tryd.underlying3
  a3 := Tryd.isAgg3
  z3 := Tryd.sizeOf3
  v3 := Tryd.zeroValue3
  t4 := Tryd.underlying4
  a4 := Tryd.isAgg4
  z4 := Tryd.sizeOf4
  v4 := Tryd.zeroValue4
  t9 := Tryd.underlying9
  a9 := Tryd.isAgg9
  z9 := Tryd.sizeOf9
  v9 := Tryd.zeroValue9 }
open Go.RowKit Go.Lib in
theorem Tryd.strings_HasPrefix (s p : ByteArray) (w : World) :
    Calls Tryd.prog 74 #[.string s, .string p] w fun e w' => e = .returned (.bool (Lib.hasPrefix s.data.toList p.data.toList)) ∧ w' = w := Any.strings_HasPrefix Tryd.lays99 s p w
def Tryd.lays198_ren : Go.Shelf.Ren := ⟨fun | 198 => 68 | 261 => 83 | 311 => 95 | 312 => 96 | n => n, fun | 21 => 21 | 4 => 4 | 141 => 108 | 0 => 0 | 196 => 126 | 193 => 123 | 3 => 3 | 51 => 105 | 198 => 129 | 49 => 127 | 194 => 124 | 201 => 132 | 226 => 139 | 46 => 93 | 227 => 140 | n => n, fun | 5 => 3 | n => n⟩
theorem Tryd.lays198 : Go.Proofs.Lays.n198 Tryd.prog Tryd.lays198_ren := {
  mixed := by kernel_rfl
  f198 := Tryd.func68.trans (congrArg some (by kernel_rfl))
  f261 := Tryd.func83.trans (congrArg some (by kernel_rfl))
  f311 := Tryd.func95.trans (congrArg some (by kernel_rfl))
  f312 := Tryd.func96.trans (congrArg some (by kernel_rfl))
  t0 := Tryd.underlying0
  a0 := Tryd.isAgg0
  z0 := Tryd.sizeOf0
  v0 := Tryd.zeroValue0
  t3 := Tryd.underlying3
  a3 := Tryd.isAgg3
  z3 := Tryd.sizeOf3
  v3 := Tryd.zeroValue3
  t4 := Tryd.underlying4
  a4 := Tryd.isAgg4
  z4 := Tryd.sizeOf4
  v4 := Tryd.zeroValue4
  t21 := Tryd.underlying21
  a21 := Tryd.isAgg21
  z21 := Tryd.sizeOf21
  v21 := Tryd.zeroValue21
  t46 := Tryd.underlying93
  a46 := Tryd.isAgg93
  z46 := Tryd.sizeOf93
  v46 := Tryd.zeroValue93
  t49 := Tryd.underlying127
  a49 := Tryd.isAgg127
  z49 := Tryd.sizeOf127
  v49 := Tryd.zeroValue127
  t51 := Tryd.underlying105
  a51 := Tryd.isAgg105
  z51 := Tryd.sizeOf105
  v51 := Tryd.zeroValue105
  t141 := Tryd.underlying108
  a141 := Tryd.isAgg108
  z141 := Tryd.sizeOf108
  v141 := Tryd.zeroValue108
  t193 := Tryd.underlying123
  a193 := Tryd.isAgg123
  z193 := Tryd.sizeOf123
  v193 := Tryd.zeroValue123
  t194 := Tryd.underlying124
  a194 := Tryd.isAgg124
  z194 := Tryd.sizeOf124
  v194 := Tryd.zeroValue124
  t196 := Tryd.underlying126
  a196 := Tryd.isAgg126
  z196 := Tryd.sizeOf126
  v196 := Tryd.zeroValue126
  t198 := Tryd.underlying129
  a198 := Tryd.isAgg129
  z198 := Tryd.sizeOf129
  v198 := Tryd.zeroValue129
  t201 := Tryd.underlying132
  a201 := Tryd.isAgg132
  z201 := Tryd.sizeOf132
  v201 := Tryd.zeroValue132
  t226 := Tryd.underlying139
  a226 := Tryd.isAgg139
  z226 := Tryd.sizeOf139
  v226 := Tryd.zeroValue139
  t227 := Tryd.underlying140
  a227 := Tryd.isAgg140
  z227 := Tryd.sizeOf140
  v227 := Tryd.zeroValue140
  g5 := by kernel_rfl }
open Go.RowKit Go.Lib in
theorem Tryd.unicode_IsDigit (r : Int) (w : World) (h : r ≤ 255) :
    Calls Tryd.prog 68 #[.int .i32 r] w fun e w' => e = .returned (.bool (Lib.isDigitL r)) ∧ w' = w := Any.unicode_IsDigit Tryd.lays198 r w h
def Tryd.lays199_ren : Go.Shelf.Ren := ⟨fun | 199 => 69 | 261 => 83 | 311 => 95 | 312 => 96 | n => n, fun | 21 => 21 | 4 => 4 | 51 => 105 | 141 => 108 | 0 => 0 | 196 => 126 | 193 => 123 | 3 => 3 | 198 => 129 | 49 => 127 | 194 => 124 | 201 => 132 | 226 => 139 | 46 => 93 | 227 => 140 | n => n, fun | 6 => 4 | n => n⟩
theorem Tryd.lays199 : Go.Proofs.Lays.n199 Tryd.prog Tryd.lays199_ren := {
  mixed := by kernel_rfl
  f199 := Tryd.func69.trans (congrArg some (by kernel_rfl))
  f261 := Tryd.func83.trans (congrArg some (by kernel_rfl))
  f311 := Tryd.func95.trans (congrArg some (by kernel_rfl))
  f312 := Tryd.func96.trans (congrArg some (by kernel_rfl))
  t0 := Tryd.underlying0
  a0 := Tryd.isAgg0
  z0 := Tryd.sizeOf0
  v0 := Tryd.zeroValue0
  t3 := Tryd.underlying3
  a3 := Tryd.isAgg3
  z3 := Tryd.sizeOf3
  v3 := Tryd.zeroValue3
  t4 := Tryd.underlying4
  a4 := Tryd.isAgg4
  z4 := Tryd.sizeOf4
  v4 := Tryd.zeroValue4
  t21 := Tryd.underlying21
  a21 := Tryd.isAgg21
  z21 := Tryd.sizeOf21
  v21 := Tryd.zeroValue21
  t46 := Tryd.underlying93
  a46 := Tryd.isAgg93
  z46 := Tryd.sizeOf93
  v46 := Tryd.zeroValue93
  t49 := Tryd.underlying127
  a49 := Tryd.isAgg127
  z49 := Tryd.sizeOf127
  v49 := Tryd.zeroValue127
  t51 := Tryd.underlying105
  a51 := Tryd.isAgg105
  z51 := Tryd.sizeOf105
  v51 := Tryd.zeroValue105
  t141 := Tryd.underlying108
  a141 := Tryd.isAgg108
  z141 := Tryd.sizeOf108
  v141 := Tryd.zeroValue108
  t193 := Tryd.underlying123
  a193 := Tryd.isAgg123
  z193 := Tryd.sizeOf123
  v193 := Tryd.zeroValue123
  t194 := Tryd.underlying124
  a194 := Tryd.isAgg124
  z194 := Tryd.sizeOf124
  v194 := Tryd.zeroValue124
  t196 := Tryd.underlying126
  a196 := Tryd.isAgg126
  z196 := Tryd.sizeOf126
  v196 := Tryd.zeroValue126
  t198 := Tryd.underlying129
  a198 := Tryd.isAgg129
  z198 := Tryd.sizeOf129
  v198 := Tryd.zeroValue129
  t201 := Tryd.underlying132
  a201 := Tryd.isAgg132
  z201 := Tryd.sizeOf132
  v201 := Tryd.zeroValue132
  t226 := Tryd.underlying139
  a226 := Tryd.isAgg139
  z226 := Tryd.sizeOf139
  v226 := Tryd.zeroValue139
  t227 := Tryd.underlying140
  a227 := Tryd.isAgg140
  z227 := Tryd.sizeOf140
  v227 := Tryd.zeroValue140
  g6 := by kernel_rfl }
open Go.RowKit Go.Lib in
theorem Tryd.unicode_IsSpace (r : Int) (w : World) (h0 : 0 ≤ r) (h : r ≤ 255) :
    Calls Tryd.prog 69 #[.int .i32 r] w fun e w' => e = .returned (.bool (Lib.isSpaceL r)) ∧ w' = w := Any.unicode_IsSpace Tryd.lays199 r w h0 h
def Tryd.lays203_ren : Go.Shelf.Ren := ⟨fun | 203 => 49 | 262 => 66 | 313 => 82 | 274 => 93 | 275 => 94 | n => n, fun | 21 => 21 | 4 => 4 | 3 => 3 | 162 => 104 | 203 => 102 | 160 => 120 | 46 => 93 | 0 => 0 | 208 => 138 | 51 => 105 | 206 => 136 | n => n, fun | 13 => 0 | n => n⟩
theorem Tryd.lays203 : Go.Proofs.Lays.n203 Tryd.prog Tryd.lays203_ren := {
  mixed := by kernel_rfl
  f203 := Tryd.func49.trans (congrArg some (by kernel_rfl))
  f262 := Tryd.func66.trans (congrArg some (by kernel_rfl))
  f274 := Tryd.func93.trans (congrArg some (by kernel_rfl))
  f275 := Tryd.func94.trans (congrArg some (by kernel_rfl))
  f313 := Tryd.func82.trans (congrArg some (by kernel_rfl))
  t0 := Tryd.underlying0
  a0 := Tryd.isAgg0
  z0 := Tryd.sizeOf0
  v0 := Tryd.zeroValue0
  t3 := Tryd.underlying3
  a3 := Tryd.isAgg3
  z3 := Tryd.sizeOf3
  v3 := Tryd.zeroValue3
  t4 := Tryd.underlying4
  a4 := Tryd.isAgg4
  z4 := Tryd.sizeOf4
  v4 := Tryd.zeroValue4
  t21 := Tryd.underlying21
  a21 := Tryd.isAgg21
  z21 := Tryd.sizeOf21
  v21 := Tryd.zeroValue21
  t46 := Tryd.underlying93
  a46 := Tryd.isAgg93
  z46 := Tryd.sizeOf93
  v46 := Tryd.zeroValue93
  t51 := Tryd.underlying105
  a51 := Tryd.isAgg105
  z51 := Tryd.sizeOf105
  v51 := Tryd.zeroValue105
  t160 := Tryd.underlying120
  a160 := Tryd.isAgg120
  z160 := Tryd.sizeOf120
  v160 := Tryd.zeroValue120
  t162 := Tryd.underlying104
  a162 := Tryd.isAgg104
  z162 := Tryd.sizeOf104
  v162 := Tryd.zeroValue104
  t203 := Tryd.underlying102
  a203 := Tryd.isAgg102
  z203 := Tryd.sizeOf102
  v203 := Tryd.zeroValue102
  t206 := Tryd.underlying136
  a206 := Tryd.isAgg136
  z206 := Tryd.sizeOf136
  v206 := Tryd.zeroValue136
  t208 := Tryd.underlying138
  a208 := Tryd.isAgg138
  z208 := Tryd.sizeOf138
  v208 := Tryd.zeroValue138
  g13 := by kernel_rfl }
open Go.RowKit Go.Lib in
theorem Tryd.unicode_ToUpper (r : Int) (w : World) (h : r ≤ 127) :
    Calls Tryd.prog 49 #[.int .i32 r] w fun e w' => e = .returned (.int .i32 (Lib.toUpperR r)) ∧ w' = w := Any.unicode_ToUpper Tryd.lays203 r w h
def Tryd.lays204_ren : Go.Shelf.Ren := ⟨fun | 204 => 46 | 262 => 66 | 313 => 82 | 274 => 93 | 275 => 94 | n => n, fun | 21 => 21 | 4 => 4 | 3 => 3 | 162 => 104 | 203 => 102 | 160 => 120 | 46 => 93 | 0 => 0 | 208 => 138 | 51 => 105 | 206 => 136 | n => n, fun | 13 => 0 | n => n⟩
theorem Tryd.lays204 : Go.Proofs.Lays.n204 Tryd.prog Tryd.lays204_ren := {
  mixed := by kernel_rfl
  f204 := Tryd.func46.trans (congrArg some (by kernel_rfl))
  f262 := Tryd.func66.trans (congrArg some (by kernel_rfl))
  f274 := Tryd.func93.trans (congrArg some (by kernel_rfl))
  f275 := Tryd.func94.trans (congrArg some (by kernel_rfl))
  f313 := Tryd.func82.trans (congrArg some (by kernel_rfl))
  t0 := Tryd.underlying0
  a0 := Tryd.isAgg0
  z0 := Tryd.sizeOf0
  v0 := Tryd.zeroValue0
  t3 := Tryd.underlying3
  a3 := Tryd.isAgg3
  z3 := Tryd.sizeOf3
  v3 := Tryd.zeroValue3
  t4 := Tryd.underlying4
  a4 := Tryd.isAgg4
  z4 := Tryd.sizeOf4
  v4 := Tryd.zeroValue4
  t21 := Tryd.underlying21
  a21 := Tryd.isAgg21
  z21 := Tryd.sizeOf21
  v21 := Tryd.zeroValue21
  t46 := Tryd.underlying93
  a46 := Tryd.isAgg93
  z46 := Tryd.sizeOf93
  v46 := Tryd.zeroValue93
  t51 := Tryd.underlying105
  a51 := Tryd.isAgg105
  z51 := Tryd.sizeOf105
  v51 := Tryd.zeroValue105
  t160 := Tryd.underlying120
  a160 := Tryd.isAgg120
  z160 := Tryd.sizeOf120
  v160 := Tryd.zeroValue120
  t162 := Tryd.underlying104
  a162 := Tryd.isAgg104
  z162 := Tryd.sizeOf104
  v162 := Tryd.zeroValue104
  t203 := Tryd.underlying102
  a203 := Tryd.isAgg102
  z203 := Tryd.sizeOf102
  v203 := Tryd.zeroValue102
  t206 := Tryd.underlying136
  a206 := Tryd.isAgg136
  z206 := Tryd.sizeOf136
  v206 := Tryd.zeroValue136
  t208 := Tryd.underlying138
  a208 := Tryd.isAgg138
  z208 := Tryd.sizeOf138
  v208 := Tryd.zeroValue138
  g13 := by kernel_rfl }
open Go.RowKit Go.Lib in
theorem Tryd.unicode_ToLower (r : Int) (w : World) (h : r ≤ 127) :
    Calls Tryd.prog 46 #[.int .i32 r] w fun e w' => e = .returned (.int .i32 (Lib.toLowerR r)) ∧ w' = w := Any.unicode_ToLower Tryd.lays204 r w h
def Tryd.lays200_ren : Go.Shelf.Ren := ⟨fun | 200 => 67 | 261 => 83 | 311 => 95 | 312 => 96 | n => n, fun | 21 => 21 | 4 => 4 | 51 => 105 | 5 => 5 | 119 => 106 | 0 => 0 | 141 => 108 | 196 => 126 | 193 => 123 | 3 => 3 | 198 => 129 | 49 => 127 | 194 => 124 | 201 => 132 | 226 => 139 | 46 => 93 | 227 => 140 | n => n, fun | 7 => 1 | 8 => 2 | n => n⟩
theorem Tryd.lays200 : Go.Proofs.Lays.n200 Tryd.prog Tryd.lays200_ren := {
  mixed := by kernel_rfl
  f200 := Tryd.func67.trans (congrArg some (by kernel_rfl))
  f261 := Tryd.func83.trans (congrArg some (by kernel_rfl))
  f311 := Tryd.func95.trans (congrArg some (by kernel_rfl))
  f312 := Tryd.func96.trans (congrArg some (by kernel_rfl))
  t0 := Tryd.underlying0
  a0 := Tryd.isAgg0
  z0 := Tryd.sizeOf0
  v0 := Tryd.zeroValue0
  t3 := Tryd.underlying3
  a3 := Tryd.isAgg3
  z3 := Tryd.sizeOf3
  v3 := Tryd.zeroValue3
  t4 := Tryd.underlying4
  a4 := Tryd.isAgg4
  z4 := Tryd.sizeOf4
  v4 := Tryd.zeroValue4
  t5 := Tryd.underlying5
  a5 := Tryd.isAgg5
  z5 := Tryd.sizeOf5
  v5 := Tryd.zeroValue5
  t21 := Tryd.underlying21
  a21 := Tryd.isAgg21
  z21 := Tryd.sizeOf21
  v21 := Tryd.zeroValue21
  t46 := Tryd.underlying93
  a46 := Tryd.isAgg93
  z46 := Tryd.sizeOf93
  v46 := Tryd.zeroValue93
  t49 := Tryd.underlying127
  a49 := Tryd.isAgg127
  z49 := Tryd.sizeOf127
  v49 := Tryd.zeroValue127
  t51 := Tryd.underlying105
  a51 := Tryd.isAgg105
  z51 := Tryd.sizeOf105
  v51 := Tryd.zeroValue105
  t119 := Tryd.underlying106
  a119 := Tryd.isAgg106
  z119 := Tryd.sizeOf106
  t141 := Tryd.underlying108
  a141 := Tryd.isAgg108
  z141 := Tryd.sizeOf108
  v141 := Tryd.zeroValue108
  t193 := Tryd.underlying123
  a193 := Tryd.isAgg123
  z193 := Tryd.sizeOf123
  v193 := Tryd.zeroValue123
  t194 := Tryd.underlying124
  a194 := Tryd.isAgg124
  z194 := Tryd.sizeOf124
  v194 := Tryd.zeroValue124
  t196 := Tryd.underlying126
  a196 := Tryd.isAgg126
  z196 := Tryd.sizeOf126
  v196 := Tryd.zeroValue126
  t198 := Tryd.underlying129
  a198 := Tryd.isAgg129
  z198 := Tryd.sizeOf129
  v198 := Tryd.zeroValue129
  t201 := Tryd.underlying132
  a201 := Tryd.isAgg132
  z201 := Tryd.sizeOf132
  v201 := Tryd.zeroValue132
  t226 := Tryd.underlying139
  a226 := Tryd.isAgg139
  z226 := Tryd.sizeOf139
  v226 := Tryd.zeroValue139
  t227 := Tryd.underlying140
  a227 := Tryd.isAgg140
  z227 := Tryd.sizeOf140
  v227 := Tryd.zeroValue140
  g7 := by kernel_rfl
  g8 := by kernel_rfl }
open Go.RowKit Go.Lib in
theorem Tryd.unicode_IsLetter (c : Nat) (w : World) (hc : c < 256) (htab : Lib.TabIs Tryd.prog w "unicode.properties" .u8 Lib.propertiesTab) :
    Calls Tryd.prog 67 #[.int .i32 c] w fun e w' => e = .returned (.bool (Lib.isLetterL c)) ∧ w' = w := Any.unicode_IsLetter Tryd.lays200 (by kernel_rfl) c w hc htab
def Tryd.laysM200_ren : Go.Shelf.Ren := ⟨fun | 200 => 67 | 261 => 83 | 311 => 95 | 312 => 96 | n => n, fun | 21 => 21 | 4 => 4 | 51 => 105 | 5 => 5 | 119 => 106 | 0 => 0 | 141 => 108 | 196 => 126 | 193 => 123 | 3 => 3 | 198 => 129 | 49 => 127 | 194 => 124 | 201 => 132 | 226 => 139 | 46 => 93 | 227 => 140 | n => n, fun | 7 => 1 | 8 => 2 | n => n⟩
theorem Tryd.laysM200 : Go.Proofs.LaysM.n200 Tryd.prog Tryd.laysM200_ren := {
  mixed := by kernel_rfl
  f200 := Tryd.func67.trans (congrArg some (by kernel_rfl))
  f261 := Tryd.func83.trans (congrArg some (by kernel_rfl))
  f311 := Tryd.func95.trans (congrArg some (by kernel_rfl))
  f312 := Tryd.func96.trans (congrArg some (by kernel_rfl))
  t0 := Tryd.underlying0
  a0 := Tryd.isAgg0
  z0 := Tryd.sizeOf0
  v0 := Tryd.zeroValue0
  t3 := Tryd.underlying3
  a3 := Tryd.isAgg3
  z3 := Tryd.sizeOf3
  v3 := Tryd.zeroValue3
  t4 := Tryd.underlying4
  a4 := Tryd.isAgg4
  z4 := Tryd.sizeOf4
  v4 := Tryd.zeroValue4
  t5 := Tryd.underlying5
  a5 := Tryd.isAgg5
  z5 := Tryd.sizeOf5
  v5 := Tryd.zeroValue5
  t21 := Tryd.underlying21
  a21 := Tryd.isAgg21
  z21 := Tryd.sizeOf21
  v21 := Tryd.zeroValue21
  t46 := Tryd.underlying93
  a46 := Tryd.isAgg93
  z46 := Tryd.sizeOf93
  v46 := Tryd.zeroValue93
  t49 := Tryd.underlying127
  a49 := Tryd.isAgg127
  z49 := Tryd.sizeOf127
  v49 := Tryd.zeroValue127
  t51 := Tryd.underlying105
  a51 := Tryd.isAgg105
  z51 := Tryd.sizeOf105
  v51 := Tryd.zeroValue105
  t119 := Tryd.underlying106
  a119 := Tryd.isAgg106
  z119 := Tryd.sizeOf106
  t141 := Tryd.underlying108
  a141 := Tryd.isAgg108
  z141 := Tryd.sizeOf108
  v141 := Tryd.zeroValue108
  t193 := Tryd.underlying123
  a193 := Tryd.isAgg123
  z193 := Tryd.sizeOf123
  v193 := Tryd.zeroValue123
  t194 := Tryd.underlying124
  a194 := Tryd.isAgg124
  z194 := Tryd.sizeOf124
  v194 := Tryd.zeroValue124
  t196 := Tryd.underlying126
  a196 := Tryd.isAgg126
  z196 := Tryd.sizeOf126
  v196 := Tryd.zeroValue126
  t198 := Tryd.underlying129
  a198 := Tryd.isAgg129
  z198 := Tryd.sizeOf129
  v198 := Tryd.zeroValue129
  t201 := Tryd.underlying132
  a201 := Tryd.isAgg132
  z201 := Tryd.sizeOf132
  v201 := Tryd.zeroValue132
  t226 := Tryd.underlying139
  a226 := Tryd.isAgg139
  z226 := Tryd.sizeOf139
  v226 := Tryd.zeroValue139
  t227 := Tryd.underlying140
  a227 := Tryd.isAgg140
  z227 := Tryd.sizeOf140
  v227 := Tryd.zeroValue140
  g7 := by kernel_rfl
  g8 := by kernel_rfl
  i0 := by kernel_rfl
  i3 := by kernel_rfl
  i4 := by kernel_rfl
  i5 := by kernel_rfl
  i21 := by kernel_rfl
  i46 := by kernel_rfl
  i49 := by kernel_rfl
  i51 := by kernel_rfl
  i141 := by kernel_rfl
  i193 := by kernel_rfl
  i194 := by kernel_rfl
  i196 := by kernel_rfl
  i198 := by kernel_rfl
  i201 := by kernel_rfl
  i226 := by kernel_rfl
  i227 := by kernel_rfl
  m7 := by kernel_rfl
  m8 := by kernel_rfl }
open Go.RowKit Go.Lib in
theorem Tryd.unicode_IsLetter_laid (c : Nat) (w : World) (hc : c < 256) (htab : Lib.TabIs Tryd.prog w "unicode.properties" .u8 Lib.propertiesTab) :
    Calls Tryd.prog 67 #[.int .i32 c] w fun e w' => e = .returned (.bool (Lib.isLetterL c)) ∧ w' = w := Any.unicode_IsLetter_laid Tryd.laysM200 c w hc htab
def Tryd.lays197_ren : Go.Shelf.Ren := ⟨fun | 197 => 63 | 260 => 81 | n => n, fun | 9 => 9 | 21 => 21 | 3 => 3 | 4 => 4 | 5 => 5 | 105 => 87 | 119 => 106 | 0 => 0 | 46 => 93 | 139 => 119 | 138 => 118 | n => n, fun | 3 => 6 | 4 => 7 | n => n⟩
theorem Tryd.lays197 : Go.Proofs.Lays.n197 Tryd.prog Tryd.lays197_ren := {
  mixed := by kernel_rfl
  f197 := Tryd.func63.trans (congrArg some (by kernel_rfl))
  f260 := Tryd.func81.trans (congrArg some (by kernel_rfl))
  t0 := Tryd.underlying0
  a0 := Tryd.isAgg0
  z0 := Tryd.sizeOf0
  v0 := Tryd.zeroValue0
  t3 := Tryd.underlying3
  a3 := Tryd.isAgg3
  z3 := Tryd.sizeOf3
  v3 := Tryd.zeroValue3
  t4 := Tryd.underlying4
  a4 := Tryd.isAgg4
  z4 := Tryd.sizeOf4
  v4 := Tryd.zeroValue4
  t5 := Tryd.underlying5
  a5 := Tryd.isAgg5
  z5 := Tryd.sizeOf5
  v5 := Tryd.zeroValue5
  t9 := Tryd.underlying9
  a9 := Tryd.isAgg9
  z9 := Tryd.sizeOf9
  v9 := Tryd.zeroValue9
  t21 := Tryd.underlying21
  a21 := Tryd.isAgg21
  z21 := Tryd.sizeOf21
  v21 := Tryd.zeroValue21
  t46 := Tryd.underlying93
  a46 := Tryd.isAgg93
  z46 := Tryd.sizeOf93
  v46 := Tryd.zeroValue93
  t105 := Tryd.underlying87
  a105 := Tryd.isAgg87
  z105 := Tryd.sizeOf87
  v105 := Tryd.zeroValue87
  t119 := Tryd.underlying106
  a119 := Tryd.isAgg106
  z119 := Tryd.sizeOf106
  t138 := Tryd.underlying118
  a138 := Tryd.isAgg118
  z138 := Tryd.sizeOf118
  v138 := Tryd.zeroValue118
  t139 := Tryd.underlying119
  a139 := Tryd.isAgg119
  z139 := Tryd.sizeOf119
  v139 := Tryd.zeroValue119
  g3 := by kernel_rfl
  g4 := by kernel_rfl }
open Go.RowKit Go.Lib in
theorem Tryd.utf8_DecodeRuneInString_ascii (s : ByteArray) (x : UInt8) (w : World) (h0 : s.data.toList[0]? = some x) (hx : x.toNat < 128) :
    Calls Tryd.prog 63 #[.string s] w fun e w' => e = .returned (.tuple #[.int .i32 x.toNat, .int .i64 1]) ∧ w' = w := Any.utf8_DecodeRuneInString_ascii Tryd.lays197 s x w h0 hx
open Go.RowKit Go.Lib in
theorem Tryd.utf8_RuneCountInString_ascii (s : ByteArray) (w : World) (hs : s.size < 4294967281) (hascii : ∀ (j : Nat) b, s.data.toList[j]? = some b → b.toNat < 128) :
    Calls Tryd.prog 54 #[.string s] w fun e w' => e = .returned (.int .i64 s.size) ∧ w' = w.iter s s.size := Any.utf8_RuneCountInString_ascii Tryd.lays195 s w hs hascii
def Tryd.lays264_ren : Go.Shelf.Ren := ⟨fun | 264 => 90 | n => n, fun | 53 => 114 | 46 => 93 | n => n, fun | n => n⟩
theorem Tryd.lays264 : Go.Proofs.Lays.n264 Tryd.prog Tryd.lays264_ren := {
  mixed := by kernel_rfl
  f264 := Tryd.func90.trans (congrArg some (by kernel_rfl))
  t46 := Tryd.underlying93
  a46 := Tryd.isAgg93
  z46 := Tryd.sizeOf93
  v46 := Tryd.zeroValue93
  t53 := Tryd.underlying114
  a53 := Tryd.isAgg114
  z53 := Tryd.sizeOf114
  v53 := Tryd.zeroValue114 }
open Go.RowKit Go.Lib in
theorem Tryd.bits_Mul64 (x y : Nat) (hx : x < 18446744073709551616) (hy : y < 18446744073709551616) (w : World) :
    Calls Tryd.prog 90 #[.int .u64 x, .int .u64 y] w fun e w' => e = .returned (.tuple #[.int .u64 ((x * y / 18446744073709551616 : Nat) : Int), .int .u64 ((x * y % 18446744073709551616 : Nat) : Int)]) ∧ w' = w := Any.bits_Mul64 Tryd.lays264 x y hx hy w
def Tryd.lays212_ren : Go.Shelf.Ren := ⟨fun | 212 => 73 | 263 => 89 | 264 => 90 | n => n, fun | 46 => 93 | 51 => 105 | 146 => 112 | 53 => 114 | 148 => 115 | n => n, fun | n => n⟩
theorem Tryd.lays212 : Go.Proofs.Lays.n212 Tryd.prog Tryd.lays212_ren := {
  mixed := by kernel_rfl
  f212 := Tryd.func73.trans (congrArg some (by kernel_rfl))
  f263 := Tryd.func89.trans (congrArg some (by kernel_rfl))
  f264 := Tryd.func90.trans (congrArg some (by kernel_rfl))
  t46 := Tryd.underlying93
  a46 := Tryd.isAgg93
  z46 := Tryd.sizeOf93
  v46 := Tryd.zeroValue93
  t51 := Tryd.underlying105
  a51 := Tryd.isAgg105
  z51 := Tryd.sizeOf105
  v51 := Tryd.zeroValue105
  t53 := Tryd.underlying114
  a53 := Tryd.isAgg114
  z53 := Tryd.sizeOf114
  v53 := Tryd.zeroValue114
  t146 := Tryd.underlying112
  a146 := Tryd.isAgg112
  z146 := Tryd.sizeOf112
  v146 := Tryd.zeroValue112
  t148 := Tryd.underlying115
  a148 := Tryd.isAgg115
  z148 := Tryd.sizeOf115
  v148 := Tryd.zeroValue115 }
open Go.RowKit Go.Lib in
theorem Tryd.bits_Mul (x y : Nat) (hx : x < 18446744073709551616) (hy : y < 18446744073709551616) (w : World) :
    Calls Tryd.prog 73 #[.int .u64 x, .int .u64 y] w fun e w' => e = .returned (.tuple #[.int .u64 ((x * y / 18446744073709551616 : Nat) : Int), .int .u64 ((x * y % 18446744073709551616 : Nat) : Int)]) ∧ w' = w := Any.bits_Mul Tryd.lays212 x y hx hy w
def Tryd.lays105_ren : Go.Shelf.Ren := ⟨fun | 105 => 53 | 212 => 73 | 99 => 74 | 165 => 35 | 166 => 42 | 170 => 75 | 169 => 44 | 263 => 89 | 264 => 90 | 206 => 91 | 240 => 55 | 241 => 56 | 276 => 76 | 277 => 77 | n => n, fun | 9 => 9 | 3 => 3 | 4 => 4 | 20 => 20 | 0 => 0 | 46 => 93 | 109 => 94 | 5 => 5 | 72 => 58 | 76 => 71 | 51 => 105 | 146 => 112 | 53 => 114 | 148 => 115 | 70 => 55 | 37 => 56 | 75 => 70 | 127 => 86 | 164 => 96 | 80 => 46 | n => n, fun | n => n⟩
theorem Tryd.lays105 : Go.Proofs.Lays.n105 Tryd.prog Tryd.lays105_ren := {
  mixed := by kernel_rfl
  f99 := Tryd.func74.trans (congrArg some (by kernel_rfl))
  f105 := Tryd.func53.trans (congrArg some (by kernel_rfl))
  f165 := Tryd.func35.trans (congrArg some (by kernel_rfl))
  f166 := Tryd.func42.trans (congrArg some (by kernel_rfl))
  f169 := Tryd.func44.trans (congrArg some (by kernel_rfl))
  f170 := Tryd.func75.trans (congrArg some (by kernel_rfl))
  f206 := Tryd.func91.trans (congrArg some (by kernel_rfl))
  f212 := Tryd.func73.trans (congrArg some (by kernel_rfl))
  f240 := Tryd.func55.trans (congrArg some (by kernel_rfl))
  f241 := Tryd.func56.trans (congrArg some (by kernel_rfl))
  f263 := Tryd.func89.trans (congrArg some (by kernel_rfl))
  f264 := Tryd.func90.trans (congrArg some (by kernel_rfl))
  f276 := Tryd.func76.trans (congrArg some (by kernel_rfl))
  f277 := Tryd.func77.trans (congrArg some (by kernel_rfl))
  t0 := Tryd.underlying0
  a0 := Tryd.isAgg0
  z0 := Tryd.sizeOf0
  v0 := Tryd.zeroValue0
  t3 := Tryd.underlying3
  a3 := Tryd.isAgg3
  z3 := Tryd.sizeOf3
  v3 := Tryd.zeroValue3
  t4 := Tryd.underlying4
  a4 := Tryd.isAgg4
  z4 := Tryd.sizeOf4
  v4 := Tryd.zeroValue4
  t5 := Tryd.underlying5
  a5 := Tryd.isAgg5
  z5 := Tryd.sizeOf5
  v5 := Tryd.zeroValue5
  t9 := Tryd.underlying9
  a9 := Tryd.isAgg9
  z9 := Tryd.sizeOf9
  v9 := Tryd.zeroValue9
  t20 := Tryd.underlying20
  a20 := Tryd.isAgg20
  z20 := Tryd.sizeOf20
  v20 := Tryd.zeroValue20
  t37 := Tryd.underlying56
  a37 := Tryd.isAgg56
  z37 := Tryd.sizeOf56
  v37 := Tryd.zeroValue56
  t46 := Tryd.underlying93
  a46 := Tryd.isAgg93
  z46 := Tryd.sizeOf93
  v46 := Tryd.zeroValue93
  t51 := Tryd.underlying105
  a51 := Tryd.isAgg105
  z51 := Tryd.sizeOf105
  v51 := Tryd.zeroValue105
  t53 := Tryd.underlying114
  a53 := Tryd.isAgg114
  z53 := Tryd.sizeOf114
  v53 := Tryd.zeroValue114
  t70 := Tryd.underlying55
  a70 := Tryd.isAgg55
  z70 := Tryd.sizeOf55
  v70 := Tryd.zeroValue55
  t72 := Tryd.underlying58
  a72 := Tryd.isAgg58
  z72 := Tryd.sizeOf58
  v72 := Tryd.zeroValue58
  t75 := Tryd.underlying70
  a75 := Tryd.isAgg70
  z75 := Tryd.sizeOf70
  v75 := Tryd.zeroValue70
  t76 := Tryd.underlying71
  a76 := Tryd.isAgg71
  z76 := Tryd.sizeOf71
  v76 := Tryd.zeroValue71
  t109 := Tryd.underlying94
  a109 := Tryd.isAgg94
  z109 := Tryd.sizeOf94
  v109 := Tryd.zeroValue94
  t127 := Tryd.underlying86
  a127 := Tryd.isAgg86
  z127 := Tryd.sizeOf86
  v127 := Tryd.zeroValue86
  t146 := Tryd.underlying112
  a146 := Tryd.isAgg112
  z146 := Tryd.sizeOf112
  v146 := Tryd.zeroValue112
  t148 := Tryd.underlying115
  a148 := Tryd.isAgg115
  z148 := Tryd.sizeOf115
  v148 := Tryd.zeroValue115
  t164 := Tryd.underlying96
  a164 := Tryd.isAgg96
  z164 := Tryd.sizeOf96
  v164 := Tryd.zeroValue96 }
theorem Tryd.Builder_Extra_105 : Builder.Extra Tryd.prog Tryd.lays105_ren := {
  sizeBuilder := by kernel_rfl
  liesBuilder := by kernel_rfl
  t5 := Tryd.underlying5
  a5 := Tryd.isAgg5
  z5 := Tryd.sizeOf5
  v5 := Tryd.zeroValue5
  infoByte := by kernel_rfl
  cellsByte := by kernel_rfl
  sizeByte := by kernel_rfl
  neB5 := by decide }
open Go.RowKit Go.Lib in
theorem Tryd.strings_Repeat_main (s : ByteArray) (c : Nat) (w : World) (hc2 : 2 ≤ c) (hc : c ≤ 9223372036854775807) (hlen : s.size * c ≤ 140737488355328) (h0 : 0 < s.size) :
    Calls Tryd.prog 53 #[.string s, .int .i64 c] w fun e w' => e = .returned (.string ⟨(Lib.repeatL s.data.toList c).toArray⟩) ∧ Below w.heap.size w w' := Any.strings_Repeat_main Tryd.lays105 Tryd.Builder_Extra_105 s c w hc2 hc hlen h0
open Go.RowKit Go.Lib in
theorem Tryd.strings_Repeat_zero (s : ByteArray) (w : World) :
    Calls Tryd.prog 53 #[.string s, .int .i64 0] w fun e w' => e = .returned (.string ⟨#[]⟩) ∧ w' = w := Any.strings_Repeat_zero Tryd.lays105 s w
open Go.RowKit Go.Lib in
theorem Tryd.strings_Repeat_one (s : ByteArray) (w : World) :
    Calls Tryd.prog 53 #[.string s, .int .i64 1] w fun e w' => e = .returned (.string s) ∧ w' = w := Any.strings_Repeat_one Tryd.lays105 s w
open Go.RowKit Go.Lib in
theorem Tryd.strings_Repeat_empty (s : ByteArray) (c : Nat) (w : World) (hc2 : 2 ≤ c) (hc : c ≤ 9223372036854775807) (h0 : s.size = 0) :
    Calls Tryd.prog 53 #[.string s, .int .i64 c] w fun e w' => e = .returned (.string ⟨#[]⟩) ∧ w' = w := Any.strings_Repeat_empty Tryd.lays105 s c w hc2 hc h0
open Go.RowKit Go.Lib in
theorem Tryd.strings_Repeat_negative (s : ByteArray) (c : Int) (w : World) (hc : c < 0) :
    Calls Tryd.prog 53 #[.string s, .int .i64 c] w fun e w' => e = .panicked [{ v := repeatPanic Tryd.lays105_ren "strings: negative Repeat count", recovered := false }] ∧ w' = w := Any.strings_Repeat_negative Tryd.lays105 s c w hc
open Go.RowKit Go.Lib in
theorem Tryd.strings_Repeat_overflow (s : ByteArray) (c : Nat) (w : World) (hc : c ≤ 9223372036854775807) (hs : s.size ≤ 9223372036854775807) (hbig : 9223372036854775807 < s.size * c) :
    Calls Tryd.prog 53 #[.string s, .int .i64 c] w fun e w' => e = .panicked [{ v := repeatPanic Tryd.lays105_ren "strings: Repeat output length overflow", recovered := false }] ∧ w' = w := Any.strings_Repeat_overflow Tryd.lays105 s c w hc hs hbig
open Go.RowKit Go.Lib in
theorem Tryd.strings_Repeat (s : ByteArray) (c : Nat) (w : World) (hc : c ≤ 9223372036854775807) (hlen : s.size * c ≤ 140737488355328) :
    Calls Tryd.prog 53 #[.string s, .int .i64 c] w fun e w' => e = .returned (.string ⟨(Lib.repeatL s.data.toList c).toArray⟩) ∧ Below w.heap.size w w' := Any.strings_Repeat Tryd.lays105 Tryd.Builder_Extra_105 s c w hc hlen
def Tryd.lays260_ren : Go.Shelf.Ren := ⟨fun | 260 => 81 | n => n, fun | 9 => 9 | 21 => 21 | 3 => 3 | 4 => 4 | 5 => 5 | 119 => 106 | 0 => 0 | 46 => 93 | 139 => 119 | 138 => 118 | n => n, fun | 3 => 6 | 4 => 7 | n => n⟩
theorem Tryd.lays260 : Go.Proofs.Lays.n260 Tryd.prog Tryd.lays260_ren := {
  mixed := by kernel_rfl
  f260 := Tryd.func81.trans (congrArg some (by kernel_rfl))
  t0 := Tryd.underlying0
  a0 := Tryd.isAgg0
  z0 := Tryd.sizeOf0
  v0 := Tryd.zeroValue0
  t3 := Tryd.underlying3
  a3 := Tryd.isAgg3
  z3 := Tryd.sizeOf3
  v3 := Tryd.zeroValue3
  t4 := Tryd.underlying4
  a4 := Tryd.isAgg4
  z4 := Tryd.sizeOf4
  v4 := Tryd.zeroValue4
  t5 := Tryd.underlying5
  a5 := Tryd.isAgg5
  z5 := Tryd.sizeOf5
  v5 := Tryd.zeroValue5
  t9 := Tryd.underlying9
  a9 := Tryd.isAgg9
  z9 := Tryd.sizeOf9
  v9 := Tryd.zeroValue9
  t21 := Tryd.underlying21
  a21 := Tryd.isAgg21
  z21 := Tryd.sizeOf21
  v21 := Tryd.zeroValue21
  t46 := Tryd.underlying93
  a46 := Tryd.isAgg93
  z46 := Tryd.sizeOf93
  v46 := Tryd.zeroValue93
  t119 := Tryd.underlying106
  a119 := Tryd.isAgg106
  z119 := Tryd.sizeOf106
  t138 := Tryd.underlying118
  a138 := Tryd.isAgg118
  z138 := Tryd.sizeOf118
  v138 := Tryd.zeroValue118
  t139 := Tryd.underlying119
  a139 := Tryd.isAgg119
  z139 := Tryd.sizeOf119
  v139 := Tryd.zeroValue119
  g3 := by kernel_rfl
  g4 := by kernel_rfl }
open Go.RowKit Go.Lib in
theorem Tryd.utf8_decodeRuneInStringSlow (s : ByteArray) (w : World) (hT : Lib.Utf8Tabs 6 7 w) :
    Calls Tryd.prog 81 #[.string s] w fun e w' => e = .returned (.tuple #[.int .i32 (Lib.decodeGo s).1, .int .i64 (Lib.decodeGo s).2]) ∧ Below w.heap.size w w' := Any.utf8_decodeRuneInStringSlow Tryd.lays260 s w hT
open Go.RowKit Go.Lib in
theorem Tryd.utf8_DecodeRuneInString (s : ByteArray) (w : World) (hT : Lib.Utf8Tabs 6 7 w) :
    Calls Tryd.prog 63 #[.string s] w fun e w' => e = .returned (.tuple #[.int .i32 (Lib.decodeGo s).1, .int .i64 (Lib.decodeGo s).2]) ∧ Below w.heap.size w w' := Any.utf8_DecodeRuneInString Tryd.lays197 s w hT
def Tryd.lays311_ren : Go.Shelf.Ren := ⟨fun | 311 => 95 | n => n, fun | 193 => 123 | 49 => 127 | 4 => 4 | 3 => 3 | 0 => 0 | 226 => 139 | 198 => 129 | 46 => 93 | n => n, fun | n => n⟩
theorem Tryd.lays311 : Go.Proofs.Lays.n311 Tryd.prog Tryd.lays311_ren := {
  mixed := by kernel_rfl
  f311 := Tryd.func95.trans (congrArg some (by kernel_rfl))
  t0 := Tryd.underlying0
  a0 := Tryd.isAgg0
  z0 := Tryd.sizeOf0
  v0 := Tryd.zeroValue0
  t3 := Tryd.underlying3
  a3 := Tryd.isAgg3
  z3 := Tryd.sizeOf3
  v3 := Tryd.zeroValue3
  t4 := Tryd.underlying4
  a4 := Tryd.isAgg4
  z4 := Tryd.sizeOf4
  v4 := Tryd.zeroValue4
  t46 := Tryd.underlying93
  a46 := Tryd.isAgg93
  z46 := Tryd.sizeOf93
  v46 := Tryd.zeroValue93
  t49 := Tryd.underlying127
  a49 := Tryd.isAgg127
  z49 := Tryd.sizeOf127
  v49 := Tryd.zeroValue127
  t193 := Tryd.underlying123
  a193 := Tryd.isAgg123
  z193 := Tryd.sizeOf123
  v193 := Tryd.zeroValue123
  t198 := Tryd.underlying129
  a198 := Tryd.isAgg129
  z198 := Tryd.sizeOf129
  v198 := Tryd.zeroValue129
  t226 := Tryd.underlying139
  a226 := Tryd.isAgg139
  z226 := Tryd.sizeOf139
  v226 := Tryd.zeroValue139 }
open Go.RowKit Go.Lib in
theorem Tryd.unicode_is16_white (R oR : Nat) (z : Nat) (w : World) (hz : z < 65536) (hz0 : 255 < z) (c6 : w.cell? ⟨R, oR + 6, none⟩ = some (.int .u16 160)) (c7 : w.cell? ⟨R, oR + 7, none⟩ = some (.int .u16 5760)) (c8 : w.cell? ⟨R, oR + 8, none⟩ = some (.int .u16 5600)) (c9 : w.cell? ⟨R, oR + 9, none⟩ = some (.int .u16 8192)) (c10 : w.cell? ⟨R, oR + 10, none⟩ = some (.int .u16 8202)) (c11 : w.cell? ⟨R, oR + 11, none⟩ = some (.int .u16 1)) (c12 : w.cell? ⟨R, oR + 12, none⟩ = some (.int .u16 8232)) (c13 : w.cell? ⟨R, oR + 13, none⟩ = some (.int .u16 8233)) (c14 : w.cell? ⟨R, oR + 14, none⟩ = some (.int .u16 1)) (c15 : w.cell? ⟨R, oR + 15, none⟩ = some (.int .u16 8239)) (c16 : w.cell? ⟨R, oR + 16, none⟩ = some (.int .u16 8287)) (c17 : w.cell? ⟨R, oR + 17, none⟩ = some (.int .u16 48)) (c18 : w.cell? ⟨R, oR + 18, none⟩ = some (.int .u16 12288)) (c19 : w.cell? ⟨R, oR + 19, none⟩ = some (.int .u16 12288)) (c20 : w.cell? ⟨R, oR + 20, none⟩ = some (.int .u16 1)) :
    Calls Tryd.prog 95 #[.slice (some ⟨R, oR + 6, none⟩) 5 5, .int .u16 z] w fun e w' => e = .returned (.bool (Lib.isSpaceR z)) ∧ Below w.heap.size w w' := Any.unicode_is16_white Tryd.lays311 R oR z w hz hz0 c6 c7 c8 c9 c10 c11 c12 c13 c14 c15 c16 c17 c18 c19 c20
def Tryd.lays261_ren : Go.Shelf.Ren := ⟨fun | 261 => 83 | 311 => 95 | 312 => 96 | n => n, fun | 141 => 108 | 21 => 21 | 4 => 4 | 0 => 0 | 196 => 126 | 193 => 123 | 3 => 3 | 51 => 105 | 198 => 129 | 49 => 127 | 194 => 124 | 201 => 132 | 226 => 139 | 46 => 93 | 227 => 140 | n => n, fun | n => n⟩
theorem Tryd.lays261 : Go.Proofs.Lays.n261 Tryd.prog Tryd.lays261_ren := {
  mixed := by kernel_rfl
  f261 := Tryd.func83.trans (congrArg some (by kernel_rfl))
  f311 := Tryd.func95.trans (congrArg some (by kernel_rfl))
  f312 := Tryd.func96.trans (congrArg some (by kernel_rfl))
  t0 := Tryd.underlying0
  a0 := Tryd.isAgg0
  z0 := Tryd.sizeOf0
  v0 := Tryd.zeroValue0
  t3 := Tryd.underlying3
  a3 := Tryd.isAgg3
  z3 := Tryd.sizeOf3
  v3 := Tryd.zeroValue3
  t4 := Tryd.underlying4
  a4 := Tryd.isAgg4
  z4 := Tryd.sizeOf4
  v4 := Tryd.zeroValue4
  t21 := Tryd.underlying21
  a21 := Tryd.isAgg21
  z21 := Tryd.sizeOf21
  v21 := Tryd.zeroValue21
  t46 := Tryd.underlying93
  a46 := Tryd.isAgg93
  z46 := Tryd.sizeOf93
  v46 := Tryd.zeroValue93
  t49 := Tryd.underlying127
  a49 := Tryd.isAgg127
  z49 := Tryd.sizeOf127
  v49 := Tryd.zeroValue127
  t51 := Tryd.underlying105
  a51 := Tryd.isAgg105
  z51 := Tryd.sizeOf105
  v51 := Tryd.zeroValue105
  t141 := Tryd.underlying108
  a141 := Tryd.isAgg108
  z141 := Tryd.sizeOf108
  v141 := Tryd.zeroValue108
  t193 := Tryd.underlying123
  a193 := Tryd.isAgg123
  z193 := Tryd.sizeOf123
  v193 := Tryd.zeroValue123
  t194 := Tryd.underlying124
  a194 := Tryd.isAgg124
  z194 := Tryd.sizeOf124
  v194 := Tryd.zeroValue124
  t196 := Tryd.underlying126
  a196 := Tryd.isAgg126
  z196 := Tryd.sizeOf126
  v196 := Tryd.zeroValue126
  t198 := Tryd.underlying129
  a198 := Tryd.isAgg129
  z198 := Tryd.sizeOf129
  v198 := Tryd.zeroValue129
  t201 := Tryd.underlying132
  a201 := Tryd.isAgg132
  z201 := Tryd.sizeOf132
  v201 := Tryd.zeroValue132
  t226 := Tryd.underlying139
  a226 := Tryd.isAgg139
  z226 := Tryd.sizeOf139
  v226 := Tryd.zeroValue139
  t227 := Tryd.underlying140
  a227 := Tryd.isAgg140
  z227 := Tryd.sizeOf140
  v227 := Tryd.zeroValue140 }
open Go.RowKit Go.Lib in
theorem Tryd.unicode_isExcludingLatin_white (T oT R oR : Nat) (r : Int) (w : World) (hlo : -2147483648 ≤ r) (hhi : r ≤ 2147483647) (hr : r < 0 ∨ 255 < r) (h2 : w.cell? ⟨T, oT, none⟩ = some (.slice (some ⟨R, oR, none⟩) 7 7)) (h3 : w.cell? ⟨T, oT + 1, none⟩ = some (.slice none 0 0)) (h4 : w.cell? ⟨T, oT + 2, none⟩ = some (.int .i64 2)) (h5 : ∀ i, i < 21 → w.cell? ⟨R, oR + i, none⟩ = some (.int .u16 (whiteT.getD i 0))) :
    Calls Tryd.prog 83 #[.pointer (some ⟨T, oT, none⟩), .int .i32 r] w fun e w' => e = .returned (.bool (Lib.isSpaceZ r)) ∧ Below w.heap.size w w' := Any.unicode_isExcludingLatin_white Tryd.lays261 T oT R oR r w hlo hhi hr h2 h3 h4 h5
open Go.RowKit Go.Lib in
theorem Tryd.unicode_IsSpace_any (r : Int) (w : World) (hlo : -2147483648 ≤ r) (hhi : r ≤ 2147483647) (hW : Lib.WhiteTab 4 w) :
    Calls Tryd.prog 69 #[.int .i32 r] w fun e w' => e = .returned (.bool (Lib.isSpaceZ r)) ∧ Below w.heap.size w w' := Any.unicode_IsSpace_any Tryd.lays199 r w hlo hhi hW
open Go.RowKit Go.Lib in
theorem Tryd.unicode_is16_white_d (R oR : Nat) (z : Nat) (w : World) (hz : z < 65536) (hz0 : 255 < z) (c6 : w.cell? ⟨R, oR + 6, none⟩ = some (.int .u16 160)) (c7 : w.cell? ⟨R, oR + 7, none⟩ = some (.int .u16 5760)) (c8 : w.cell? ⟨R, oR + 8, none⟩ = some (.int .u16 5600)) (c9 : w.cell? ⟨R, oR + 9, none⟩ = some (.int .u16 8192)) (c10 : w.cell? ⟨R, oR + 10, none⟩ = some (.int .u16 8202)) (c11 : w.cell? ⟨R, oR + 11, none⟩ = some (.int .u16 1)) (c12 : w.cell? ⟨R, oR + 12, none⟩ = some (.int .u16 8232)) (c13 : w.cell? ⟨R, oR + 13, none⟩ = some (.int .u16 8233)) (c14 : w.cell? ⟨R, oR + 14, none⟩ = some (.int .u16 1)) (c15 : w.cell? ⟨R, oR + 15, none⟩ = some (.int .u16 8239)) (c16 : w.cell? ⟨R, oR + 16, none⟩ = some (.int .u16 8287)) (c17 : w.cell? ⟨R, oR + 17, none⟩ = some (.int .u16 48)) (c18 : w.cell? ⟨R, oR + 18, none⟩ = some (.int .u16 12288)) (c19 : w.cell? ⟨R, oR + 19, none⟩ = some (.int .u16 12288)) (c20 : w.cell? ⟨R, oR + 20, none⟩ = some (.int .u16 1)) :
    Calls Tryd.prog 95 #[.slice (some ⟨R, oR + 6, none⟩) 5 5, .int .u16 z] w fun e w' => e = .returned (.bool (Lib.isSpaceR z)) ∧ ∃ q, w' = w.drewN q := Any.unicode_is16_white_d Tryd.lays311 R oR z w hz hz0 c6 c7 c8 c9 c10 c11 c12 c13 c14 c15 c16 c17 c18 c19 c20
open Go.RowKit Go.Lib in
theorem Tryd.unicode_isExcludingLatin_white_d (T oT R oR : Nat) (r : Int) (w : World) (hlo : -2147483648 ≤ r) (hhi : r ≤ 2147483647) (hr : r < 0 ∨ 255 < r) (h2 : w.cell? ⟨T, oT, none⟩ = some (.slice (some ⟨R, oR, none⟩) 7 7)) (h3 : w.cell? ⟨T, oT + 1, none⟩ = some (.slice none 0 0)) (h4 : w.cell? ⟨T, oT + 2, none⟩ = some (.int .i64 2)) (h5 : ∀ i, i < 21 → w.cell? ⟨R, oR + i, none⟩ = some (.int .u16 (whiteT.getD i 0))) :
    Calls Tryd.prog 83 #[.pointer (some ⟨T, oT, none⟩), .int .i32 r] w fun e w' => e = .returned (.bool (Lib.isSpaceZ r)) ∧ ∃ q, w' = w.drewN q := Any.unicode_isExcludingLatin_white_d Tryd.lays261 T oT R oR r w hlo hhi hr h2 h3 h4 h5
open Go.RowKit Go.Lib in
theorem Tryd.unicode_IsSpace_any_d (r : Int) (w : World) (hlo : -2147483648 ≤ r) (hhi : r ≤ 2147483647) (hW : Lib.WhiteTab 4 w) :
    Calls Tryd.prog 69 #[.int .i32 r] w fun e w' => e = .returned (.bool (Lib.isSpaceZ r)) ∧ ∃ q, w' = w.drewN q := Any.unicode_IsSpace_any_d Tryd.lays199 r w hlo hhi hW
def Tryd.lays274_ren : Go.Shelf.Ren := ⟨fun | 274 => 93 | n => n, fun | 21 => 21 | 162 => 104 | 160 => 120 | 3 => 3 | 4 => 4 | 46 => 93 | 0 => 0 | 208 => 138 | 51 => 105 | 206 => 136 | n => n, fun | n => n⟩
theorem Tryd.lays274 : Go.Proofs.Lays.n274 Tryd.prog Tryd.lays274_ren := {
  mixed := by kernel_rfl
  f274 := Tryd.func93.trans (congrArg some (by kernel_rfl))
  t0 := Tryd.underlying0
  a0 := Tryd.isAgg0
  z0 := Tryd.sizeOf0
  v0 := Tryd.zeroValue0
  t3 := Tryd.underlying3
  a3 := Tryd.isAgg3
  z3 := Tryd.sizeOf3
  v3 := Tryd.zeroValue3
  t4 := Tryd.underlying4
  a4 := Tryd.isAgg4
  z4 := Tryd.sizeOf4
  v4 := Tryd.zeroValue4
  t21 := Tryd.underlying21
  a21 := Tryd.isAgg21
  z21 := Tryd.sizeOf21
  v21 := Tryd.zeroValue21
  t46 := Tryd.underlying93
  a46 := Tryd.isAgg93
  z46 := Tryd.sizeOf93
  v46 := Tryd.zeroValue93
  t51 := Tryd.underlying105
  a51 := Tryd.isAgg105
  z51 := Tryd.sizeOf105
  v51 := Tryd.zeroValue105
  t160 := Tryd.underlying120
  a160 := Tryd.isAgg120
  z160 := Tryd.sizeOf120
  v160 := Tryd.zeroValue120
  t162 := Tryd.underlying104
  a162 := Tryd.isAgg104
  z162 := Tryd.sizeOf104
  v162 := Tryd.zeroValue104
  t208 := Tryd.underlying138
  a208 := Tryd.isAgg138
  z208 := Tryd.sizeOf138
  v208 := Tryd.zeroValue138 }
open Go.RowKit Go.Lib in
theorem Tryd.unicode_lookupCaseRange (T : Array CaseRow) (R oR cap : Nat) (r : Int) (w : World) (hT : CaseTab R oR T w) (hok : CaseOk T) (hn : T.size ≤ 1000000000) :
    Calls Tryd.prog 93 #[.int .i32 r, .slice (some ⟨R, oR, none⟩) T.size cap] w fun e w' =>
      e = .returned (match lookupIdx T r (T.size + 1) 0 T.size with | some i => .pointer (some ⟨R, oR + i * 5, none⟩) | none => .pointer none) ∧ w' = w := Any.unicode_lookupCaseRange Tryd.lays274 T R oR cap r w hT hok hn
def Tryd.lays275_ren : Go.Shelf.Ren := ⟨fun | 275 => 94 | n => n, fun | 3 => 3 | 21 => 21 | 160 => 120 | 0 => 0 | 208 => 138 | 206 => 136 | 4 => 4 | 51 => 105 | n => n, fun | n => n⟩
theorem Tryd.lays275 : Go.Proofs.Lays.n275 Tryd.prog Tryd.lays275_ren := {
  mixed := by kernel_rfl
  f275 := Tryd.func94.trans (congrArg some (by kernel_rfl))
  t0 := Tryd.underlying0
  a0 := Tryd.isAgg0
  z0 := Tryd.sizeOf0
  v0 := Tryd.zeroValue0
  t3 := Tryd.underlying3
  a3 := Tryd.isAgg3
  z3 := Tryd.sizeOf3
  v3 := Tryd.zeroValue3
  t4 := Tryd.underlying4
  a4 := Tryd.isAgg4
  z4 := Tryd.sizeOf4
  v4 := Tryd.zeroValue4
  t21 := Tryd.underlying21
  a21 := Tryd.isAgg21
  z21 := Tryd.sizeOf21
  v21 := Tryd.zeroValue21
  t51 := Tryd.underlying105
  a51 := Tryd.isAgg105
  z51 := Tryd.sizeOf105
  v51 := Tryd.zeroValue105
  t160 := Tryd.underlying120
  a160 := Tryd.isAgg120
  z160 := Tryd.sizeOf120
  v160 := Tryd.zeroValue120
  t206 := Tryd.underlying136
  a206 := Tryd.isAgg136
  z206 := Tryd.sizeOf136
  v206 := Tryd.zeroValue136
  t208 := Tryd.underlying138
  a208 := Tryd.isAgg138
  z208 := Tryd.sizeOf138
  v208 := Tryd.zeroValue138 }
open Go.RowKit Go.Lib in
theorem Tryd.unicode_convertCase (c : Nat) (hc : c < 3) (r : Int) (A o : Nat) (x : CaseRow) (w : World) (hlo : (x.1 : Int) ≤ r) (hhi : r ≤ (x.2.1 : Int)) (hH : x.2.1 < 2147483647) (c0 : w.cell? ⟨A, o, none⟩ = some (.int .u32 x.1)) (cD : w.cell? ⟨A, o + 2 + c, none⟩ = some (.int .i32 (x.delta c))) :
    Calls Tryd.prog 94 #[.int .i64 c, .int .i32 r, .pointer (some ⟨A, o, none⟩)] w fun e w' => e = .returned (.int .i32 (wrap32 (convertR c r x))) ∧ ∃ q, w' = w.drewN q := Any.unicode_convertCase Tryd.lays275 c hc r A o x w hlo hhi hH c0 cD
def Tryd.lays313_ren : Go.Shelf.Ren := ⟨fun | 313 => 82 | 274 => 93 | 275 => 94 | n => n, fun | 3 => 3 | 21 => 21 | 162 => 104 | 4 => 4 | 160 => 120 | 46 => 93 | 0 => 0 | 208 => 138 | 51 => 105 | 206 => 136 | n => n, fun | n => n⟩
theorem Tryd.lays313 : Go.Proofs.Lays.n313 Tryd.prog Tryd.lays313_ren := {
  mixed := by kernel_rfl
  f274 := Tryd.func93.trans (congrArg some (by kernel_rfl))
  f275 := Tryd.func94.trans (congrArg some (by kernel_rfl))
  f313 := Tryd.func82.trans (congrArg some (by kernel_rfl))
  t0 := Tryd.underlying0
  a0 := Tryd.isAgg0
  z0 := Tryd.sizeOf0
  v0 := Tryd.zeroValue0
  t3 := Tryd.underlying3
  a3 := Tryd.isAgg3
  z3 := Tryd.sizeOf3
  v3 := Tryd.zeroValue3
  t4 := Tryd.underlying4
  a4 := Tryd.isAgg4
  z4 := Tryd.sizeOf4
  v4 := Tryd.zeroValue4
  t21 := Tryd.underlying21
  a21 := Tryd.isAgg21
  z21 := Tryd.sizeOf21
  v21 := Tryd.zeroValue21
  t46 := Tryd.underlying93
  a46 := Tryd.isAgg93
  z46 := Tryd.sizeOf93
  v46 := Tryd.zeroValue93
  t51 := Tryd.underlying105
  a51 := Tryd.isAgg105
  z51 := Tryd.sizeOf105
  v51 := Tryd.zeroValue105
  t160 := Tryd.underlying120
  a160 := Tryd.isAgg120
  z160 := Tryd.sizeOf120
  v160 := Tryd.zeroValue120
  t162 := Tryd.underlying104
  a162 := Tryd.isAgg104
  z162 := Tryd.sizeOf104
  v162 := Tryd.zeroValue104
  t206 := Tryd.underlying136
  a206 := Tryd.isAgg136
  z206 := Tryd.sizeOf136
  v206 := Tryd.zeroValue136
  t208 := Tryd.underlying138
  a208 := Tryd.isAgg138
  z208 := Tryd.sizeOf138
  v208 := Tryd.zeroValue138 }
open Go.RowKit Go.Lib in
theorem Tryd.unicode_to (c : Nat) (hc : c < 3) (r : Int) (T : Array CaseRow) (R oR cap : Nat) (w : World) (hT : CaseTab R oR T w) (hok : CaseOk2 T) (hn : T.size ≤ 1000000000) :
    Calls Tryd.prog 82 #[.int .i64 c, .int .i32 r, .slice (some ⟨R, oR, none⟩) T.size cap] w fun e w' => e = .returned (.tuple #[.int .i32 (toW T c r), .bool (lookupIdx T r (T.size + 1) 0 T.size).isSome]) ∧ ∃ q, w' = w.drewN q := Any.unicode_to Tryd.lays313 c hc r T R oR cap w hT hok hn
def Tryd.lays262_ren : Go.Shelf.Ren := ⟨fun | 262 => 66 | 313 => 82 | 274 => 93 | 275 => 94 | n => n, fun | 3 => 3 | 21 => 21 | 162 => 104 | 203 => 102 | 4 => 4 | 160 => 120 | 46 => 93 | 0 => 0 | 208 => 138 | 51 => 105 | 206 => 136 | n => n, fun | 13 => 0 | n => n⟩
theorem Tryd.lays262 : Go.Proofs.Lays.n262 Tryd.prog Tryd.lays262_ren := {
  mixed := by kernel_rfl
  f262 := Tryd.func66.trans (congrArg some (by kernel_rfl))
  f274 := Tryd.func93.trans (congrArg some (by kernel_rfl))
  f275 := Tryd.func94.trans (congrArg some (by kernel_rfl))
  f313 := Tryd.func82.trans (congrArg some (by kernel_rfl))
  t0 := Tryd.underlying0
  a0 := Tryd.isAgg0
  z0 := Tryd.sizeOf0
  v0 := Tryd.zeroValue0
  t3 := Tryd.underlying3
  a3 := Tryd.isAgg3
  z3 := Tryd.sizeOf3
  v3 := Tryd.zeroValue3
  t4 := Tryd.underlying4
  a4 := Tryd.isAgg4
  z4 := Tryd.sizeOf4
  v4 := Tryd.zeroValue4
  t21 := Tryd.underlying21
  a21 := Tryd.isAgg21
  z21 := Tryd.sizeOf21
  v21 := Tryd.zeroValue21
  t46 := Tryd.underlying93
  a46 := Tryd.isAgg93
  z46 := Tryd.sizeOf93
  v46 := Tryd.zeroValue93
  t51 := Tryd.underlying105
  a51 := Tryd.isAgg105
  z51 := Tryd.sizeOf105
  v51 := Tryd.zeroValue105
  t160 := Tryd.underlying120
  a160 := Tryd.isAgg120
  z160 := Tryd.sizeOf120
  v160 := Tryd.zeroValue120
  t162 := Tryd.underlying104
  a162 := Tryd.isAgg104
  z162 := Tryd.sizeOf104
  v162 := Tryd.zeroValue104
  t203 := Tryd.underlying102
  a203 := Tryd.isAgg102
  z203 := Tryd.sizeOf102
  v203 := Tryd.zeroValue102
  t206 := Tryd.underlying136
  a206 := Tryd.isAgg136
  z206 := Tryd.sizeOf136
  v206 := Tryd.zeroValue136
  t208 := Tryd.underlying138
  a208 := Tryd.isAgg138
  z208 := Tryd.sizeOf138
  v208 := Tryd.zeroValue138
  g13 := by kernel_rfl }
open Go.RowKit Go.Lib in
theorem Tryd.unicode_To (c : Nat) (hc : c < 3) (r : Int) (T : Array CaseRow) (w : World) (hV : CaseVar 0 T w) (hok : CaseOk2 T) (hn : T.size ≤ 1000000000) :
    Calls Tryd.prog 66 #[.int .i64 c, .int .i32 r] w fun e w' => e = .returned (.int .i32 (toW T c r)) ∧ ∃ q, w' = w.drewN q := Any.unicode_To Tryd.lays262 c hc r T w hV hok hn
open Go.RowKit Go.Lib in
theorem Tryd.unicode_ToLower_any (r : Int) (T : Array CaseRow) (w : World) (hV : CaseVar 0 T w) (hok : CaseOk2 T) (hn : T.size ≤ 1000000000) :
    Calls Tryd.prog 46 #[.int .i32 r] w fun e w' => e = .returned (.int .i32 (Lib.toLowerW T r)) ∧ ∃ q, w' = w.drewN q := Any.unicode_ToLower_any Tryd.lays204 r T w hV hok hn
open Go.RowKit Go.Lib in
theorem Tryd.unicode_ToUpper_any (r : Int) (T : Array CaseRow) (w : World) (hV : CaseVar 0 T w) (hok : CaseOk2 T) (hn : T.size ≤ 1000000000) :
    Calls Tryd.prog 49 #[.int .i32 r] w fun e w' => e = .returned (.int .i32 (Lib.toUpperW T r)) ∧ ∃ q, w' = w.drewN q := Any.unicode_ToUpper_any Tryd.lays203 r T w hV hok hn
open Go.RowKit Go.Lib in
theorem Tryd.unicode_ToLower_laid (r : Int) (w : World) (hV : CaseVar 0 caseA w) :
    Calls Tryd.prog 46 #[.int .i32 r] w fun e w' => e = .returned (.int .i32 (toLowerU r)) ∧ ∃ q, w' = w.drewN q := Any.unicode_ToLower_laid Tryd.lays204 r w hV
open Go.RowKit Go.Lib in
theorem Tryd.unicode_ToUpper_laid (r : Int) (w : World) (hV : CaseVar 0 caseA w) :
    Calls Tryd.prog 49 #[.int .i32 r] w fun e w' => e = .returned (.int .i32 (toUpperU r)) ∧ ∃ q, w' = w.drewN q := Any.unicode_ToUpper_laid Tryd.lays203 r w hV
def Tryd.lays270_ren : Go.Shelf.Ren := ⟨fun | 270 => 65 | n => n, fun | 70 => 55 | 3 => 3 | 0 => 0 | 72 => 58 | 37 => 56 | 5 => 5 | n => n, fun | n => n⟩
theorem Tryd.lays270 : Go.Proofs.Lays.n270 Tryd.prog Tryd.lays270_ren := {
  mixed := by kernel_rfl
  f270 := Tryd.func65.trans (congrArg some (by kernel_rfl))
  t0 := Tryd.underlying0
  a0 := Tryd.isAgg0
  z0 := Tryd.sizeOf0
  v0 := Tryd.zeroValue0
  t3 := Tryd.underlying3
  a3 := Tryd.isAgg3
  z3 := Tryd.sizeOf3
  v3 := Tryd.zeroValue3
  t37 := Tryd.underlying56
  a37 := Tryd.isAgg56
  z37 := Tryd.sizeOf56
  v37 := Tryd.zeroValue56
  t70 := Tryd.underlying55
  a70 := Tryd.isAgg55
  z70 := Tryd.sizeOf55
  v70 := Tryd.zeroValue55
  t72 := Tryd.underlying58
  a72 := Tryd.isAgg58
  z72 := Tryd.sizeOf58
  v72 := Tryd.zeroValue58 }
open Go.RowKit Go.Lib in
theorem Tryd.Builder_Cap_cell (b : Nat) (p : Option Addr) (n cap : Nat) (w : World) (c1 : w.cell? ⟨b, 1, none⟩ = some (.slice p n cap)) :
    Calls Tryd.prog 65 #[.pointer (some ⟨b, 0, none⟩)] w fun e w' => e = .returned (.int .i64 cap) ∧ w' = w := Any.Builder_Cap_cell Tryd.lays270 b p n cap w c1
def Tryd.lays230_ren : Go.Shelf.Ren := ⟨fun | 230 => 45 | 197 => 63 | 118 => 64 | 165 => 35 | 166 => 42 | 168 => 57 | 270 => 65 | 167 => 43 | 169 => 44 | 260 => 81 | 240 => 55 | 241 => 56 | 242 => 78 | 276 => 76 | 277 => 77 | 278 => 92 | n => n, fun | 107 => 75 | 9 => 9 | 72 => 58 | 0 => 0 | 4 => 4 | 3 => 3 | 21 => 21 | 105 => 87 | 76 => 71 | 5 => 5 | 75 => 70 | 70 => 55 | 20 => 20 | 37 => 56 | 127 => 86 | 119 => 106 | 46 => 93 | 139 => 119 | 138 => 118 | 164 => 96 | 51 => 105 | 80 => 46 | n => n, fun | 3 => 6 | 4 => 7 | n => n⟩
theorem Tryd.lays230 : Go.Proofs.Lays.n230 Tryd.prog Tryd.lays230_ren := {
  mixed := by kernel_rfl
  f118 := Tryd.func64.trans (congrArg some (by kernel_rfl))
  f165 := Tryd.func35.trans (congrArg some (by kernel_rfl))
  f166 := Tryd.func42.trans (congrArg some (by kernel_rfl))
  f167 := Tryd.func43.trans (congrArg some (by kernel_rfl))
  f168 := Tryd.func57.trans (congrArg some (by kernel_rfl))
  f169 := Tryd.func44.trans (congrArg some (by kernel_rfl))
  f197 := Tryd.func63.trans (congrArg some (by kernel_rfl))
  f230 := Tryd.func45.trans (congrArg some (by kernel_rfl))
  f240 := Tryd.func55.trans (congrArg some (by kernel_rfl))
  f241 := Tryd.func56.trans (congrArg some (by kernel_rfl))
  f242 := Tryd.func78.trans (congrArg some (by kernel_rfl))
  f260 := Tryd.func81.trans (congrArg some (by kernel_rfl))
  f270 := Tryd.func65.trans (congrArg some (by kernel_rfl))
  f276 := Tryd.func76.trans (congrArg some (by kernel_rfl))
  f277 := Tryd.func77.trans (congrArg some (by kernel_rfl))
  f278 := Tryd.func92.trans (congrArg some (by kernel_rfl))
  t0 := Tryd.underlying0
  a0 := Tryd.isAgg0
  z0 := Tryd.sizeOf0
  v0 := Tryd.zeroValue0
  t3 := Tryd.underlying3
  a3 := Tryd.isAgg3
  z3 := Tryd.sizeOf3
  v3 := Tryd.zeroValue3
  t4 := Tryd.underlying4
  a4 := Tryd.isAgg4
  z4 := Tryd.sizeOf4
  v4 := Tryd.zeroValue4
  t5 := Tryd.underlying5
  a5 := Tryd.isAgg5
  z5 := Tryd.sizeOf5
  v5 := Tryd.zeroValue5
  t9 := Tryd.underlying9
  a9 := Tryd.isAgg9
  z9 := Tryd.sizeOf9
  v9 := Tryd.zeroValue9
  t20 := Tryd.underlying20
  a20 := Tryd.isAgg20
  z20 := Tryd.sizeOf20
  v20 := Tryd.zeroValue20
  t21 := Tryd.underlying21
  a21 := Tryd.isAgg21
  z21 := Tryd.sizeOf21
  v21 := Tryd.zeroValue21
  t37 := Tryd.underlying56
  a37 := Tryd.isAgg56
  z37 := Tryd.sizeOf56
  v37 := Tryd.zeroValue56
  t46 := Tryd.underlying93
  a46 := Tryd.isAgg93
  z46 := Tryd.sizeOf93
  v46 := Tryd.zeroValue93
  t51 := Tryd.underlying105
  a51 := Tryd.isAgg105
  z51 := Tryd.sizeOf105
  v51 := Tryd.zeroValue105
  t70 := Tryd.underlying55
  a70 := Tryd.isAgg55
  z70 := Tryd.sizeOf55
  v70 := Tryd.zeroValue55
  t72 := Tryd.underlying58
  a72 := Tryd.isAgg58
  z72 := Tryd.sizeOf58
  v72 := Tryd.zeroValue58
  t75 := Tryd.underlying70
  a75 := Tryd.isAgg70
  z75 := Tryd.sizeOf70
  v75 := Tryd.zeroValue70
  t76 := Tryd.underlying71
  a76 := Tryd.isAgg71
  z76 := Tryd.sizeOf71
  v76 := Tryd.zeroValue71
  t105 := Tryd.underlying87
  a105 := Tryd.isAgg87
  z105 := Tryd.sizeOf87
  v105 := Tryd.zeroValue87
  t107 := Tryd.underlying75
  a107 := Tryd.isAgg75
  z107 := Tryd.sizeOf75
  v107 := Tryd.zeroValue75
  t119 := Tryd.underlying106
  a119 := Tryd.isAgg106
  z119 := Tryd.sizeOf106
  t127 := Tryd.underlying86
  a127 := Tryd.isAgg86
  z127 := Tryd.sizeOf86
  v127 := Tryd.zeroValue86
  t138 := Tryd.underlying118
  a138 := Tryd.isAgg118
  z138 := Tryd.sizeOf118
  v138 := Tryd.zeroValue118
  t139 := Tryd.underlying119
  a139 := Tryd.isAgg119
  z139 := Tryd.sizeOf119
  v139 := Tryd.zeroValue119
  t164 := Tryd.underlying96
  a164 := Tryd.isAgg96
  z164 := Tryd.sizeOf96
  v164 := Tryd.zeroValue96
  g3 := by kernel_rfl
  g4 := by kernel_rfl }
theorem Tryd.Builder_Extra_230 : Builder.Extra Tryd.prog Tryd.lays230_ren := {
  sizeBuilder := by kernel_rfl
  liesBuilder := by kernel_rfl
  t5 := Tryd.underlying5
  a5 := Tryd.isAgg5
  z5 := Tryd.sizeOf5
  v5 := Tryd.zeroValue5
  infoByte := by kernel_rfl
  cellsByte := by kernel_rfl
  sizeByte := by kernel_rfl
  neB5 := by decide }
open Go.RowKit Go.Lib in
theorem Tryd.strings_Map_runes (g : Nat) (lb : Array Value) (eg : ∀ args w, (callFunc g args).run Tryd.prog w = .ok (.enter g args) w) (f : Int → Int) (s : ByteArray) (w : World) (hs : s.size < 35184372088832) (hf : MapAtRunes Tryd.prog g lb f w) (hnn : ∀ x : Nat, x ≤ 1114111 → 0 ≤ f x ∧ f x ≤ 2147483647) (hT : Lib.Utf8Tabs 6 7 w) :
    Calls Tryd.prog 45 #[.func (.func g) #[] lb, .string s] w fun e w' => e = .returned (.string ⟨(Lib.mapD f s.data.toList).toArray⟩) ∧ Below w.heap.size w w' := Any.strings_Map_runes Tryd.lays230 Tryd.Builder_Extra_230 g lb eg f s w hs hf hnn hT
open Go.RowKit Go.Lib in
theorem Tryd.strings_ToLower_beyond (s : ByteArray) (w : World) (hs : s.size < 35184372088832) (hhigh : ∃ (j : Nat) (b : UInt8), s.data.toList[j]? = some b ∧ 128 ≤ b.toNat) (hV : CaseVar 0 caseA w) (hT : Lib.Utf8Tabs 6 7 w) :
    Calls Tryd.prog 25 #[.string s] w fun e w' => e = .returned (.string ⟨(Lib.toLowerD s.data.toList).toArray⟩) ∧ Below w.heap.size w w' := Any.strings_ToLower_beyond Tryd.lays159 Tryd.Builder_Extra_159 s w hs hhigh hV hT
open Go.RowKit Go.Lib in
theorem Tryd.strings_ToLower_any (s : ByteArray) (w : World) (hs : s.size < 35184372088832) (hV : CaseVar 0 caseA w) (hT : Lib.Utf8Tabs 6 7 w) :
    Calls Tryd.prog 25 #[.string s] w fun e w' => e = .returned (.string ⟨(Lib.toLowerD s.data.toList).toArray⟩) ∧ Below w.heap.size w w' := Any.strings_ToLower_any Tryd.lays159 Tryd.Builder_Extra_159 s w hs hV hT
open Go.RowKit Go.Lib in
theorem Tryd.unicode_is16_any (T : Array Rg) (R oR cap : Nat) (z : Nat) (w : World) (hz : z < 65536) (hT : RgTab .u16 R oR T w) (hok : RgOk 65536 T) (hn : T.size ≤ 1000000000) :
    Calls Tryd.prog 95 #[.slice (some ⟨R, oR, none⟩) T.size cap, .int .u16 z] w fun e w' => e = .returned (.bool (is16Go T z)) ∧ ∃ q, w' = w.drewN q := Any.unicode_is16_any Tryd.lays311 T R oR cap z w hz hT hok hn
def Tryd.lays312_ren : Go.Shelf.Ren := ⟨fun | 312 => 96 | n => n, fun | 194 => 124 | 51 => 105 | 4 => 4 | 3 => 3 | 0 => 0 | 227 => 140 | 201 => 132 | 46 => 93 | n => n, fun | n => n⟩
theorem Tryd.lays312 : Go.Proofs.Lays.n312 Tryd.prog Tryd.lays312_ren := {
  mixed := by kernel_rfl
  f312 := Tryd.func96.trans (congrArg some (by kernel_rfl))
  t0 := Tryd.underlying0
  a0 := Tryd.isAgg0
  z0 := Tryd.sizeOf0
  v0 := Tryd.zeroValue0
  t3 := Tryd.underlying3
  a3 := Tryd.isAgg3
  z3 := Tryd.sizeOf3
  v3 := Tryd.zeroValue3
  t4 := Tryd.underlying4
  a4 := Tryd.isAgg4
  z4 := Tryd.sizeOf4
  v4 := Tryd.zeroValue4
  t46 := Tryd.underlying93
  a46 := Tryd.isAgg93
  z46 := Tryd.sizeOf93
  v46 := Tryd.zeroValue93
  t51 := Tryd.underlying105
  a51 := Tryd.isAgg105
  z51 := Tryd.sizeOf105
  v51 := Tryd.zeroValue105
  t194 := Tryd.underlying124
  a194 := Tryd.isAgg124
  z194 := Tryd.sizeOf124
  v194 := Tryd.zeroValue124
  t201 := Tryd.underlying132
  a201 := Tryd.isAgg132
  z201 := Tryd.sizeOf132
  v201 := Tryd.zeroValue132
  t227 := Tryd.underlying140
  a227 := Tryd.isAgg140
  z227 := Tryd.sizeOf140
  v227 := Tryd.zeroValue140 }
open Go.RowKit Go.Lib in
theorem Tryd.unicode_is32_any (T : Array Rg) (R oR cap : Nat) (z : Nat) (w : World) (hz : z < 4294967296) (hT : RgTab .u32 R oR T w) (hok : RgOk 4294967296 T) (hn : T.size ≤ 1000000000) :
    Calls Tryd.prog 96 #[.slice (some ⟨R, oR, none⟩) T.size cap, .int .u32 z] w fun e w' => e = .returned (.bool (is32Go T z)) ∧ Below w.heap.size w w' := Any.unicode_is32_any Tryd.lays312 T R oR cap z w hz hT hok hn
open Go.RowKit Go.Lib in
theorem Tryd.unicode_isExcludingLatin_any (Tb oT : Nat) (T : RTab) (r : Int) (w : World) (hlo : -2147483648 ≤ r) (hhi : r ≤ 2147483647) (hA : RTabAt Tb oT T w) (hok : RTabOk T) :
    Calls Tryd.prog 83 #[.pointer (some ⟨Tb, oT, none⟩), .int .i32 r] w fun e w' => e = .returned (.bool (exclGo T r)) ∧ Below w.heap.size w w' := Any.unicode_isExcludingLatin_any Tryd.lays261 Tb oT T r w hlo hhi hA hok
open Go.RowKit Go.Lib in
theorem Tryd.unicode_IsLetter_any (T : RTab) (r : Int) (w : World) (hlo : -2147483648 ≤ r) (hhi : r ≤ 2147483647) (htab : Lib.TabIs Tryd.prog w "unicode.properties" .u8 Lib.propertiesTab) (hV : RVar 2 T w) (hok : RTabOk T) :
    Calls Tryd.prog 67 #[.int .i32 r] w fun e w' => e = .returned (.bool (if latin1 r then isLetterL r else exclGo T r)) ∧ Below w.heap.size w w' := Any.unicode_IsLetter_any Tryd.lays200 (by kernel_rfl) T r w hlo hhi htab hV hok
open Go.RowKit Go.Lib in
theorem Tryd.unicode_IsDigit_any (T : RTab) (r : Int) (w : World) (hlo : -2147483648 ≤ r) (hhi : r ≤ 2147483647) (hV : RVar 3 T w) (hok : RTabOk T) :
    Calls Tryd.prog 68 #[.int .i32 r] w fun e w' => e = .returned (.bool (if r ≤ 255 then isDigitL r else exclGo T r)) ∧ Below w.heap.size w w' := Any.unicode_IsDigit_any Tryd.lays198 T r w hlo hhi hV hok
open Go.RowKit Go.Lib in
theorem Tryd.unicode_IsLetter_all (r : Int) (w : World) (hlo : -2147483648 ≤ r) (hhi : r ≤ 2147483647) (htab : Lib.TabIs Tryd.prog w "unicode.properties" .u8 Lib.propertiesTab) (hV : RVar 2 letterT w) :
    Calls Tryd.prog 67 #[.int .i32 r] w fun e w' => e = .returned (.bool (isLetterU r)) ∧ Below w.heap.size w w' := Any.unicode_IsLetter_all Tryd.lays200 (by kernel_rfl) r w hlo hhi htab hV
open Go.RowKit Go.Lib in
theorem Tryd.unicode_IsDigit_all (r : Int) (w : World) (hlo : -2147483648 ≤ r) (hhi : r ≤ 2147483647) (hV : RVar 3 digitT w) :
    Calls Tryd.prog 68 #[.int .i32 r] w fun e w' => e = .returned (.bool (isDigitU r)) ∧ Below w.heap.size w w' := Any.unicode_IsDigit_all Tryd.lays198 r w hlo hhi hV
open Go.RowKit Go.Lib in
theorem Tryd.strings_Map_grows (g : Nat) (lb : Array Value) (eg : ∀ args w, (callFunc g args).run Tryd.prog w = .ok (.enter g args) w) (f : Int → Int) (s : ByteArray) (w : World) (hs : s.size < 35184372088832) (hf : MapGrows Tryd.prog g lb f w) (hnn : ∀ x : Nat, x ≤ 1114111 → -2147483648 ≤ f x ∧ f x ≤ 2147483647) (hT : Lib.Utf8Tabs 6 7 w) :
    Calls Tryd.prog 45 #[.func (.func g) #[] lb, .string s] w fun e w' => e = .returned (.string ⟨(Lib.mapD f s.data.toList).toArray⟩) ∧ Below w.heap.size w w' := Any.strings_Map_grows Tryd.lays230 Tryd.Builder_Extra_230 g lb eg f s w hs hf hnn hT
end Go.Proofs
