import Derived.Shelf.Strings.Builder1
import Derived.Shelf.Strings.Builder2
import Derived.Shelf.Strings.OnBuilder
import Derived.Shelf.Strings.TrimSpace
import Derived.Shelf.Small.Utf8
import Derived.Shelf.Small.Bits
import Derived.Shelf.Small.Wraps
import Derived.Shelf.Strings.BuilderF
import Derived.Shelf.Strings.BuilderK
import Derived.Shelf.Strings.BuilderRune
import Derived.Shelf.Utf8.AppendRune
import Derived.Shelf.Utf8.AppendRunePlain
import Derived.Shelf.Strings.Builder2Cap
import Derived.Shelf.Strconv.Itoa0
import Derived.Shelf.Strconv.Itoa1
import Derived.Shelf.LaysM
import Derived.Shelf.Strconv.Itoa2
import Derived.Shelf.Strconv.Itoa3
import Derived.Shelf.Sort.Plain
import Derived.Shelf.GgClosure.StringsIndexFunc
import Derived.Shelf.GgClosure.StringsTrimFunc
import Derived.Shelf.GgClosure.StringsRunes
import Derived.Shelf.Unicode.Latin
import Derived.Shelf.Unicode.Props
import Derived.Shelf.Unicode.PropsLaid
import Derived.Shelf.Unicode.Decode
import Derived.Shelf.Unicode.DecodeSlow
import Derived.Shelf.Unicode.DecodeAny
import Derived.Shelf.Unicode.Is16White
import Derived.Shelf.Unicode.IsSpaceAny
import Derived.Shelf.Unicode.DecodeLast
import Derived.Shelf.Strings.TrimSpaceAny
import Derived.Shelf.Unicode.Is16WhiteD
import Derived.Shelf.Unicode.IsSpaceAnyD
import Derived.Shelf.Unicode.CaseLookup
import Derived.Shelf.Unicode.CaseConvert
import Derived.Shelf.Unicode.CaseTo
import Derived.Shelf.Unicode.CaseLaid
import Derived.Shelf.Strings.MapAny
import Derived.Shelf.Strings.CaseAny
import Derived.Shelf.Unicode.Is16Any
import Derived.Shelf.Unicode.Is32Any
import Derived.Shelf.Unicode.ExclAny
import Derived.Shelf.Unicode.PredsAny
import Derived.Shelf.Strings.FuncGrows
import Derived.Shelf.Unicode.PredsPay
import Derived.Shelf.Strings.BuilderCap
import Derived.Shelf.Strings.MapGrows
import Derived.Ground.Names2Prog
import Derived.Shelf.Slices.SearchI
import Derived.Shelf.Slices.In.SortNone
import Derived.Shelf.Slices.In.SortNone2
import Derived.Shelf.Bytes.SlSearch0
import Derived.Shelf.Bytes.SlSmallAll
import Derived.Shelf.Bytes.SlEqualAll
import Derived.Shelf.Bytes.Small
import Derived.Test.YtmljkiohekogbaaDoorProg
namespace Go.Proofs
open Go.Shelf
def Tryd.lays169_ren : Go.Shelf.Ren := ⟨fun | 169 => 60 | n => n, fun | 70 => 87 | 9 => 9 | 0 => 0 | 72 => 89 | 37 => 70 | 127 => 109 | 3 => 3 | 5 => 5 | n => n, fun | n => n⟩
theorem Tryd.lays169 : Go.Proofs.Lays.n169 Tryd.prog Tryd.lays169_ren := {
  mixed := by kernel_rfl
  f169 := Tryd.func60.trans (congrArg some (by kernel_rfl))
  t0 := Tryd.underlying0
  a0 := Tryd.isAgg0
  z0 := Tryd.sizeOf0
  v0 := Tryd.zeroValue0
  t3 := Tryd.underlying3
  a3 := Tryd.isAgg3
  z3 := Tryd.sizeOf3
  v3 := Tryd.zeroValue3
  t9 := Tryd.underlying9
  a9 := Tryd.isAgg9
  z9 := Tryd.sizeOf9
  v9 := Tryd.zeroValue9
  t37 := Tryd.underlying70
  a37 := Tryd.isAgg70
  z37 := Tryd.sizeOf70
  v37 := Tryd.zeroValue70
  t70 := Tryd.underlying87
  a70 := Tryd.isAgg87
  z70 := Tryd.sizeOf87
  v70 := Tryd.zeroValue87
  t72 := Tryd.underlying89
  a72 := Tryd.isAgg89
  z72 := Tryd.sizeOf89
  v72 := Tryd.zeroValue89
  t127 := Tryd.underlying109
  a127 := Tryd.isAgg109
  z127 := Tryd.sizeOf109
  v127 := Tryd.zeroValue109 }
theorem Tryd.Builder_Extra_169 : Builder.Extra Tryd.prog Tryd.lays169_ren := {
  sizeBuilder := by kernel_rfl
  liesBuilder := by kernel_rfl
  t5 := Tryd.underlying5
  a5 := Tryd.isAgg5
  z5 := Tryd.sizeOf5
  v5 := Tryd.zeroValue5
  infoByte := by kernel_rfl
  cellsByte := by kernel_rfl
  sizeByte := by kernel_rfl
  neB5 := by decide }
open Go.RowKit in
theorem Tryd.Builder_String (B b : Nat) (l : List UInt8) (w : World) (h : Lib.IsBuilder 89 5 B b (Lib.byteCells l) w) (h0 : l ≠ []) :
    Calls Tryd.prog 60 #[.pointer (some ⟨b, 0, none⟩)] w fun e w' => e = .returned (.string ⟨l.toArray⟩) ∧ Below B w w' := Any.Builder_String Tryd.lays169 Tryd.Builder_Extra_169 B b l w h h0
open Go.RowKit in
theorem Tryd.Builder_String_empty (B b : Nat) (w : World) (h : Lib.IsBuilder 89 5 B b [] w) (hBw : B ≤ w.heap.size) :
    Calls Tryd.prog 60 #[.pointer (some ⟨b, 0, none⟩)] w fun e w' => e = .returned (.string ⟨#[]⟩) ∧ Below B w w' := Any.Builder_String_empty Tryd.lays169 Tryd.Builder_Extra_169 B b w h hBw
open Go.RowKit in
theorem Tryd.Builder_String_any (B b : Nat) (l : List UInt8) (w : World) (h : Lib.IsBuilder 89 5 B b (Lib.byteCells l) w) (hBw : B ≤ w.heap.size) :
    Calls Tryd.prog 60 #[.pointer (some ⟨b, 0, none⟩)] w fun e w' => e = .returned (.string ⟨l.toArray⟩) ∧ Below B w w' := Any.Builder_String_any Tryd.lays169 Tryd.Builder_Extra_169 B b l w h hBw
def Tryd.lays241_ren : Go.Shelf.Ren := ⟨fun | 241 => 86 | 277 => 107 | n => n, fun | 70 => 87 | 3 => 3 | 0 => 0 | 72 => 89 | 37 => 70 | 5 => 5 | n => n, fun | n => n⟩
theorem Tryd.lays241 : Go.Proofs.Lays.n241 Tryd.prog Tryd.lays241_ren := {
  mixed := by kernel_rfl
  f241 := Tryd.func86.trans (congrArg some (by kernel_rfl))
  f277 := Tryd.func107.trans (congrArg some (by kernel_rfl))
  t0 := Tryd.underlying0
  a0 := Tryd.isAgg0
  z0 := Tryd.sizeOf0
  v0 := Tryd.zeroValue0
  t3 := Tryd.underlying3
  a3 := Tryd.isAgg3
  z3 := Tryd.sizeOf3
  v3 := Tryd.zeroValue3
  t37 := Tryd.underlying70
  a37 := Tryd.isAgg70
  z37 := Tryd.sizeOf70
  v37 := Tryd.zeroValue70
  t70 := Tryd.underlying87
  a70 := Tryd.isAgg87
  z70 := Tryd.sizeOf87
  v70 := Tryd.zeroValue87
  t72 := Tryd.underlying89
  a72 := Tryd.isAgg89
  z72 := Tryd.sizeOf89
  v72 := Tryd.zeroValue89 }
theorem Tryd.Builder_Extra_241 : Builder.Extra Tryd.prog Tryd.lays241_ren := {
  sizeBuilder := by kernel_rfl
  liesBuilder := by kernel_rfl
  t5 := Tryd.underlying5
  a5 := Tryd.isAgg5
  z5 := Tryd.sizeOf5
  v5 := Tryd.zeroValue5
  infoByte := by kernel_rfl
  cellsByte := by kernel_rfl
  sizeByte := by kernel_rfl
  neB5 := by decide }
open Go.RowKit in
theorem Tryd.Builder_grow_fresh (B b n : Nat) (w : World) (hB : B ≤ b) (hbk : w.heap[b]? = some (.cells #[.pointer (some ⟨b, 0, none⟩), .slice none 0 0] 89 (0, 0))) (hBw : B ≤ w.heap.size) (hn : n ≤ 281474976710656) :
    Calls Tryd.prog 86 #[.pointer (some ⟨b, 0, none⟩), .int .i64 n] w fun e w' => e = .returned (.tuple #[]) ∧ (Lib.BuilderAt 89 5 B b (.pointer (some ⟨b, 0, none⟩)) [] w' ∧ Below B w w') := Any.Builder_grow_fresh Tryd.lays241 Tryd.Builder_Extra_241 B b n w hB hbk hBw hn
def Tryd.lays165_ren : Go.Shelf.Ren := ⟨fun | 165 => 65 | 240 => 81 | 241 => 86 | 276 => 104 | 277 => 107 | n => n, fun | 70 => 87 | 3 => 3 | 0 => 0 | 4 => 4 | 9 => 9 | 20 => 20 | 72 => 89 | 37 => 70 | 164 => 124 | 5 => 5 | n => n, fun | n => n⟩
theorem Tryd.lays165 : Go.Proofs.Lays.n165 Tryd.prog Tryd.lays165_ren := {
  mixed := by kernel_rfl
  f165 := Tryd.func65.trans (congrArg some (by kernel_rfl))
  f240 := Tryd.func81.trans (congrArg some (by kernel_rfl))
  f241 := Tryd.func86.trans (congrArg some (by kernel_rfl))
  f276 := Tryd.func104.trans (congrArg some (by kernel_rfl))
  f277 := Tryd.func107.trans (congrArg some (by kernel_rfl))
  t0 := Tryd.underlying0
  a0 := Tryd.isAgg0
  z0 := Tryd.sizeOf0
  v0 := Tryd.zeroValue0
  t3 := Tryd.underlying3
  a3 := Tryd.isAgg3
  z3 := Tryd.sizeOf3
  v3 := Tryd.zeroValue3
  t4 := Tryd.underlying4
  a4 := Tryd.isAgg4
  z4 := Tryd.sizeOf4
  v4 := Tryd.zeroValue4
  t9 := Tryd.underlying9
  a9 := Tryd.isAgg9
  z9 := Tryd.sizeOf9
  v9 := Tryd.zeroValue9
  t20 := Tryd.underlying20
  a20 := Tryd.isAgg20
  z20 := Tryd.sizeOf20
  v20 := Tryd.zeroValue20
  t37 := Tryd.underlying70
  a37 := Tryd.isAgg70
  z37 := Tryd.sizeOf70
  v37 := Tryd.zeroValue70
  t70 := Tryd.underlying87
  a70 := Tryd.isAgg87
  z70 := Tryd.sizeOf87
  v70 := Tryd.zeroValue87
  t72 := Tryd.underlying89
  a72 := Tryd.isAgg89
  z72 := Tryd.sizeOf89
  v72 := Tryd.zeroValue89
  t164 := Tryd.underlying124
  a164 := Tryd.isAgg124
  z164 := Tryd.sizeOf124
  v164 := Tryd.zeroValue124 }
theorem Tryd.Builder_Extra_165 : Builder.Extra Tryd.prog Tryd.lays165_ren := {
  sizeBuilder := by kernel_rfl
  liesBuilder := by kernel_rfl
  t5 := Tryd.underlying5
  a5 := Tryd.isAgg5
  z5 := Tryd.sizeOf5
  v5 := Tryd.zeroValue5
  infoByte := by kernel_rfl
  cellsByte := by kernel_rfl
  sizeByte := by kernel_rfl
  neB5 := by decide }
open Go.RowKit in
theorem Tryd.Builder_Grow_fresh (B b n : Nat) (w : World) (hB : B ≤ b) (hbk : w.heap[b]? = some (.cells #[.pointer none, .slice none 0 0] 89 (0, 0))) (hBw : B ≤ w.heap.size) (hn : n ≤ 281474976710656) :
    Calls Tryd.prog 65 #[.pointer (some ⟨b, 0, none⟩), .int .i64 n] w fun e w' => e = .returned (.tuple #[]) ∧ (Lib.BuilderAt 89 5 B b (.pointer (some ⟨b, 0, none⟩)) [] w' ∧ Below B w w') := Any.Builder_Grow_fresh Tryd.lays165 Tryd.Builder_Extra_165 B b n w hB hbk hBw hn
def Tryd.lays159_ren : Go.Shelf.Ren := ⟨fun | 159 => 48 | 165 => 65 | 166 => 57 | 167 => 66 | 169 => 60 | 230 => 67 | 204 => 68 | 240 => 81 | 241 => 86 | 197 => 87 | 118 => 88 | 168 => 58 | 270 => 89 | 262 => 90 | 276 => 104 | 277 => 107 | 260 => 108 | 242 => 52 | 313 => 109 | 278 => 73 | 274 => 133 | 275 => 134 | n => n, fun | 9 => 9 | 4 => 4 | 3 => 3 | 5 => 5 | 72 => 89 | 0 => 0 | 76 => 92 | 75 => 91 | 107 => 102 | 70 => 87 | 20 => 20 | 37 => 70 | 127 => 109 | 21 => 21 | 105 => 110 | 164 => 124 | 162 => 131 | 203 => 129 | 119 => 132 | 46 => 115 | 139 => 160 | 138 => 159 | 51 => 103 | 160 => 161 | 208 => 192 | 206 => 190 | 80 => 76 | n => n, fun | 13 => 0 | 3 => 7 | 4 => 8 | n => n⟩
theorem Tryd.lays159 : Go.Proofs.Lays.n159 Tryd.prog Tryd.lays159_ren := {
  mixed := by kernel_rfl
  f118 := Tryd.func88.trans (congrArg some (by kernel_rfl))
  f159 := Tryd.func48.trans (congrArg some (by kernel_rfl))
  f165 := Tryd.func65.trans (congrArg some (by kernel_rfl))
  f166 := Tryd.func57.trans (congrArg some (by kernel_rfl))
  f167 := Tryd.func66.trans (congrArg some (by kernel_rfl))
  f168 := Tryd.func58.trans (congrArg some (by kernel_rfl))
  f169 := Tryd.func60.trans (congrArg some (by kernel_rfl))
  f197 := Tryd.func87.trans (congrArg some (by kernel_rfl))
  f204 := Tryd.func68.trans (congrArg some (by kernel_rfl))
  f230 := Tryd.func67.trans (congrArg some (by kernel_rfl))
  f240 := Tryd.func81.trans (congrArg some (by kernel_rfl))
  f241 := Tryd.func86.trans (congrArg some (by kernel_rfl))
  f242 := Tryd.func52.trans (congrArg some (by kernel_rfl))
  f260 := Tryd.func108.trans (congrArg some (by kernel_rfl))
  f262 := Tryd.func90.trans (congrArg some (by kernel_rfl))
  f270 := Tryd.func89.trans (congrArg some (by kernel_rfl))
  f274 := Tryd.func133.trans (congrArg some (by kernel_rfl))
  f275 := Tryd.func134.trans (congrArg some (by kernel_rfl))
  f276 := Tryd.func104.trans (congrArg some (by kernel_rfl))
  f277 := Tryd.func107.trans (congrArg some (by kernel_rfl))
  f278 := Tryd.func73.trans (congrArg some (by kernel_rfl))
  f313 := Tryd.func109.trans (congrArg some (by kernel_rfl))
  t0 := Tryd.underlying0
  a0 := Tryd.isAgg0
  z0 := Tryd.sizeOf0
  v0 := Tryd.zeroValue0
  t3 := Tryd.underlying3
  a3 := Tryd.isAgg3
  z3 := Tryd.sizeOf3
  v3 := Tryd.zeroValue3
  t4 := Tryd.underlying4
  a4 := Tryd.isAgg4
  z4 := Tryd.sizeOf4
  v4 := Tryd.zeroValue4
  t5 := Tryd.underlying5
  a5 := Tryd.isAgg5
  z5 := Tryd.sizeOf5
  v5 := Tryd.zeroValue5
  t9 := Tryd.underlying9
  a9 := Tryd.isAgg9
  z9 := Tryd.sizeOf9
  v9 := Tryd.zeroValue9
  t20 := Tryd.underlying20
  a20 := Tryd.isAgg20
  z20 := Tryd.sizeOf20
  v20 := Tryd.zeroValue20
  t21 := Tryd.underlying21
  a21 := Tryd.isAgg21
  z21 := Tryd.sizeOf21
  v21 := Tryd.zeroValue21
  t37 := Tryd.underlying70
  a37 := Tryd.isAgg70
  z37 := Tryd.sizeOf70
  v37 := Tryd.zeroValue70
  t46 := Tryd.underlying115
  a46 := Tryd.isAgg115
  z46 := Tryd.sizeOf115
  v46 := Tryd.zeroValue115
  t51 := Tryd.underlying103
  a51 := Tryd.isAgg103
  z51 := Tryd.sizeOf103
  v51 := Tryd.zeroValue103
  t70 := Tryd.underlying87
  a70 := Tryd.isAgg87
  z70 := Tryd.sizeOf87
  v70 := Tryd.zeroValue87
  t72 := Tryd.underlying89
  a72 := Tryd.isAgg89
  z72 := Tryd.sizeOf89
  v72 := Tryd.zeroValue89
  t75 := Tryd.underlying91
  a75 := Tryd.isAgg91
  z75 := Tryd.sizeOf91
  v75 := Tryd.zeroValue91
  t76 := Tryd.underlying92
  a76 := Tryd.isAgg92
  z76 := Tryd.sizeOf92
  v76 := Tryd.zeroValue92
  t105 := Tryd.underlying110
  a105 := Tryd.isAgg110
  z105 := Tryd.sizeOf110
  v105 := Tryd.zeroValue110
  t107 := Tryd.underlying102
  a107 := Tryd.isAgg102
  z107 := Tryd.sizeOf102
  v107 := Tryd.zeroValue102
  t119 := Tryd.underlying132
  a119 := Tryd.isAgg132
  z119 := Tryd.sizeOf132
  t127 := Tryd.underlying109
  a127 := Tryd.isAgg109
  z127 := Tryd.sizeOf109
  v127 := Tryd.zeroValue109
  t138 := Tryd.underlying159
  a138 := Tryd.isAgg159
  z138 := Tryd.sizeOf159
  v138 := Tryd.zeroValue159
  t139 := Tryd.underlying160
  a139 := Tryd.isAgg160
  z139 := Tryd.sizeOf160
  v139 := Tryd.zeroValue160
  t160 := Tryd.underlying161
  a160 := Tryd.isAgg161
  z160 := Tryd.sizeOf161
  v160 := Tryd.zeroValue161
  t162 := Tryd.underlying131
  a162 := Tryd.isAgg131
  z162 := Tryd.sizeOf131
  v162 := Tryd.zeroValue131
  t164 := Tryd.underlying124
  a164 := Tryd.isAgg124
  z164 := Tryd.sizeOf124
  v164 := Tryd.zeroValue124
  t203 := Tryd.underlying129
  a203 := Tryd.isAgg129
  z203 := Tryd.sizeOf129
  v203 := Tryd.zeroValue129
  t206 := Tryd.underlying190
  a206 := Tryd.isAgg190
  z206 := Tryd.sizeOf190
  v206 := Tryd.zeroValue190
  t208 := Tryd.underlying192
  a208 := Tryd.isAgg192
  z208 := Tryd.sizeOf192
  v208 := Tryd.zeroValue192
  g3 := by kernel_rfl
  g4 := by kernel_rfl
  g13 := by kernel_rfl }
theorem Tryd.Builder_Extra_159 : Builder.Extra Tryd.prog Tryd.lays159_ren := {
  sizeBuilder := by kernel_rfl
  liesBuilder := by kernel_rfl
  t5 := Tryd.underlying5
  a5 := Tryd.isAgg5
  z5 := Tryd.sizeOf5
  v5 := Tryd.zeroValue5
  infoByte := by kernel_rfl
  cellsByte := by kernel_rfl
  sizeByte := by kernel_rfl
  neB5 := by decide }
open Go.RowKit in
theorem Tryd.strings_ToLower_ascii (s : ByteArray) (w : World) (hs : s.size ≤ 140737488355328) (hascii : ∀ (j : Nat) (b : UInt8), s.data.toList[j]? = some b → b.toNat < 128) :
    Calls Tryd.prog 48 #[.string s] w fun e w' => e = .returned (.string ⟨(Lib.toLowerA s.data.toList).toArray⟩) ∧ Below w.heap.size w w' := Any.strings_ToLower_ascii Tryd.lays159 Tryd.Builder_Extra_159 s w hs hascii
def Tryd.lays156_ren : Go.Shelf.Ren := ⟨fun | 156 => 62 | 165 => 65 | 166 => 57 | 169 => 60 | 240 => 81 | 241 => 86 | 276 => 104 | 277 => 107 | n => n, fun | 31 => 49 | 9 => 9 | 3 => 3 | 4 => 4 | 0 => 0 | 20 => 20 | 72 => 89 | 76 => 92 | 70 => 87 | 37 => 70 | 75 => 91 | 127 => 109 | 164 => 124 | 5 => 5 | 80 => 76 | n => n, fun | n => n⟩
theorem Tryd.lays156 : Go.Proofs.Lays.n156 Tryd.prog Tryd.lays156_ren := {
  mixed := by kernel_rfl
  f156 := Tryd.func62.trans (congrArg some (by kernel_rfl))
  f165 := Tryd.func65.trans (congrArg some (by kernel_rfl))
  f166 := Tryd.func57.trans (congrArg some (by kernel_rfl))
  f169 := Tryd.func60.trans (congrArg some (by kernel_rfl))
  f240 := Tryd.func81.trans (congrArg some (by kernel_rfl))
  f241 := Tryd.func86.trans (congrArg some (by kernel_rfl))
  f276 := Tryd.func104.trans (congrArg some (by kernel_rfl))
  f277 := Tryd.func107.trans (congrArg some (by kernel_rfl))
  t0 := Tryd.underlying0
  a0 := Tryd.isAgg0
  z0 := Tryd.sizeOf0
  v0 := Tryd.zeroValue0
  t3 := Tryd.underlying3
  a3 := Tryd.isAgg3
  z3 := Tryd.sizeOf3
  v3 := Tryd.zeroValue3
  t4 := Tryd.underlying4
  a4 := Tryd.isAgg4
  z4 := Tryd.sizeOf4
  v4 := Tryd.zeroValue4
  t9 := Tryd.underlying9
  a9 := Tryd.isAgg9
  z9 := Tryd.sizeOf9
  v9 := Tryd.zeroValue9
  t20 := Tryd.underlying20
  a20 := Tryd.isAgg20
  z20 := Tryd.sizeOf20
  v20 := Tryd.zeroValue20
  t31 := Tryd.underlying49
  a31 := Tryd.isAgg49
  z31 := Tryd.sizeOf49
  v31 := Tryd.zeroValue49
  t37 := Tryd.underlying70
  a37 := Tryd.isAgg70
  z37 := Tryd.sizeOf70
  v37 := Tryd.zeroValue70
  t70 := Tryd.underlying87
  a70 := Tryd.isAgg87
  z70 := Tryd.sizeOf87
  v70 := Tryd.zeroValue87
  t72 := Tryd.underlying89
  a72 := Tryd.isAgg89
  z72 := Tryd.sizeOf89
  v72 := Tryd.zeroValue89
  t75 := Tryd.underlying91
  a75 := Tryd.isAgg91
  z75 := Tryd.sizeOf91
  v75 := Tryd.zeroValue91
  t76 := Tryd.underlying92
  a76 := Tryd.isAgg92
  z76 := Tryd.sizeOf92
  v76 := Tryd.zeroValue92
  t127 := Tryd.underlying109
  a127 := Tryd.isAgg109
  z127 := Tryd.sizeOf109
  v127 := Tryd.zeroValue109
  t164 := Tryd.underlying124
  a164 := Tryd.isAgg124
  z164 := Tryd.sizeOf124
  v164 := Tryd.zeroValue124 }
theorem Tryd.Builder_Extra_156 : Builder.Extra Tryd.prog Tryd.lays156_ren := {
  sizeBuilder := by kernel_rfl
  liesBuilder := by kernel_rfl
  t5 := Tryd.underlying5
  a5 := Tryd.isAgg5
  z5 := Tryd.sizeOf5
  v5 := Tryd.zeroValue5
  infoByte := by kernel_rfl
  cellsByte := by kernel_rfl
  sizeByte := by kernel_rfl
  neB5 := by decide }
open Go.RowKit in
theorem Tryd.strings_Join_none (a : Option Addr) (c : Nat) (sep : ByteArray) (w : World) :
    Calls Tryd.prog 62 #[.slice a 0 c, .string sep] w fun e w' => e = .returned (.string ⟨#[]⟩) ∧ w' = w := Any.strings_Join_none Tryd.lays156 Tryd.Builder_Extra_156 a c sep w
open Go.RowKit in
theorem Tryd.strings_Join (bk o c : Nat) (xs : List ByteArray) (sep : ByteArray) (w : World) (hcells : ∀ (j : Nat) x, xs[j]? = some x → w.cell? ⟨bk, o + j, none⟩ = some (.string x)) (hbk : bk < w.heap.size) (hN : xs.length ≤ 140737488355328) (hcap : xs.length ≤ c) (hlen : (Lib.join (xs.map (·.data.toList)) sep.data.toList).length ≤ 140737488355328) :
    Calls Tryd.prog 62 #[.slice (some ⟨bk, o, none⟩) xs.length c, .string sep] w fun e w' => e = .returned (.string ⟨(Lib.join (xs.map (·.data.toList)) sep.data.toList).toArray⟩) ∧ Below w.heap.size w w' := Any.strings_Join Tryd.lays156 Tryd.Builder_Extra_156 bk o c xs sep w hcells hbk hN hcap hlen
def Tryd.lays163_ren : Go.Shelf.Ren := ⟨fun | 163 => 96 | 237 => 112 | 199 => 93 | 238 => 113 | 272 => 137 | 261 => 110 | 273 => 138 | 197 => 87 | 315 => 150 | 311 => 135 | 312 => 136 | 271 => 151 | 260 => 108 | 120 => 157 | n => n, fun | 9 => 9 | 37 => 70 | 3 => 3 | 0 => 0 | 5 => 5 | 4 => 4 | 40 => 64 | 119 => 132 | 21 => 21 | 51 => 103 | 141 => 134 | 105 => 110 | 196 => 167 | 193 => 164 | 198 => 170 | 49 => 168 | 194 => 165 | 201 => 173 | 226 => 193 | 46 => 115 | 227 => 194 | 139 => 160 | 138 => 159 | n => n, fun | 0 => 5 | 6 => 4 | 3 => 7 | 4 => 8 | n => n⟩
theorem Tryd.lays163 : Go.Proofs.Lays.n163 Tryd.prog Tryd.lays163_ren := {
  mixed := by kernel_rfl
  f120 := Tryd.func157.trans (congrArg some (by kernel_rfl))
  f163 := Tryd.func96.trans (congrArg some (by kernel_rfl))
  f197 := Tryd.func87.trans (congrArg some (by kernel_rfl))
  f199 := Tryd.func93.trans (congrArg some (by kernel_rfl))
  f237 := Tryd.func112.trans (congrArg some (by kernel_rfl))
  f238 := Tryd.func113.trans (congrArg some (by kernel_rfl))
  f260 := Tryd.func108.trans (congrArg some (by kernel_rfl))
  f261 := Tryd.func110.trans (congrArg some (by kernel_rfl))
  f271 := Tryd.func151.trans (congrArg some (by kernel_rfl))
  f272 := Tryd.func137.trans (congrArg some (by kernel_rfl))
  f273 := Tryd.func138.trans (congrArg some (by kernel_rfl))
  f311 := Tryd.func135.trans (congrArg some (by kernel_rfl))
  f312 := Tryd.func136.trans (congrArg some (by kernel_rfl))
  f315 := Tryd.func150.trans (congrArg some (by kernel_rfl))
  t0 := Tryd.underlying0
  a0 := Tryd.isAgg0
  z0 := Tryd.sizeOf0
  v0 := Tryd.zeroValue0
  t3 := Tryd.underlying3
  a3 := Tryd.isAgg3
  z3 := Tryd.sizeOf3
  v3 := Tryd.zeroValue3
  t4 := Tryd.underlying4
  a4 := Tryd.isAgg4
  z4 := Tryd.sizeOf4
  v4 := Tryd.zeroValue4
  t5 := Tryd.underlying5
  a5 := Tryd.isAgg5
  z5 := Tryd.sizeOf5
  v5 := Tryd.zeroValue5
  t9 := Tryd.underlying9
  a9 := Tryd.isAgg9
  z9 := Tryd.sizeOf9
  v9 := Tryd.zeroValue9
  t21 := Tryd.underlying21
  a21 := Tryd.isAgg21
  z21 := Tryd.sizeOf21
  v21 := Tryd.zeroValue21
  t37 := Tryd.underlying70
  a37 := Tryd.isAgg70
  z37 := Tryd.sizeOf70
  v37 := Tryd.zeroValue70
  t40 := Tryd.underlying64
  a40 := Tryd.isAgg64
  z40 := Tryd.sizeOf64
  v40 := Tryd.zeroValue64
  t46 := Tryd.underlying115
  a46 := Tryd.isAgg115
  z46 := Tryd.sizeOf115
  v46 := Tryd.zeroValue115
  t49 := Tryd.underlying168
  a49 := Tryd.isAgg168
  z49 := Tryd.sizeOf168
  v49 := Tryd.zeroValue168
  t51 := Tryd.underlying103
  a51 := Tryd.isAgg103
  z51 := Tryd.sizeOf103
  v51 := Tryd.zeroValue103
  t105 := Tryd.underlying110
  a105 := Tryd.isAgg110
  z105 := Tryd.sizeOf110
  v105 := Tryd.zeroValue110
  t119 := Tryd.underlying132
  a119 := Tryd.isAgg132
  z119 := Tryd.sizeOf132
  t138 := Tryd.underlying159
  a138 := Tryd.isAgg159
  z138 := Tryd.sizeOf159
  v138 := Tryd.zeroValue159
  t139 := Tryd.underlying160
  a139 := Tryd.isAgg160
  z139 := Tryd.sizeOf160
  v139 := Tryd.zeroValue160
  t141 := Tryd.underlying134
  a141 := Tryd.isAgg134
  z141 := Tryd.sizeOf134
  v141 := Tryd.zeroValue134
  t193 := Tryd.underlying164
  a193 := Tryd.isAgg164
  z193 := Tryd.sizeOf164
  v193 := Tryd.zeroValue164
  t194 := Tryd.underlying165
  a194 := Tryd.isAgg165
  z194 := Tryd.sizeOf165
  v194 := Tryd.zeroValue165
  t196 := Tryd.underlying167
  a196 := Tryd.isAgg167
  z196 := Tryd.sizeOf167
  v196 := Tryd.zeroValue167
  t198 := Tryd.underlying170
  a198 := Tryd.isAgg170
  z198 := Tryd.sizeOf170
  v198 := Tryd.zeroValue170
  t201 := Tryd.underlying173
  a201 := Tryd.isAgg173
  z201 := Tryd.sizeOf173
  v201 := Tryd.zeroValue173
  t226 := Tryd.underlying193
  a226 := Tryd.isAgg193
  z226 := Tryd.sizeOf193
  v226 := Tryd.zeroValue193
  t227 := Tryd.underlying194
  a227 := Tryd.isAgg194
  z227 := Tryd.sizeOf194
  v227 := Tryd.zeroValue194
  g0 := by kernel_rfl
  g3 := by kernel_rfl
  g4 := by kernel_rfl
  g6 := by kernel_rfl }
theorem Tryd.Space_Extra_163 : Space.Extra Tryd.prog Tryd.lays163_ren := {
  gNamed := by kernel_rfl }
open Go.RowKit in
theorem Tryd.strings_TrimSpace (s : ByteArray) (w : World) (hs : s.size ≤ 9223372036854775807) (hascii : ∀ (j : Nat) b, s.data.toList[j]? = some b → b.toNat < 128) (htab : Lib.TabIs Tryd.prog w "strings.asciiSpace" .u8 Lib.asciiSpaceTab) :
    Calls Tryd.prog 96 #[.string s] w fun e w' => e = .returned (.string ⟨(Lib.trimSpace s.data.toList).toArray⟩) ∧ w' = Lib.bytesWorld w 5 s := Any.strings_TrimSpace Tryd.lays163 Tryd.Space_Extra_163 s w hs hascii htab
def Tryd.lays118_ren : Go.Shelf.Ren := ⟨fun | 118 => 88 | n => n, fun | 21 => 21 | 3 => 3 | 4 => 4 | n => n, fun | n => n⟩
theorem Tryd.lays118 : Go.Proofs.Lays.n118 Tryd.prog Tryd.lays118_ren := {
  mixed := by kernel_rfl
  f118 := Tryd.func88.trans (congrArg some (by kernel_rfl))
  t3 := Tryd.underlying3
  a3 := Tryd.isAgg3
  z3 := Tryd.sizeOf3
  v3 := Tryd.zeroValue3
  t4 := Tryd.underlying4
  a4 := Tryd.isAgg4
  z4 := Tryd.sizeOf4
  v4 := Tryd.zeroValue4
  t21 := Tryd.underlying21
  a21 := Tryd.isAgg21
  z21 := Tryd.sizeOf21
  v21 := Tryd.zeroValue21 }
theorem Tryd.utf8_RuneLen (r : Int) (w : World) :
    Calls Tryd.prog 88 #[.int .i32 r] w fun e w' => e = .returned (.int .i64 (Lib.runeLen r)) ∧ w' = w := Any.utf8_RuneLen Tryd.lays118 r w
def Tryd.lays120_ren : Go.Shelf.Ren := ⟨fun | 120 => 157 | n => n, fun | 5 => 5 | 4 => 4 | n => n, fun | n => n⟩
theorem Tryd.lays120 : Go.Proofs.Lays.n120 Tryd.prog Tryd.lays120_ren := {
  mixed := by kernel_rfl
  f120 := Tryd.func157.trans (congrArg some (by kernel_rfl))
  t4 := Tryd.underlying4
  a4 := Tryd.isAgg4
  z4 := Tryd.sizeOf4
  v4 := Tryd.zeroValue4
  t5 := Tryd.underlying5
  a5 := Tryd.isAgg5
  z5 := Tryd.sizeOf5
  v5 := Tryd.zeroValue5 }
theorem Tryd.utf8_RuneStart (b : Int) (w : World) (h0 : 0 ≤ b) (h1 : b < 256) :
    Calls Tryd.prog 157 #[.int .u8 b] w fun e w' => e = .returned (.bool (Lib.runeStart b)) ∧ w' = w := Any.utf8_RuneStart Tryd.lays120 b w h0 h1
def Tryd.lays128_ren : Go.Shelf.Ren := ⟨fun | 128 => 127 | n => n, fun | 51 => 103 | 3 => 3 | 4 => 4 | 46 => 115 | 5 => 5 | 9 => 9 | n => n, fun | n => n⟩
theorem Tryd.lays128 : Go.Proofs.Lays.n128 Tryd.prog Tryd.lays128_ren := {
  mixed := by kernel_rfl
  f128 := Tryd.func127.trans (congrArg some (by kernel_rfl))
  t3 := Tryd.underlying3
  a3 := Tryd.isAgg3
  z3 := Tryd.sizeOf3
  v3 := Tryd.zeroValue3
  t4 := Tryd.underlying4
  a4 := Tryd.isAgg4
  z4 := Tryd.sizeOf4
  v4 := Tryd.zeroValue4
  t5 := Tryd.underlying5
  a5 := Tryd.isAgg5
  z5 := Tryd.sizeOf5
  v5 := Tryd.zeroValue5
  t9 := Tryd.underlying9
  a9 := Tryd.isAgg9
  z9 := Tryd.sizeOf9
  v9 := Tryd.zeroValue9
  t46 := Tryd.underlying115
  a46 := Tryd.isAgg115
  z46 := Tryd.sizeOf115
  v46 := Tryd.zeroValue115
  t51 := Tryd.underlying103
  a51 := Tryd.isAgg103
  z51 := Tryd.sizeOf103
  v51 := Tryd.zeroValue103 }
theorem Tryd.bits_Len32 (x : Int) (w : World) (h0 : 0 ≤ x) (h1 : x ≤ 4294967295) :
    Calls Tryd.prog 127 #[.int .u32 x] w fun e w' => e = .returned (.int .i64 (Lib.bitLen x.toNat)) ∧ w' = w := Any.bits_Len32 Tryd.lays128 x w h0 h1
def Tryd.lays125_ren : Go.Shelf.Ren := ⟨fun | 125 => 103 | 128 => 127 | 129 => 128 | n => n, fun | 46 => 115 | 3 => 3 | 51 => 103 | 53 => 127 | 4 => 4 | 5 => 5 | 9 => 9 | n => n, fun | n => n⟩
theorem Tryd.lays125 : Go.Proofs.Lays.n125 Tryd.prog Tryd.lays125_ren := {
  mixed := by kernel_rfl
  f125 := Tryd.func103.trans (congrArg some (by kernel_rfl))
  f128 := Tryd.func127.trans (congrArg some (by kernel_rfl))
  f129 := Tryd.func128.trans (congrArg some (by kernel_rfl))
  t3 := Tryd.underlying3
  a3 := Tryd.isAgg3
  z3 := Tryd.sizeOf3
  v3 := Tryd.zeroValue3
  t4 := Tryd.underlying4
  a4 := Tryd.isAgg4
  z4 := Tryd.sizeOf4
  v4 := Tryd.zeroValue4
  t5 := Tryd.underlying5
  a5 := Tryd.isAgg5
  z5 := Tryd.sizeOf5
  v5 := Tryd.zeroValue5
  t9 := Tryd.underlying9
  a9 := Tryd.isAgg9
  z9 := Tryd.sizeOf9
  v9 := Tryd.zeroValue9
  t46 := Tryd.underlying115
  a46 := Tryd.isAgg115
  z46 := Tryd.sizeOf115
  v46 := Tryd.zeroValue115
  t51 := Tryd.underlying103
  a51 := Tryd.isAgg103
  z51 := Tryd.sizeOf103
  v51 := Tryd.zeroValue103
  t53 := Tryd.underlying127
  a53 := Tryd.isAgg127
  z53 := Tryd.sizeOf127
  v53 := Tryd.zeroValue127 }
theorem Tryd.bits_Len (x : Int) (w : World) (h0 : 0 ≤ x) (h1 : x ≤ 18446744073709551615) :
    Calls Tryd.prog 103 #[.int .u64 x] w fun e w' => e = .returned (.int .i64 (Lib.bitLen x.toNat)) ∧ w' = w := Any.bits_Len Tryd.lays125 x w h0 h1
def Tryd.lays215_ren : Go.Shelf.Ren := ⟨fun | 215 => 145 | n => n, fun | 3 => 3 | 4 => 4 | n => n, fun | n => n⟩
theorem Tryd.lays215 : Go.Proofs.Lays.n215 Tryd.prog Tryd.lays215_ren := {
  mixed := by kernel_rfl
  f215 := Tryd.func145.trans (congrArg some (by kernel_rfl))
  t3 := Tryd.underlying3
  a3 := Tryd.isAgg3
  z3 := Tryd.sizeOf3
  v3 := Tryd.zeroValue3
  t4 := Tryd.underlying4
  a4 := Tryd.isAgg4
  z4 := Tryd.sizeOf4
  v4 := Tryd.zeroValue4 }
open Go.RowKit in
theorem Tryd.cmp_isNaN_int (x : Int) (w : World) :
    Calls Tryd.prog 145 #[.int .i64 x] w fun e w' => e = .returned (.bool false) ∧ w' = w := Any.cmp_isNaN_int Tryd.lays215 x w
open Go.RowKit in
theorem Tryd.Builder_String_f (B b : Nat) (l : List UInt8) (w : World) (h : Lib.IsBuilderF 89 5 B b (Lib.byteCells l) w) (h0 : l ≠ []) :
    Calls Tryd.prog 60 #[.pointer (some ⟨b, 0, none⟩)] w fun e w' => e = .returned (.string ⟨l.toArray⟩) ∧ (Lib.IsBuilderF 89 5 B b (Lib.byteCells l) w' ∧ Below B w w') := Any.Builder_String_f Tryd.lays169 Tryd.Builder_Extra_169 B b l w h h0
open Go.RowKit in
theorem Tryd.Builder_String_empty_f (B b : Nat) (w : World) (h : Lib.IsBuilderF 89 5 B b [] w) (hBw : B ≤ w.heap.size) :
    Calls Tryd.prog 60 #[.pointer (some ⟨b, 0, none⟩)] w fun e w' => e = .returned (.string ⟨#[]⟩) ∧ (Lib.IsBuilderF 89 5 B b [] w' ∧ Below B w w') := Any.Builder_String_empty_f Tryd.lays169 Tryd.Builder_Extra_169 B b w h hBw
open Go.RowKit in
theorem Tryd.Builder_String_any_f (B b : Nat) (l : List UInt8) (w : World) (h : Lib.IsBuilderF 89 5 B b (Lib.byteCells l) w) (hBw : B ≤ w.heap.size) :
    Calls Tryd.prog 60 #[.pointer (some ⟨b, 0, none⟩)] w fun e w' => e = .returned (.string ⟨l.toArray⟩) ∧ (Lib.IsBuilderF 89 5 B b (Lib.byteCells l) w' ∧ Below B w w') := Any.Builder_String_any_f Tryd.lays169 Tryd.Builder_Extra_169 B b l w h hBw
open Go.RowKit in
theorem Tryd.Builder_String_k (B b : Nat) (l : List UInt8) (w : World) (h : Lib.IsBuilderF 89 5 B b (Lib.byteCells l) w) (h0 : l ≠ []) :
    Calls Tryd.prog 60 #[.pointer (some ⟨b, 0, none⟩)] w fun e w' => e = .returned (.string ⟨l.toArray⟩) ∧ (Lib.IsBuilderF 89 5 B b (Lib.byteCells l) w' ∧ Below B w w' ∧ Lib.OthersKept 5 (some b) w w') := Any.Builder_String_k Tryd.lays169 Tryd.Builder_Extra_169 B b l w h h0
open Go.RowKit in
theorem Tryd.Builder_String_empty_k (B b : Nat) (w : World) (h : Lib.IsBuilderF 89 5 B b [] w) (hBw : B ≤ w.heap.size) :
    Calls Tryd.prog 60 #[.pointer (some ⟨b, 0, none⟩)] w fun e w' => e = .returned (.string ⟨#[]⟩) ∧ (Lib.IsBuilderF 89 5 B b [] w' ∧ Below B w w' ∧ Lib.OthersKept 5 (some b) w w') := Any.Builder_String_empty_k Tryd.lays169 Tryd.Builder_Extra_169 B b w h hBw
open Go.RowKit in
theorem Tryd.Builder_String_any_k (B b : Nat) (l : List UInt8) (w : World) (h : Lib.IsBuilderF 89 5 B b (Lib.byteCells l) w) (hBw : B ≤ w.heap.size) :
    Calls Tryd.prog 60 #[.pointer (some ⟨b, 0, none⟩)] w fun e w' => e = .returned (.string ⟨l.toArray⟩) ∧ (Lib.IsBuilderF 89 5 B b (Lib.byteCells l) w' ∧ Below B w w' ∧ Lib.OthersKept 5 (some b) w w') := Any.Builder_String_any_k Tryd.lays169 Tryd.Builder_Extra_169 B b l w h hBw
def Tryd.lays278_ren : Go.Shelf.Ren := ⟨fun | 278 => 73 | n => n, fun | 37 => 70 | 21 => 21 | 51 => 103 | 4 => 4 | 46 => 115 | 5 => 5 | n => n, fun | n => n⟩
theorem Tryd.lays278 : Go.Proofs.Lays.n278 Tryd.prog Tryd.lays278_ren := {
  mixed := by kernel_rfl
  f278 := Tryd.func73.trans (congrArg some (by kernel_rfl))
  t4 := Tryd.underlying4
  a4 := Tryd.isAgg4
  z4 := Tryd.sizeOf4
  v4 := Tryd.zeroValue4
  t5 := Tryd.underlying5
  a5 := Tryd.isAgg5
  z5 := Tryd.sizeOf5
  v5 := Tryd.zeroValue5
  t21 := Tryd.underlying21
  a21 := Tryd.isAgg21
  z21 := Tryd.sizeOf21
  v21 := Tryd.zeroValue21
  t37 := Tryd.underlying70
  a37 := Tryd.isAgg70
  z37 := Tryd.sizeOf70
  v37 := Tryd.zeroValue70
  t46 := Tryd.underlying115
  a46 := Tryd.isAgg115
  z46 := Tryd.sizeOf115
  v46 := Tryd.zeroValue115
  t51 := Tryd.underlying103
  a51 := Tryd.isAgg103
  z51 := Tryd.sizeOf103
  v51 := Tryd.zeroValue103 }
open Go.RowKit in
theorem Tryd.utf8_appendRuneNonASCII_row (B : Nat) (v : Value) (n : Nat) (xs : List Value) (r : Int) (hr0 : -2147483648 ≤ r) (hr1 : r ≤ 2147483647) (hna : r < 0 ∨ 128 ≤ r) (w : World) (hown : w.ownsRowF B 5 1 v n xs) (hlen : n + 4 ≤ 140737488355328) (hBw : B ≤ w.heap.size) :
    Calls Tryd.prog 73 #[v, .int .i32 r] w fun e w' => ∃ v', e = .returned v' ∧ w'.ownsRowF B 5 1 v' (n + (Lib.runeCells r).length) (xs ++ Lib.runeCells r) ∧ ∃ o, (w.alloc o).grownBy w' v.ownBlock := Any.utf8_appendRuneNonASCII_row Tryd.lays278 (by kernel_rfl) B v n xs r hr0 hr1 hna w hown hlen hBw
def Tryd.lays242_ren : Go.Shelf.Ren := ⟨fun | 242 => 52 | 278 => 73 | n => n, fun | 37 => 70 | 21 => 21 | 51 => 103 | 4 => 4 | 5 => 5 | 46 => 115 | n => n, fun | n => n⟩
theorem Tryd.lays242 : Go.Proofs.Lays.n242 Tryd.prog Tryd.lays242_ren := {
  mixed := by kernel_rfl
  f242 := Tryd.func52.trans (congrArg some (by kernel_rfl))
  f278 := Tryd.func73.trans (congrArg some (by kernel_rfl))
  t4 := Tryd.underlying4
  a4 := Tryd.isAgg4
  z4 := Tryd.sizeOf4
  v4 := Tryd.zeroValue4
  t5 := Tryd.underlying5
  a5 := Tryd.isAgg5
  z5 := Tryd.sizeOf5
  v5 := Tryd.zeroValue5
  t21 := Tryd.underlying21
  a21 := Tryd.isAgg21
  z21 := Tryd.sizeOf21
  v21 := Tryd.zeroValue21
  t37 := Tryd.underlying70
  a37 := Tryd.isAgg70
  z37 := Tryd.sizeOf70
  v37 := Tryd.zeroValue70
  t46 := Tryd.underlying115
  a46 := Tryd.isAgg115
  z46 := Tryd.sizeOf115
  v46 := Tryd.zeroValue115
  t51 := Tryd.underlying103
  a51 := Tryd.isAgg103
  z51 := Tryd.sizeOf103
  v51 := Tryd.zeroValue103 }
open Go.RowKit in
theorem Tryd.utf8_AppendRune_row (B : Nat) (v : Value) (n : Nat) (xs : List Value) (r : Int) (hr0 : -2147483648 ≤ r) (hr1 : r ≤ 2147483647) (w : World) (hown : w.ownsRowF B 5 1 v n xs) (hlen : n + 4 ≤ 140737488355328) (hBw : B ≤ w.heap.size) :
    Calls Tryd.prog 52 #[v, .int .i32 r] w fun e w' => ∃ v', e = .returned v' ∧ w'.ownsRowF B 5 1 v' (n + (Lib.runeCells r).length) (xs ++ Lib.runeCells r) ∧ ∃ o, (w.alloc o).grownBy w' v.ownBlock := Any.utf8_AppendRune_row Tryd.lays242 (by kernel_rfl) B v n xs r hr0 hr1 w hown hlen hBw
open Go.RowKit in
theorem Tryd.utf8_appendRuneNonASCII_plain (B : Nat) (v : Value) (n : Nat) (xs : List Value) (r : Int) (hr0 : -2147483648 ≤ r) (hr1 : r ≤ 2147483647) (hna : r < 0 ∨ 128 ≤ r) (w : World) (hown : w.ownsRow B 5 1 v n xs) (hlen : n + 4 ≤ 140737488355328) (hBw : B ≤ w.heap.size) :
    Calls Tryd.prog 73 #[v, .int .i32 r] w fun e w' => ∃ v', e = .returned v' ∧ w'.ownsRow B 5 1 v' (n + (Lib.runeCells r).length) (xs ++ Lib.runeCells r) ∧ ∃ o, (w.alloc o).grownBy w' v.ownBlock := Any.utf8_appendRuneNonASCII_plain Tryd.lays278 (by kernel_rfl) B v n xs r hr0 hr1 hna w hown hlen hBw
open Go.RowKit in
theorem Tryd.utf8_AppendRune_plain (B : Nat) (v : Value) (n : Nat) (xs : List Value) (r : Int) (hr0 : -2147483648 ≤ r) (hr1 : r ≤ 2147483647) (w : World) (hown : w.ownsRow B 5 1 v n xs) (hlen : n + 4 ≤ 140737488355328) (hBw : B ≤ w.heap.size) :
    Calls Tryd.prog 52 #[v, .int .i32 r] w fun e w' => ∃ v', e = .returned v' ∧ w'.ownsRow B 5 1 v' (n + (Lib.runeCells r).length) (xs ++ Lib.runeCells r) ∧ ∃ o, (w.alloc o).grownBy w' v.ownBlock := Any.utf8_AppendRune_plain Tryd.lays242 (by kernel_rfl) B v n xs r hr0 hr1 w hown hlen hBw
open Go.RowKit in
theorem Tryd.Builder_grow_fresh_cap (B b n : Nat) (w : World) (hB : B ≤ b) (hbk : w.heap[b]? = some (.cells #[.pointer (some ⟨b, 0, none⟩), .slice none 0 0] 89 (0, 0))) (hBw : B ≤ w.heap.size) (hn : n ≤ 281474976710656) :
    Calls Tryd.prog 86 #[.pointer (some ⟨b, 0, none⟩), .int .i64 n] w fun e w' => e = .returned (.tuple #[]) ∧ (Lib.BuilderAt 89 5 B b (.pointer (some ⟨b, 0, none⟩)) [] w' ∧ Below B w w') ∧ ∃ p cap, w'.cell? ⟨b, 1, none⟩ = some (.slice p 0 cap) ∧ n ≤ cap := Any.Builder_grow_fresh_cap Tryd.lays241 Tryd.Builder_Extra_241 B b n w hB hbk hBw hn
open Go.RowKit in
theorem Tryd.Builder_Grow_fresh_cap (B b n : Nat) (w : World) (hB : B ≤ b) (hbk : w.heap[b]? = some (.cells #[.pointer none, .slice none 0 0] 89 (0, 0))) (hBw : B ≤ w.heap.size) (hn : n ≤ 281474976710656) :
    Calls Tryd.prog 65 #[.pointer (some ⟨b, 0, none⟩), .int .i64 n] w fun e w' => e = .returned (.tuple #[]) ∧ (Lib.BuilderAt 89 5 B b (.pointer (some ⟨b, 0, none⟩)) [] w' ∧ Below B w w') ∧ ∃ p cap, w'.cell? ⟨b, 1, none⟩ = some (.slice p 0 cap) ∧ n ≤ cap := Any.Builder_Grow_fresh_cap Tryd.lays165 Tryd.Builder_Extra_165 B b n w hB hbk hBw hn
def Tryd.lays129_ren : Go.Shelf.Ren := ⟨fun | 129 => 128 | n => n, fun | 53 => 127 | 3 => 3 | 4 => 4 | 46 => 115 | 5 => 5 | 9 => 9 | n => n, fun | n => n⟩
theorem Tryd.lays129 : Go.Proofs.Lays.n129 Tryd.prog Tryd.lays129_ren := {
  mixed := by kernel_rfl
  f129 := Tryd.func128.trans (congrArg some (by kernel_rfl))
  t3 := Tryd.underlying3
  a3 := Tryd.isAgg3
  z3 := Tryd.sizeOf3
  v3 := Tryd.zeroValue3
  t4 := Tryd.underlying4
  a4 := Tryd.isAgg4
  z4 := Tryd.sizeOf4
  v4 := Tryd.zeroValue4
  t5 := Tryd.underlying5
  a5 := Tryd.isAgg5
  z5 := Tryd.sizeOf5
  v5 := Tryd.zeroValue5
  t9 := Tryd.underlying9
  a9 := Tryd.isAgg9
  z9 := Tryd.sizeOf9
  v9 := Tryd.zeroValue9
  t46 := Tryd.underlying115
  a46 := Tryd.isAgg115
  z46 := Tryd.sizeOf115
  v46 := Tryd.zeroValue115
  t53 := Tryd.underlying127
  a53 := Tryd.isAgg127
  z53 := Tryd.sizeOf127
  v53 := Tryd.zeroValue127 }
theorem Tryd.bits_Len64 (x : Int) (w : World) (h0 : 0 ≤ x) (h1 : x ≤ 18446744073709551615) :
    Calls Tryd.prog 128 #[.int .u64 x] w fun e w' => e = .returned (.int .i64 (Lib.bitLen x.toNat)) ∧ w' = w := Any.bits_Len64 Tryd.lays129 x w h0 h1
def Tryd.lays317_ren : Go.Shelf.Ren := ⟨fun | 317 => 146 | n => n, fun | 3 => 3 | 46 => 115 | n => n, fun | n => n⟩
theorem Tryd.lays317 : Go.Proofs.Lays.n317 Tryd.prog Tryd.lays317_ren := {
  mixed := by kernel_rfl
  f317 := Tryd.func146.trans (congrArg some (by kernel_rfl))
  t3 := Tryd.underlying3
  a3 := Tryd.isAgg3
  z3 := Tryd.sizeOf3
  v3 := Tryd.zeroValue3
  t46 := Tryd.underlying115
  a46 := Tryd.isAgg115
  z46 := Tryd.sizeOf115
  v46 := Tryd.zeroValue115 }
open Go.Lib in
theorem Tryd.internal_strconv_log10Pow2 (x : Nat) (h : x ≤ 64) (w : World) :
    Calls Tryd.prog 146 #[.int .i64 x] w fun e w' => e = .returned (.int .i64 (Lib.l10 x)) ∧ w' = w := Any.internal_strconv_log10Pow2 Tryd.lays317 x h w
def Tryd.lays318_ren : Go.Shelf.Ren := ⟨fun | 318 => 147 | n => n, fun | 3 => 3 | 4 => 4 | n => n, fun | n => n⟩
theorem Tryd.lays318 : Go.Proofs.Lays.n318 Tryd.prog Tryd.lays318_ren := {
  mixed := by kernel_rfl
  f318 := Tryd.func147.trans (congrArg some (by kernel_rfl))
  t3 := Tryd.underlying3
  a3 := Tryd.isAgg3
  z3 := Tryd.sizeOf3
  v3 := Tryd.zeroValue3
  t4 := Tryd.underlying4
  a4 := Tryd.isAgg4
  z4 := Tryd.sizeOf4
  v4 := Tryd.zeroValue4 }
open Go.Lib in
theorem Tryd.internal_strconv_bool2_int (b : Bool) (w : World) :
    Calls Tryd.prog 147 #[.bool b] w fun e w' => e = .returned (.int .i64 (if b then 1 else 0)) ∧ w' = w := Any.internal_strconv_bool2_int Tryd.lays318 b w
def Tryd.lays283_ren : Go.Shelf.Ren := ⟨fun | 283 => 129 | n => n, fun | 3 => 3 | 9 => 9 | 4 => 4 | n => n, fun | n => n⟩
theorem Tryd.lays283 : Go.Proofs.Lays.n283 Tryd.prog Tryd.lays283_ren := {
  mixed := by kernel_rfl
  f283 := Tryd.func129.trans (congrArg some (by kernel_rfl))
  t3 := Tryd.underlying3
  a3 := Tryd.isAgg3
  z3 := Tryd.sizeOf3
  v3 := Tryd.zeroValue3
  t4 := Tryd.underlying4
  a4 := Tryd.isAgg4
  z4 := Tryd.sizeOf4
  v4 := Tryd.zeroValue4
  t9 := Tryd.underlying9
  a9 := Tryd.isAgg9
  z9 := Tryd.sizeOf9
  v9 := Tryd.zeroValue9 }
open Go.Lib in
theorem Tryd.internal_strconv_small (i : Nat) (h : i < 100) (w : World) :
    Calls Tryd.prog 129 #[.int .i64 i] w fun e w' => e = .returned (.string ⟨(Lib.decDigits i).toArray⟩) ∧ w' = w := Any.internal_strconv_small Tryd.lays283 i h w
def Tryd.laysM284_ren : Go.Shelf.Ren := ⟨fun | 284 => 130 | 129 => 128 | 317 => 146 | 318 => 147 | n => n, fun | 53 => 127 | 3 => 3 | 212 => 187 | 0 => 0 | 4 => 4 | 46 => 115 | 5 => 5 | 9 => 9 | n => n, fun | 17 => 9 | n => n⟩
theorem Tryd.laysM284 : Go.Proofs.LaysM.n284 Tryd.prog Tryd.laysM284_ren := {
  mixed := by kernel_rfl
  f129 := Tryd.func128.trans (congrArg some (by kernel_rfl))
  f284 := Tryd.func130.trans (congrArg some (by kernel_rfl))
  f317 := Tryd.func146.trans (congrArg some (by kernel_rfl))
  f318 := Tryd.func147.trans (congrArg some (by kernel_rfl))
  t0 := Tryd.underlying0
  a0 := Tryd.isAgg0
  z0 := Tryd.sizeOf0
  v0 := Tryd.zeroValue0
  t3 := Tryd.underlying3
  a3 := Tryd.isAgg3
  z3 := Tryd.sizeOf3
  v3 := Tryd.zeroValue3
  t4 := Tryd.underlying4
  a4 := Tryd.isAgg4
  z4 := Tryd.sizeOf4
  v4 := Tryd.zeroValue4
  t5 := Tryd.underlying5
  a5 := Tryd.isAgg5
  z5 := Tryd.sizeOf5
  v5 := Tryd.zeroValue5
  t9 := Tryd.underlying9
  a9 := Tryd.isAgg9
  z9 := Tryd.sizeOf9
  v9 := Tryd.zeroValue9
  t46 := Tryd.underlying115
  a46 := Tryd.isAgg115
  z46 := Tryd.sizeOf115
  v46 := Tryd.zeroValue115
  t53 := Tryd.underlying127
  a53 := Tryd.isAgg127
  z53 := Tryd.sizeOf127
  v53 := Tryd.zeroValue127
  t212 := Tryd.underlying187
  a212 := Tryd.isAgg187
  z212 := Tryd.sizeOf187
  v212 := Tryd.zeroValue187
  g17 := by kernel_rfl
  i0 := by kernel_rfl
  i3 := by kernel_rfl
  i4 := by kernel_rfl
  i5 := by kernel_rfl
  i9 := by kernel_rfl
  i46 := by kernel_rfl
  i53 := by kernel_rfl
  i212 := by kernel_rfl
  m17 := by kernel_rfl }
open Go.Lib in
theorem Tryd.internal_strconv_numDigits (u : Nat) (h1 : 1 ≤ u) (h2 : u < 18446744073709551616) (w : World) (htab : Lib.TabIs Tryd.prog w "internal/strconv.uint64pow10" .u64 Lib.pow10Tab) :
    Calls Tryd.prog 130 #[.int .u64 u] w fun e w' => e = .returned (.int .i64 (Lib.nDigits u)) ∧ w' = w := Any.internal_strconv_numDigits Tryd.laysM284 u h1 h2 w htab
def Tryd.lays285_ren : Go.Shelf.Ren := ⟨fun | 285 => 131 | n => n, fun | 37 => 70 | 53 => 127 | 3 => 3 | 4 => 4 | 51 => 103 | 9 => 9 | 5 => 5 | 0 => 0 | n => n, fun | n => n⟩
theorem Tryd.lays285 : Go.Proofs.Lays.n285 Tryd.prog Tryd.lays285_ren := {
  mixed := by kernel_rfl
  f285 := Tryd.func131.trans (congrArg some (by kernel_rfl))
  t0 := Tryd.underlying0
  a0 := Tryd.isAgg0
  z0 := Tryd.sizeOf0
  v0 := Tryd.zeroValue0
  t3 := Tryd.underlying3
  a3 := Tryd.isAgg3
  z3 := Tryd.sizeOf3
  v3 := Tryd.zeroValue3
  t4 := Tryd.underlying4
  a4 := Tryd.isAgg4
  z4 := Tryd.sizeOf4
  v4 := Tryd.zeroValue4
  t5 := Tryd.underlying5
  a5 := Tryd.isAgg5
  z5 := Tryd.sizeOf5
  v5 := Tryd.zeroValue5
  t9 := Tryd.underlying9
  a9 := Tryd.isAgg9
  z9 := Tryd.sizeOf9
  v9 := Tryd.zeroValue9
  t37 := Tryd.underlying70
  a37 := Tryd.isAgg70
  z37 := Tryd.sizeOf70
  v37 := Tryd.zeroValue70
  t51 := Tryd.underlying103
  a51 := Tryd.isAgg103
  z51 := Tryd.sizeOf103
  v51 := Tryd.zeroValue103
  t53 := Tryd.underlying127
  a53 := Tryd.isAgg127
  z53 := Tryd.sizeOf127
  v53 := Tryd.zeroValue127 }
open Go.RowKit Go.Sort Go.Lib in
theorem Tryd.internal_strconv_formatBase10 (blk off cap : Nat) (u : Nat) (d : Array UInt8) (w : World) (hH : Holds (fun (b : UInt8) => Value.int .u8 (b.toNat : Int)) w blk off d) (hu : u < 10 ^ d.size) (hu64 : u < 18446744073709551616) (hsz : d.size < 4611686018427387904) :
    Calls Tryd.prog 131 #[.slice (some ⟨blk, off, none⟩) d.size cap, .int .u64 u] w fun e w' =>
      e = .returned (.tuple #[]) ∧ ∃ (n v' : Nat) (dk : Array UInt8), w' = (putRow (fun (b : UInt8) => Value.int .u8 (b.toNat : Int)) w blk off dk).drewN n ∧ FmtInv d.size u 0 v' dk := Any.internal_strconv_formatBase10 Tryd.lays285 blk off cap u d w hH hu hu64 hsz
def Tryd.laysM246_ren : Go.Shelf.Ren := ⟨fun | 246 => 106 | 283 => 129 | 284 => 130 | 285 => 131 | 286 => 132 | 129 => 128 | 317 => 146 | 318 => 147 | 319 => 148 | 320 => 149 | 337 => 155 | 338 => 156 | n => n, fun | 2 => 2 | 3 => 3 | 9 => 9 | 4 => 4 | 171 => 154 | 0 => 0 | 53 => 127 | 37 => 70 | 5 => 5 | 173 => 156 | 212 => 187 | 51 => 103 | 20 => 20 | 213 => 188 | 46 => 115 | 232 => 200 | 233 => 153 | n => n, fun | 17 => 9 | 18 => 10 | 19 => 11 | n => n⟩
theorem Tryd.laysM246 : Go.Proofs.LaysM.n246 Tryd.prog Tryd.laysM246_ren := {
  mixed := by kernel_rfl
  f129 := Tryd.func128.trans (congrArg some (by kernel_rfl))
  f246 := Tryd.func106.trans (congrArg some (by kernel_rfl))
  f283 := Tryd.func129.trans (congrArg some (by kernel_rfl))
  f284 := Tryd.func130.trans (congrArg some (by kernel_rfl))
  f285 := Tryd.func131.trans (congrArg some (by kernel_rfl))
  f286 := Tryd.func132.trans (congrArg some (by kernel_rfl))
  f317 := Tryd.func146.trans (congrArg some (by kernel_rfl))
  f318 := Tryd.func147.trans (congrArg some (by kernel_rfl))
  f319 := Tryd.func148.trans (congrArg some (by kernel_rfl))
  f320 := Tryd.func149.trans (congrArg some (by kernel_rfl))
  f337 := Tryd.func155.trans (congrArg some (by kernel_rfl))
  f338 := Tryd.func156.trans (congrArg some (by kernel_rfl))
  t0 := Tryd.underlying0
  a0 := Tryd.isAgg0
  z0 := Tryd.sizeOf0
  v0 := Tryd.zeroValue0
  t2 := Tryd.underlying2
  a2 := Tryd.isAgg2
  z2 := Tryd.sizeOf2
  v2 := Tryd.zeroValue2
  t3 := Tryd.underlying3
  a3 := Tryd.isAgg3
  z3 := Tryd.sizeOf3
  v3 := Tryd.zeroValue3
  t4 := Tryd.underlying4
  a4 := Tryd.isAgg4
  z4 := Tryd.sizeOf4
  v4 := Tryd.zeroValue4
  t5 := Tryd.underlying5
  a5 := Tryd.isAgg5
  z5 := Tryd.sizeOf5
  v5 := Tryd.zeroValue5
  t9 := Tryd.underlying9
  a9 := Tryd.isAgg9
  z9 := Tryd.sizeOf9
  v9 := Tryd.zeroValue9
  t20 := Tryd.underlying20
  a20 := Tryd.isAgg20
  z20 := Tryd.sizeOf20
  v20 := Tryd.zeroValue20
  t37 := Tryd.underlying70
  a37 := Tryd.isAgg70
  z37 := Tryd.sizeOf70
  v37 := Tryd.zeroValue70
  t46 := Tryd.underlying115
  a46 := Tryd.isAgg115
  z46 := Tryd.sizeOf115
  v46 := Tryd.zeroValue115
  t51 := Tryd.underlying103
  a51 := Tryd.isAgg103
  z51 := Tryd.sizeOf103
  v51 := Tryd.zeroValue103
  t53 := Tryd.underlying127
  a53 := Tryd.isAgg127
  z53 := Tryd.sizeOf127
  v53 := Tryd.zeroValue127
  t171 := Tryd.underlying154
  a171 := Tryd.isAgg154
  z171 := Tryd.sizeOf154
  v171 := Tryd.zeroValue154
  t173 := Tryd.underlying156
  a173 := Tryd.isAgg156
  z173 := Tryd.sizeOf156
  v173 := Tryd.zeroValue156
  t212 := Tryd.underlying187
  a212 := Tryd.isAgg187
  z212 := Tryd.sizeOf187
  v212 := Tryd.zeroValue187
  t213 := Tryd.underlying188
  a213 := Tryd.isAgg188
  z213 := Tryd.sizeOf188
  t232 := Tryd.underlying200
  a232 := Tryd.isAgg200
  z232 := Tryd.sizeOf200
  v232 := Tryd.zeroValue200
  t233 := Tryd.underlying153
  a233 := Tryd.isAgg153
  z233 := Tryd.sizeOf153
  v233 := Tryd.zeroValue153
  g17 := by kernel_rfl
  g18 := by kernel_rfl
  g19 := by kernel_rfl
  i0 := by kernel_rfl
  i2 := by kernel_rfl
  i3 := by kernel_rfl
  i4 := by kernel_rfl
  i5 := by kernel_rfl
  i9 := by kernel_rfl
  i20 := by kernel_rfl
  i37 := by kernel_rfl
  i46 := by kernel_rfl
  i51 := by kernel_rfl
  i53 := by kernel_rfl
  i171 := by kernel_rfl
  i173 := by kernel_rfl
  i212 := by kernel_rfl
  i232 := by kernel_rfl
  i233 := by kernel_rfl
  m17 := by kernel_rfl
  m18 := by kernel_rfl
  m19 := by kernel_rfl }
open Go.RowKit Go.Sort Go.Lib in
theorem Tryd.internal_strconv_FormatInt_10 (n : Int) (h0 : -9223372036854775808 ≤ n) (h1 : n ≤ 9223372036854775807) (w : World) (htab : Lib.TabIs Tryd.prog w "internal/strconv.uint64pow10" .u64 Lib.pow10Tab) :
    Calls Tryd.prog 106 #[.int .i64 n, .int .i64 10] w fun e w' => e = .returned (.string ⟨(Lib.itoa n).toArray⟩) ∧ ∃ k os, w' = grow (w.drewN k) os := Any.internal_strconv_FormatInt_10 Tryd.laysM246 n h0 h1 w htab
def Tryd.lays246_ren : Go.Shelf.Ren := ⟨fun | 246 => 106 | 283 => 129 | 284 => 130 | 285 => 131 | 286 => 132 | 129 => 128 | 317 => 146 | 318 => 147 | 319 => 148 | 320 => 149 | 337 => 155 | 338 => 156 | n => n, fun | 2 => 2 | 3 => 3 | 9 => 9 | 4 => 4 | 171 => 154 | 0 => 0 | 53 => 127 | 37 => 70 | 5 => 5 | 173 => 156 | 212 => 187 | 51 => 103 | 20 => 20 | 213 => 188 | 46 => 115 | 232 => 200 | 233 => 153 | n => n, fun | 17 => 9 | 18 => 10 | 19 => 11 | n => n⟩
theorem Tryd.lays246 : Go.Proofs.Lays.n246 Tryd.prog Tryd.lays246_ren := {
  mixed := by kernel_rfl
  f129 := Tryd.func128.trans (congrArg some (by kernel_rfl))
  f246 := Tryd.func106.trans (congrArg some (by kernel_rfl))
  f283 := Tryd.func129.trans (congrArg some (by kernel_rfl))
  f284 := Tryd.func130.trans (congrArg some (by kernel_rfl))
  f285 := Tryd.func131.trans (congrArg some (by kernel_rfl))
  f286 := Tryd.func132.trans (congrArg some (by kernel_rfl))
  f317 := Tryd.func146.trans (congrArg some (by kernel_rfl))
  f318 := Tryd.func147.trans (congrArg some (by kernel_rfl))
  f319 := Tryd.func148.trans (congrArg some (by kernel_rfl))
  f320 := Tryd.func149.trans (congrArg some (by kernel_rfl))
  f337 := Tryd.func155.trans (congrArg some (by kernel_rfl))
  f338 := Tryd.func156.trans (congrArg some (by kernel_rfl))
  t0 := Tryd.underlying0
  a0 := Tryd.isAgg0
  z0 := Tryd.sizeOf0
  v0 := Tryd.zeroValue0
  t2 := Tryd.underlying2
  a2 := Tryd.isAgg2
  z2 := Tryd.sizeOf2
  v2 := Tryd.zeroValue2
  t3 := Tryd.underlying3
  a3 := Tryd.isAgg3
  z3 := Tryd.sizeOf3
  v3 := Tryd.zeroValue3
  t4 := Tryd.underlying4
  a4 := Tryd.isAgg4
  z4 := Tryd.sizeOf4
  v4 := Tryd.zeroValue4
  t5 := Tryd.underlying5
  a5 := Tryd.isAgg5
  z5 := Tryd.sizeOf5
  v5 := Tryd.zeroValue5
  t9 := Tryd.underlying9
  a9 := Tryd.isAgg9
  z9 := Tryd.sizeOf9
  v9 := Tryd.zeroValue9
  t20 := Tryd.underlying20
  a20 := Tryd.isAgg20
  z20 := Tryd.sizeOf20
  v20 := Tryd.zeroValue20
  t37 := Tryd.underlying70
  a37 := Tryd.isAgg70
  z37 := Tryd.sizeOf70
  v37 := Tryd.zeroValue70
  t46 := Tryd.underlying115
  a46 := Tryd.isAgg115
  z46 := Tryd.sizeOf115
  v46 := Tryd.zeroValue115
  t51 := Tryd.underlying103
  a51 := Tryd.isAgg103
  z51 := Tryd.sizeOf103
  v51 := Tryd.zeroValue103
  t53 := Tryd.underlying127
  a53 := Tryd.isAgg127
  z53 := Tryd.sizeOf127
  v53 := Tryd.zeroValue127
  t171 := Tryd.underlying154
  a171 := Tryd.isAgg154
  z171 := Tryd.sizeOf154
  v171 := Tryd.zeroValue154
  t173 := Tryd.underlying156
  a173 := Tryd.isAgg156
  z173 := Tryd.sizeOf156
  v173 := Tryd.zeroValue156
  t212 := Tryd.underlying187
  a212 := Tryd.isAgg187
  z212 := Tryd.sizeOf187
  v212 := Tryd.zeroValue187
  t213 := Tryd.underlying188
  a213 := Tryd.isAgg188
  z213 := Tryd.sizeOf188
  t232 := Tryd.underlying200
  a232 := Tryd.isAgg200
  z232 := Tryd.sizeOf200
  v232 := Tryd.zeroValue200
  t233 := Tryd.underlying153
  a233 := Tryd.isAgg153
  z233 := Tryd.sizeOf153
  v233 := Tryd.zeroValue153
  g17 := by kernel_rfl
  g18 := by kernel_rfl
  g19 := by kernel_rfl }
open Go.RowKit Go.Sort Go.Lib in
theorem Tryd.internal_strconv_FormatInt_10_small (i : Nat) (hi : i < 100) (w : World) :
    Calls Tryd.prog 106 #[.int .i64 i, .int .i64 10] w fun e w' => e = .returned (.string ⟨(Lib.decDigits i).toArray⟩) ∧ w' = w := Any.internal_strconv_FormatInt_10_small Tryd.lays246 i hi w
def Tryd.laysM243_ren : Go.Shelf.Ren := ⟨fun | 243 => 85 | 246 => 106 | 283 => 129 | 284 => 130 | 285 => 131 | 286 => 132 | 129 => 128 | 317 => 146 | 318 => 147 | 319 => 148 | 320 => 149 | 337 => 155 | 338 => 156 | n => n, fun | 3 => 3 | 9 => 9 | 2 => 2 | 4 => 4 | 171 => 154 | 0 => 0 | 53 => 127 | 37 => 70 | 5 => 5 | 173 => 156 | 212 => 187 | 51 => 103 | 20 => 20 | 213 => 188 | 46 => 115 | 232 => 200 | 233 => 153 | n => n, fun | 17 => 9 | 18 => 10 | 19 => 11 | n => n⟩
theorem Tryd.laysM243 : Go.Proofs.LaysM.n243 Tryd.prog Tryd.laysM243_ren := {
  mixed := by kernel_rfl
  f129 := Tryd.func128.trans (congrArg some (by kernel_rfl))
  f243 := Tryd.func85.trans (congrArg some (by kernel_rfl))
  f246 := Tryd.func106.trans (congrArg some (by kernel_rfl))
  f283 := Tryd.func129.trans (congrArg some (by kernel_rfl))
  f284 := Tryd.func130.trans (congrArg some (by kernel_rfl))
  f285 := Tryd.func131.trans (congrArg some (by kernel_rfl))
  f286 := Tryd.func132.trans (congrArg some (by kernel_rfl))
  f317 := Tryd.func146.trans (congrArg some (by kernel_rfl))
  f318 := Tryd.func147.trans (congrArg some (by kernel_rfl))
  f319 := Tryd.func148.trans (congrArg some (by kernel_rfl))
  f320 := Tryd.func149.trans (congrArg some (by kernel_rfl))
  f337 := Tryd.func155.trans (congrArg some (by kernel_rfl))
  f338 := Tryd.func156.trans (congrArg some (by kernel_rfl))
  t0 := Tryd.underlying0
  a0 := Tryd.isAgg0
  z0 := Tryd.sizeOf0
  v0 := Tryd.zeroValue0
  t2 := Tryd.underlying2
  a2 := Tryd.isAgg2
  z2 := Tryd.sizeOf2
  v2 := Tryd.zeroValue2
  t3 := Tryd.underlying3
  a3 := Tryd.isAgg3
  z3 := Tryd.sizeOf3
  v3 := Tryd.zeroValue3
  t4 := Tryd.underlying4
  a4 := Tryd.isAgg4
  z4 := Tryd.sizeOf4
  v4 := Tryd.zeroValue4
  t5 := Tryd.underlying5
  a5 := Tryd.isAgg5
  z5 := Tryd.sizeOf5
  v5 := Tryd.zeroValue5
  t9 := Tryd.underlying9
  a9 := Tryd.isAgg9
  z9 := Tryd.sizeOf9
  v9 := Tryd.zeroValue9
  t20 := Tryd.underlying20
  a20 := Tryd.isAgg20
  z20 := Tryd.sizeOf20
  v20 := Tryd.zeroValue20
  t37 := Tryd.underlying70
  a37 := Tryd.isAgg70
  z37 := Tryd.sizeOf70
  v37 := Tryd.zeroValue70
  t46 := Tryd.underlying115
  a46 := Tryd.isAgg115
  z46 := Tryd.sizeOf115
  v46 := Tryd.zeroValue115
  t51 := Tryd.underlying103
  a51 := Tryd.isAgg103
  z51 := Tryd.sizeOf103
  v51 := Tryd.zeroValue103
  t53 := Tryd.underlying127
  a53 := Tryd.isAgg127
  z53 := Tryd.sizeOf127
  v53 := Tryd.zeroValue127
  t171 := Tryd.underlying154
  a171 := Tryd.isAgg154
  z171 := Tryd.sizeOf154
  v171 := Tryd.zeroValue154
  t173 := Tryd.underlying156
  a173 := Tryd.isAgg156
  z173 := Tryd.sizeOf156
  v173 := Tryd.zeroValue156
  t212 := Tryd.underlying187
  a212 := Tryd.isAgg187
  z212 := Tryd.sizeOf187
  v212 := Tryd.zeroValue187
  t213 := Tryd.underlying188
  a213 := Tryd.isAgg188
  z213 := Tryd.sizeOf188
  t232 := Tryd.underlying200
  a232 := Tryd.isAgg200
  z232 := Tryd.sizeOf200
  v232 := Tryd.zeroValue200
  t233 := Tryd.underlying153
  a233 := Tryd.isAgg153
  z233 := Tryd.sizeOf153
  v233 := Tryd.zeroValue153
  g17 := by kernel_rfl
  g18 := by kernel_rfl
  g19 := by kernel_rfl
  i0 := by kernel_rfl
  i2 := by kernel_rfl
  i3 := by kernel_rfl
  i4 := by kernel_rfl
  i5 := by kernel_rfl
  i9 := by kernel_rfl
  i20 := by kernel_rfl
  i37 := by kernel_rfl
  i46 := by kernel_rfl
  i51 := by kernel_rfl
  i53 := by kernel_rfl
  i171 := by kernel_rfl
  i173 := by kernel_rfl
  i212 := by kernel_rfl
  i232 := by kernel_rfl
  i233 := by kernel_rfl
  m17 := by kernel_rfl
  m18 := by kernel_rfl
  m19 := by kernel_rfl }
open Go.RowKit Go.Sort Go.Lib in
theorem Tryd.internal_strconv_Itoa (n : Int) (h0 : -9223372036854775808 ≤ n) (h1 : n ≤ 9223372036854775807) (w : World) (htab : Lib.TabIs Tryd.prog w "internal/strconv.uint64pow10" .u64 Lib.pow10Tab) :
    Calls Tryd.prog 85 #[.int .i64 n] w fun e w' => e = .returned (.string ⟨(Lib.itoa n).toArray⟩) ∧ ∃ k os, w' = grow (w.drewN k) os := Any.internal_strconv_Itoa Tryd.laysM243 n h0 h1 w htab
def Tryd.lays243_ren : Go.Shelf.Ren := ⟨fun | 243 => 85 | 246 => 106 | 283 => 129 | 284 => 130 | 285 => 131 | 286 => 132 | 129 => 128 | 317 => 146 | 318 => 147 | 319 => 148 | 320 => 149 | 337 => 155 | 338 => 156 | n => n, fun | 3 => 3 | 9 => 9 | 2 => 2 | 4 => 4 | 171 => 154 | 0 => 0 | 53 => 127 | 37 => 70 | 5 => 5 | 173 => 156 | 212 => 187 | 51 => 103 | 20 => 20 | 213 => 188 | 46 => 115 | 232 => 200 | 233 => 153 | n => n, fun | 17 => 9 | 18 => 10 | 19 => 11 | n => n⟩
theorem Tryd.lays243 : Go.Proofs.Lays.n243 Tryd.prog Tryd.lays243_ren := {
  mixed := by kernel_rfl
  f129 := Tryd.func128.trans (congrArg some (by kernel_rfl))
  f243 := Tryd.func85.trans (congrArg some (by kernel_rfl))
  f246 := Tryd.func106.trans (congrArg some (by kernel_rfl))
  f283 := Tryd.func129.trans (congrArg some (by kernel_rfl))
  f284 := Tryd.func130.trans (congrArg some (by kernel_rfl))
  f285 := Tryd.func131.trans (congrArg some (by kernel_rfl))
  f286 := Tryd.func132.trans (congrArg some (by kernel_rfl))
  f317 := Tryd.func146.trans (congrArg some (by kernel_rfl))
  f318 := Tryd.func147.trans (congrArg some (by kernel_rfl))
  f319 := Tryd.func148.trans (congrArg some (by kernel_rfl))
  f320 := Tryd.func149.trans (congrArg some (by kernel_rfl))
  f337 := Tryd.func155.trans (congrArg some (by kernel_rfl))
  f338 := Tryd.func156.trans (congrArg some (by kernel_rfl))
  t0 := Tryd.underlying0
  a0 := Tryd.isAgg0
  z0 := Tryd.sizeOf0
  v0 := Tryd.zeroValue0
  t2 := Tryd.underlying2
  a2 := Tryd.isAgg2
  z2 := Tryd.sizeOf2
  v2 := Tryd.zeroValue2
  t3 := Tryd.underlying3
  a3 := Tryd.isAgg3
  z3 := Tryd.sizeOf3
  v3 := Tryd.zeroValue3
  t4 := Tryd.underlying4
  a4 := Tryd.isAgg4
  z4 := Tryd.sizeOf4
  v4 := Tryd.zeroValue4
  t5 := Tryd.underlying5
  a5 := Tryd.isAgg5
  z5 := Tryd.sizeOf5
  v5 := Tryd.zeroValue5
  t9 := Tryd.underlying9
  a9 := Tryd.isAgg9
  z9 := Tryd.sizeOf9
  v9 := Tryd.zeroValue9
  t20 := Tryd.underlying20
  a20 := Tryd.isAgg20
  z20 := Tryd.sizeOf20
  v20 := Tryd.zeroValue20
  t37 := Tryd.underlying70
  a37 := Tryd.isAgg70
  z37 := Tryd.sizeOf70
  v37 := Tryd.zeroValue70
  t46 := Tryd.underlying115
  a46 := Tryd.isAgg115
  z46 := Tryd.sizeOf115
  v46 := Tryd.zeroValue115
  t51 := Tryd.underlying103
  a51 := Tryd.isAgg103
  z51 := Tryd.sizeOf103
  v51 := Tryd.zeroValue103
  t53 := Tryd.underlying127
  a53 := Tryd.isAgg127
  z53 := Tryd.sizeOf127
  v53 := Tryd.zeroValue127
  t171 := Tryd.underlying154
  a171 := Tryd.isAgg154
  z171 := Tryd.sizeOf154
  v171 := Tryd.zeroValue154
  t173 := Tryd.underlying156
  a173 := Tryd.isAgg156
  z173 := Tryd.sizeOf156
  v173 := Tryd.zeroValue156
  t212 := Tryd.underlying187
  a212 := Tryd.isAgg187
  z212 := Tryd.sizeOf187
  v212 := Tryd.zeroValue187
  t213 := Tryd.underlying188
  a213 := Tryd.isAgg188
  z213 := Tryd.sizeOf188
  t232 := Tryd.underlying200
  a232 := Tryd.isAgg200
  z232 := Tryd.sizeOf200
  v232 := Tryd.zeroValue200
  t233 := Tryd.underlying153
  a233 := Tryd.isAgg153
  z233 := Tryd.sizeOf153
  v233 := Tryd.zeroValue153
  g17 := by kernel_rfl
  g18 := by kernel_rfl
  g19 := by kernel_rfl }
open Go.RowKit Go.Sort Go.Lib in
theorem Tryd.internal_strconv_Itoa_small (i : Nat) (hi : i < 100) (w : World) :
    Calls Tryd.prog 85 #[.int .i64 i] w fun e w' => e = .returned (.string ⟨(Lib.decDigits i).toArray⟩) ∧ w' = w := Any.internal_strconv_Itoa_small Tryd.lays243 i hi w
def Tryd.laysM171_ren : Go.Shelf.Ren := ⟨fun | 171 => 64 | 243 => 85 | 246 => 106 | 283 => 129 | 284 => 130 | 285 => 131 | 286 => 132 | 129 => 128 | 317 => 146 | 318 => 147 | 319 => 148 | 320 => 149 | 337 => 155 | 338 => 156 | n => n, fun | 3 => 3 | 9 => 9 | 2 => 2 | 4 => 4 | 171 => 154 | 0 => 0 | 53 => 127 | 37 => 70 | 5 => 5 | 173 => 156 | 212 => 187 | 51 => 103 | 20 => 20 | 213 => 188 | 46 => 115 | 232 => 200 | 233 => 153 | n => n, fun | 17 => 9 | 18 => 10 | 19 => 11 | n => n⟩
theorem Tryd.laysM171 : Go.Proofs.LaysM.n171 Tryd.prog Tryd.laysM171_ren := {
  mixed := by kernel_rfl
  f129 := Tryd.func128.trans (congrArg some (by kernel_rfl))
  f171 := Tryd.func64.trans (congrArg some (by kernel_rfl))
  f243 := Tryd.func85.trans (congrArg some (by kernel_rfl))
  f246 := Tryd.func106.trans (congrArg some (by kernel_rfl))
  f283 := Tryd.func129.trans (congrArg some (by kernel_rfl))
  f284 := Tryd.func130.trans (congrArg some (by kernel_rfl))
  f285 := Tryd.func131.trans (congrArg some (by kernel_rfl))
  f286 := Tryd.func132.trans (congrArg some (by kernel_rfl))
  f317 := Tryd.func146.trans (congrArg some (by kernel_rfl))
  f318 := Tryd.func147.trans (congrArg some (by kernel_rfl))
  f319 := Tryd.func148.trans (congrArg some (by kernel_rfl))
  f320 := Tryd.func149.trans (congrArg some (by kernel_rfl))
  f337 := Tryd.func155.trans (congrArg some (by kernel_rfl))
  f338 := Tryd.func156.trans (congrArg some (by kernel_rfl))
  t0 := Tryd.underlying0
  a0 := Tryd.isAgg0
  z0 := Tryd.sizeOf0
  v0 := Tryd.zeroValue0
  t2 := Tryd.underlying2
  a2 := Tryd.isAgg2
  z2 := Tryd.sizeOf2
  v2 := Tryd.zeroValue2
  t3 := Tryd.underlying3
  a3 := Tryd.isAgg3
  z3 := Tryd.sizeOf3
  v3 := Tryd.zeroValue3
  t4 := Tryd.underlying4
  a4 := Tryd.isAgg4
  z4 := Tryd.sizeOf4
  v4 := Tryd.zeroValue4
  t5 := Tryd.underlying5
  a5 := Tryd.isAgg5
  z5 := Tryd.sizeOf5
  v5 := Tryd.zeroValue5
  t9 := Tryd.underlying9
  a9 := Tryd.isAgg9
  z9 := Tryd.sizeOf9
  v9 := Tryd.zeroValue9
  t20 := Tryd.underlying20
  a20 := Tryd.isAgg20
  z20 := Tryd.sizeOf20
  v20 := Tryd.zeroValue20
  t37 := Tryd.underlying70
  a37 := Tryd.isAgg70
  z37 := Tryd.sizeOf70
  v37 := Tryd.zeroValue70
  t46 := Tryd.underlying115
  a46 := Tryd.isAgg115
  z46 := Tryd.sizeOf115
  v46 := Tryd.zeroValue115
  t51 := Tryd.underlying103
  a51 := Tryd.isAgg103
  z51 := Tryd.sizeOf103
  v51 := Tryd.zeroValue103
  t53 := Tryd.underlying127
  a53 := Tryd.isAgg127
  z53 := Tryd.sizeOf127
  v53 := Tryd.zeroValue127
  t171 := Tryd.underlying154
  a171 := Tryd.isAgg154
  z171 := Tryd.sizeOf154
  v171 := Tryd.zeroValue154
  t173 := Tryd.underlying156
  a173 := Tryd.isAgg156
  z173 := Tryd.sizeOf156
  v173 := Tryd.zeroValue156
  t212 := Tryd.underlying187
  a212 := Tryd.isAgg187
  z212 := Tryd.sizeOf187
  v212 := Tryd.zeroValue187
  t213 := Tryd.underlying188
  a213 := Tryd.isAgg188
  z213 := Tryd.sizeOf188
  t232 := Tryd.underlying200
  a232 := Tryd.isAgg200
  z232 := Tryd.sizeOf200
  v232 := Tryd.zeroValue200
  t233 := Tryd.underlying153
  a233 := Tryd.isAgg153
  z233 := Tryd.sizeOf153
  v233 := Tryd.zeroValue153
  g17 := by kernel_rfl
  g18 := by kernel_rfl
  g19 := by kernel_rfl
  i0 := by kernel_rfl
  i2 := by kernel_rfl
  i3 := by kernel_rfl
  i4 := by kernel_rfl
  i5 := by kernel_rfl
  i9 := by kernel_rfl
  i20 := by kernel_rfl
  i37 := by kernel_rfl
  i46 := by kernel_rfl
  i51 := by kernel_rfl
  i53 := by kernel_rfl
  i171 := by kernel_rfl
  i173 := by kernel_rfl
  i212 := by kernel_rfl
  i232 := by kernel_rfl
  i233 := by kernel_rfl
  m17 := by kernel_rfl
  m18 := by kernel_rfl
  m19 := by kernel_rfl }
open Go.RowKit Go.Sort Go.Lib in
theorem Tryd.strconv_Itoa (n : Int) (h0 : -9223372036854775808 ≤ n) (h1 : n ≤ 9223372036854775807) (w : World) (htab : Lib.TabIs Tryd.prog w "internal/strconv.uint64pow10" .u64 Lib.pow10Tab) :
    Calls Tryd.prog 64 #[.int .i64 n] w fun e w' => e = .returned (.string ⟨(Lib.itoa n).toArray⟩) ∧ ∃ k os, w' = grow (w.drewN k) os := Any.strconv_Itoa Tryd.laysM171 n h0 h1 w htab
def Tryd.lays171_ren : Go.Shelf.Ren := ⟨fun | 171 => 64 | 243 => 85 | 246 => 106 | 283 => 129 | 284 => 130 | 285 => 131 | 286 => 132 | 129 => 128 | 317 => 146 | 318 => 147 | 319 => 148 | 320 => 149 | 337 => 155 | 338 => 156 | n => n, fun | 3 => 3 | 9 => 9 | 2 => 2 | 4 => 4 | 171 => 154 | 0 => 0 | 53 => 127 | 37 => 70 | 5 => 5 | 173 => 156 | 212 => 187 | 51 => 103 | 20 => 20 | 213 => 188 | 46 => 115 | 232 => 200 | 233 => 153 | n => n, fun | 17 => 9 | 18 => 10 | 19 => 11 | n => n⟩
theorem Tryd.lays171 : Go.Proofs.Lays.n171 Tryd.prog Tryd.lays171_ren := {
  mixed := by kernel_rfl
  f129 := Tryd.func128.trans (congrArg some (by kernel_rfl))
  f171 := Tryd.func64.trans (congrArg some (by kernel_rfl))
  f243 := Tryd.func85.trans (congrArg some (by kernel_rfl))
  f246 := Tryd.func106.trans (congrArg some (by kernel_rfl))
  f283 := Tryd.func129.trans (congrArg some (by kernel_rfl))
  f284 := Tryd.func130.trans (congrArg some (by kernel_rfl))
  f285 := Tryd.func131.trans (congrArg some (by kernel_rfl))
  f286 := Tryd.func132.trans (congrArg some (by kernel_rfl))
  f317 := Tryd.func146.trans (congrArg some (by kernel_rfl))
  f318 := Tryd.func147.trans (congrArg some (by kernel_rfl))
  f319 := Tryd.func148.trans (congrArg some (by kernel_rfl))
  f320 := Tryd.func149.trans (congrArg some (by kernel_rfl))
  f337 := Tryd.func155.trans (congrArg some (by kernel_rfl))
  f338 := Tryd.func156.trans (congrArg some (by kernel_rfl))
  t0 := Tryd.underlying0
  a0 := Tryd.isAgg0
  z0 := Tryd.sizeOf0
  v0 := Tryd.zeroValue0
  t2 := Tryd.underlying2
  a2 := Tryd.isAgg2
  z2 := Tryd.sizeOf2
  v2 := Tryd.zeroValue2
  t3 := Tryd.underlying3
  a3 := Tryd.isAgg3
  z3 := Tryd.sizeOf3
  v3 := Tryd.zeroValue3
  t4 := Tryd.underlying4
  a4 := Tryd.isAgg4
  z4 := Tryd.sizeOf4
  v4 := Tryd.zeroValue4
  t5 := Tryd.underlying5
  a5 := Tryd.isAgg5
  z5 := Tryd.sizeOf5
  v5 := Tryd.zeroValue5
  t9 := Tryd.underlying9
  a9 := Tryd.isAgg9
  z9 := Tryd.sizeOf9
  v9 := Tryd.zeroValue9
  t20 := Tryd.underlying20
  a20 := Tryd.isAgg20
  z20 := Tryd.sizeOf20
  v20 := Tryd.zeroValue20
  t37 := Tryd.underlying70
  a37 := Tryd.isAgg70
  z37 := Tryd.sizeOf70
  v37 := Tryd.zeroValue70
  t46 := Tryd.underlying115
  a46 := Tryd.isAgg115
  z46 := Tryd.sizeOf115
  v46 := Tryd.zeroValue115
  t51 := Tryd.underlying103
  a51 := Tryd.isAgg103
  z51 := Tryd.sizeOf103
  v51 := Tryd.zeroValue103
  t53 := Tryd.underlying127
  a53 := Tryd.isAgg127
  z53 := Tryd.sizeOf127
  v53 := Tryd.zeroValue127
  t171 := Tryd.underlying154
  a171 := Tryd.isAgg154
  z171 := Tryd.sizeOf154
  v171 := Tryd.zeroValue154
  t173 := Tryd.underlying156
  a173 := Tryd.isAgg156
  z173 := Tryd.sizeOf156
  v173 := Tryd.zeroValue156
  t212 := Tryd.underlying187
  a212 := Tryd.isAgg187
  z212 := Tryd.sizeOf187
  v212 := Tryd.zeroValue187
  t213 := Tryd.underlying188
  a213 := Tryd.isAgg188
  z213 := Tryd.sizeOf188
  t232 := Tryd.underlying200
  a232 := Tryd.isAgg200
  z232 := Tryd.sizeOf200
  v232 := Tryd.zeroValue200
  t233 := Tryd.underlying153
  a233 := Tryd.isAgg153
  z233 := Tryd.sizeOf153
  v233 := Tryd.zeroValue153
  g17 := by kernel_rfl
  g18 := by kernel_rfl
  g19 := by kernel_rfl }
open Go.RowKit Go.Sort Go.Lib in
theorem Tryd.strconv_Itoa_small (i : Nat) (hi : i < 100) (w : World) :
    Calls Tryd.prog 64 #[.int .i64 i] w fun e w' => e = .returned (.string ⟨(Lib.decDigits i).toArray⟩) ∧ w' = w := Any.strconv_Itoa_small Tryd.lays171 i hi w
def Tryd.lays189_ren : Go.Shelf.Ren := ⟨fun | 189 => 80 | 125 => 103 | 257 => 102 | 128 => 127 | 129 => 128 | 294 => 118 | 295 => 119 | 296 => 120 | 297 => 121 | 298 => 122 | 299 => 123 | 216 => 124 | 300 => 125 | 301 => 126 | 328 => 140 | 329 => 141 | 330 => 142 | 331 => 143 | 332 => 144 | 215 => 145 | 343 => 154 | n => n, fun | 28 => 25 | 3 => 3 | 46 => 115 | 0 => 0 | 51 => 103 | 53 => 127 | 4 => 4 | 183 => 144 | 182 => 143 | 131 => 149 | 5 => 5 | 9 => 9 | 218 => 179 | 222 => 183 | 228 => 196 | 229 => 197 | n => n, fun | n => n⟩
theorem Tryd.lays189 : Go.Proofs.Lays.n189 Tryd.prog Tryd.lays189_ren := {
  mixed := by kernel_rfl
  f125 := Tryd.func103.trans (congrArg some (by kernel_rfl))
  f128 := Tryd.func127.trans (congrArg some (by kernel_rfl))
  f129 := Tryd.func128.trans (congrArg some (by kernel_rfl))
  f189 := Tryd.func80.trans (congrArg some (by kernel_rfl))
  f215 := Tryd.func145.trans (congrArg some (by kernel_rfl))
  f216 := Tryd.func124.trans (congrArg some (by kernel_rfl))
  f257 := Tryd.func102.trans (congrArg some (by kernel_rfl))
  f294 := Tryd.func118.trans (congrArg some (by kernel_rfl))
  f295 := Tryd.func119.trans (congrArg some (by kernel_rfl))
  f296 := Tryd.func120.trans (congrArg some (by kernel_rfl))
  f297 := Tryd.func121.trans (congrArg some (by kernel_rfl))
  f298 := Tryd.func122.trans (congrArg some (by kernel_rfl))
  f299 := Tryd.func123.trans (congrArg some (by kernel_rfl))
  f300 := Tryd.func125.trans (congrArg some (by kernel_rfl))
  f301 := Tryd.func126.trans (congrArg some (by kernel_rfl))
  f328 := Tryd.func140.trans (congrArg some (by kernel_rfl))
  f329 := Tryd.func141.trans (congrArg some (by kernel_rfl))
  f330 := Tryd.func142.trans (congrArg some (by kernel_rfl))
  f331 := Tryd.func143.trans (congrArg some (by kernel_rfl))
  f332 := Tryd.func144.trans (congrArg some (by kernel_rfl))
  f343 := Tryd.func154.trans (congrArg some (by kernel_rfl))
  t0 := Tryd.underlying0
  a0 := Tryd.isAgg0
  z0 := Tryd.sizeOf0
  v0 := Tryd.zeroValue0
  t3 := Tryd.underlying3
  a3 := Tryd.isAgg3
  z3 := Tryd.sizeOf3
  v3 := Tryd.zeroValue3
  t4 := Tryd.underlying4
  a4 := Tryd.isAgg4
  z4 := Tryd.sizeOf4
  v4 := Tryd.zeroValue4
  t5 := Tryd.underlying5
  a5 := Tryd.isAgg5
  z5 := Tryd.sizeOf5
  v5 := Tryd.zeroValue5
  t9 := Tryd.underlying9
  a9 := Tryd.isAgg9
  z9 := Tryd.sizeOf9
  v9 := Tryd.zeroValue9
  t28 := Tryd.underlying25
  a28 := Tryd.isAgg25
  z28 := Tryd.sizeOf25
  v28 := Tryd.zeroValue25
  t46 := Tryd.underlying115
  a46 := Tryd.isAgg115
  z46 := Tryd.sizeOf115
  v46 := Tryd.zeroValue115
  t51 := Tryd.underlying103
  a51 := Tryd.isAgg103
  z51 := Tryd.sizeOf103
  v51 := Tryd.zeroValue103
  t53 := Tryd.underlying127
  a53 := Tryd.isAgg127
  z53 := Tryd.sizeOf127
  v53 := Tryd.zeroValue127
  t131 := Tryd.underlying149
  a131 := Tryd.isAgg149
  z131 := Tryd.sizeOf149
  v131 := Tryd.zeroValue149
  t182 := Tryd.underlying143
  a182 := Tryd.isAgg143
  z182 := Tryd.sizeOf143
  v182 := Tryd.zeroValue143
  t183 := Tryd.underlying144
  a183 := Tryd.isAgg144
  z183 := Tryd.sizeOf144
  v183 := Tryd.zeroValue144
  t218 := Tryd.underlying179
  a218 := Tryd.isAgg179
  z218 := Tryd.sizeOf179
  v218 := Tryd.zeroValue179
  t222 := Tryd.underlying183
  a222 := Tryd.isAgg183
  z222 := Tryd.sizeOf183
  v222 := Tryd.zeroValue183
  t228 := Tryd.underlying196
  a228 := Tryd.isAgg196
  z228 := Tryd.sizeOf196
  v228 := Tryd.zeroValue196
  t229 := Tryd.underlying197
  a229 := Tryd.isAgg197
  z229 := Tryd.sizeOf197
  v229 := Tryd.zeroValue197 }
open Go.Sort Go.RowKit in
theorem Tryd.slices_Sort_int (blk off cap : Nat) (zs : List Int) (w : World) (hH : Holds (Value.int .i64) w blk off zs.toArray) (hblk : blk < w.heap.size) (hsz : zs.length < 4611686018427387904) :
    Calls Tryd.prog 80 #[.slice (some ⟨blk, off, none⟩) zs.length cap] w fun e w' =>
      e = .returned (.tuple #[]) ∧ ∃ n os, w' = grow (putRow (Value.int .i64) (Sort.ahead w n) blk off (zs.mergeSort fun x y => decide (x ≤ y)).toArray) os := Any.slices_Sort_int Tryd.lays189 blk off cap zs w hH hblk hsz
def Tryd.lays191_ren : Go.Shelf.Ren := ⟨fun | 191 => 56 | 189 => 80 | 125 => 103 | 257 => 102 | 128 => 127 | 129 => 128 | 294 => 118 | 295 => 119 | 296 => 120 | 297 => 121 | 298 => 122 | 299 => 123 | 216 => 124 | 300 => 125 | 301 => 126 | 328 => 140 | 329 => 141 | 330 => 142 | 331 => 143 | 332 => 144 | 215 => 145 | 343 => 154 | n => n, fun | 28 => 25 | 0 => 0 | 3 => 3 | 46 => 115 | 51 => 103 | 53 => 127 | 4 => 4 | 183 => 144 | 182 => 143 | 131 => 149 | 5 => 5 | 9 => 9 | 218 => 179 | 222 => 183 | 228 => 196 | 229 => 197 | n => n, fun | n => n⟩
theorem Tryd.lays191 : Go.Proofs.Lays.n191 Tryd.prog Tryd.lays191_ren := {
  mixed := by kernel_rfl
  f125 := Tryd.func103.trans (congrArg some (by kernel_rfl))
  f128 := Tryd.func127.trans (congrArg some (by kernel_rfl))
  f129 := Tryd.func128.trans (congrArg some (by kernel_rfl))
  f189 := Tryd.func80.trans (congrArg some (by kernel_rfl))
  f191 := Tryd.func56.trans (congrArg some (by kernel_rfl))
  f215 := Tryd.func145.trans (congrArg some (by kernel_rfl))
  f216 := Tryd.func124.trans (congrArg some (by kernel_rfl))
  f257 := Tryd.func102.trans (congrArg some (by kernel_rfl))
  f294 := Tryd.func118.trans (congrArg some (by kernel_rfl))
  f295 := Tryd.func119.trans (congrArg some (by kernel_rfl))
  f296 := Tryd.func120.trans (congrArg some (by kernel_rfl))
  f297 := Tryd.func121.trans (congrArg some (by kernel_rfl))
  f298 := Tryd.func122.trans (congrArg some (by kernel_rfl))
  f299 := Tryd.func123.trans (congrArg some (by kernel_rfl))
  f300 := Tryd.func125.trans (congrArg some (by kernel_rfl))
  f301 := Tryd.func126.trans (congrArg some (by kernel_rfl))
  f328 := Tryd.func140.trans (congrArg some (by kernel_rfl))
  f329 := Tryd.func141.trans (congrArg some (by kernel_rfl))
  f330 := Tryd.func142.trans (congrArg some (by kernel_rfl))
  f331 := Tryd.func143.trans (congrArg some (by kernel_rfl))
  f332 := Tryd.func144.trans (congrArg some (by kernel_rfl))
  f343 := Tryd.func154.trans (congrArg some (by kernel_rfl))
  t0 := Tryd.underlying0
  a0 := Tryd.isAgg0
  z0 := Tryd.sizeOf0
  v0 := Tryd.zeroValue0
  t3 := Tryd.underlying3
  a3 := Tryd.isAgg3
  z3 := Tryd.sizeOf3
  v3 := Tryd.zeroValue3
  t4 := Tryd.underlying4
  a4 := Tryd.isAgg4
  z4 := Tryd.sizeOf4
  v4 := Tryd.zeroValue4
  t5 := Tryd.underlying5
  a5 := Tryd.isAgg5
  z5 := Tryd.sizeOf5
  v5 := Tryd.zeroValue5
  t9 := Tryd.underlying9
  a9 := Tryd.isAgg9
  z9 := Tryd.sizeOf9
  v9 := Tryd.zeroValue9
  t28 := Tryd.underlying25
  a28 := Tryd.isAgg25
  z28 := Tryd.sizeOf25
  v28 := Tryd.zeroValue25
  t46 := Tryd.underlying115
  a46 := Tryd.isAgg115
  z46 := Tryd.sizeOf115
  v46 := Tryd.zeroValue115
  t51 := Tryd.underlying103
  a51 := Tryd.isAgg103
  z51 := Tryd.sizeOf103
  v51 := Tryd.zeroValue103
  t53 := Tryd.underlying127
  a53 := Tryd.isAgg127
  z53 := Tryd.sizeOf127
  v53 := Tryd.zeroValue127
  t131 := Tryd.underlying149
  a131 := Tryd.isAgg149
  z131 := Tryd.sizeOf149
  v131 := Tryd.zeroValue149
  t182 := Tryd.underlying143
  a182 := Tryd.isAgg143
  z182 := Tryd.sizeOf143
  v182 := Tryd.zeroValue143
  t183 := Tryd.underlying144
  a183 := Tryd.isAgg144
  z183 := Tryd.sizeOf144
  v183 := Tryd.zeroValue144
  t218 := Tryd.underlying179
  a218 := Tryd.isAgg179
  z218 := Tryd.sizeOf179
  v218 := Tryd.zeroValue179
  t222 := Tryd.underlying183
  a222 := Tryd.isAgg183
  z222 := Tryd.sizeOf183
  v222 := Tryd.zeroValue183
  t228 := Tryd.underlying196
  a228 := Tryd.isAgg196
  z228 := Tryd.sizeOf196
  v228 := Tryd.zeroValue196
  t229 := Tryd.underlying197
  a229 := Tryd.isAgg197
  z229 := Tryd.sizeOf197
  v229 := Tryd.zeroValue197 }
open Go.Sort Go.RowKit in
theorem Tryd.sort_Ints (blk off cap : Nat) (zs : List Int) (w : World) (hH : Holds (Value.int .i64) w blk off zs.toArray) (hblk : blk < w.heap.size) (hsz : zs.length < 4611686018427387904) :
    Calls Tryd.prog 56 #[.slice (some ⟨blk, off, none⟩) zs.length cap] w fun e w' =>
      e = .returned (.tuple #[]) ∧ ∃ n os, w' = grow (putRow (Value.int .i64) (Sort.ahead w n) blk off (zs.mergeSort fun x y => decide (x ≤ y)).toArray) os := Any.sort_Ints Tryd.lays191 blk off cap zs w hH hblk hsz
def Tryd.lays315_ren : Go.Shelf.Ren := ⟨fun | 315 => 150 | n => n, fun | 9 => 9 | 40 => 64 | 4 => 4 | 3 => 3 | 0 => 0 | 21 => 21 | n => n, fun | n => n⟩
theorem Tryd.lays315 : Go.Proofs.Lays.n315 Tryd.prog Tryd.lays315_ren := {
  mixed := by kernel_rfl
  f315 := Tryd.func150.trans (congrArg some (by kernel_rfl))
  t0 := Tryd.underlying0
  a0 := Tryd.isAgg0
  z0 := Tryd.sizeOf0
  v0 := Tryd.zeroValue0
  t3 := Tryd.underlying3
  a3 := Tryd.isAgg3
  z3 := Tryd.sizeOf3
  v3 := Tryd.zeroValue3
  t4 := Tryd.underlying4
  a4 := Tryd.isAgg4
  z4 := Tryd.sizeOf4
  v4 := Tryd.zeroValue4
  t9 := Tryd.underlying9
  a9 := Tryd.isAgg9
  z9 := Tryd.sizeOf9
  v9 := Tryd.zeroValue9
  t21 := Tryd.underlying21
  a21 := Tryd.isAgg21
  z21 := Tryd.sizeOf21
  v21 := Tryd.zeroValue21
  t40 := Tryd.underlying64
  a40 := Tryd.isAgg64
  z40 := Tryd.sizeOf64
  v40 := Tryd.zeroValue64 }
open Go.RowKit Go.Lib in
theorem Tryd.strings_indexFunc (g : Nat) (lb : Array Value) (eg : ∀ args w, (callFunc g args).run Tryd.prog w = .ok (.enter g args) w) (p : Nat → Bool) (truth : Bool) (s : ByteArray) (w : World) (hp : PredAt Tryd.prog g lb encR p w) :
    Calls Tryd.prog 150 #[.string s, .func (.func g) #[] lb, .bool truth] w fun e w' => e = .returned (.int .i64 (Lib.idxFunc p truth s)) ∧ Below w.heap.size w w' := Any.strings_indexFunc Tryd.lays315 g lb eg p truth s w hp
def Tryd.lays273_ren : Go.Shelf.Ren := ⟨fun | 273 => 138 | 271 => 151 | 120 => 157 | 197 => 87 | 260 => 108 | n => n, fun | 9 => 9 | 40 => 64 | 4 => 4 | 3 => 3 | 105 => 110 | 21 => 21 | 5 => 5 | 119 => 132 | 0 => 0 | 46 => 115 | 139 => 160 | 138 => 159 | n => n, fun | 3 => 7 | 4 => 8 | n => n⟩
theorem Tryd.lays273 : Go.Proofs.Lays.n273 Tryd.prog Tryd.lays273_ren := {
  mixed := by kernel_rfl
  f120 := Tryd.func157.trans (congrArg some (by kernel_rfl))
  f197 := Tryd.func87.trans (congrArg some (by kernel_rfl))
  f260 := Tryd.func108.trans (congrArg some (by kernel_rfl))
  f271 := Tryd.func151.trans (congrArg some (by kernel_rfl))
  f273 := Tryd.func138.trans (congrArg some (by kernel_rfl))
  t0 := Tryd.underlying0
  a0 := Tryd.isAgg0
  z0 := Tryd.sizeOf0
  v0 := Tryd.zeroValue0
  t3 := Tryd.underlying3
  a3 := Tryd.isAgg3
  z3 := Tryd.sizeOf3
  v3 := Tryd.zeroValue3
  t4 := Tryd.underlying4
  a4 := Tryd.isAgg4
  z4 := Tryd.sizeOf4
  v4 := Tryd.zeroValue4
  t5 := Tryd.underlying5
  a5 := Tryd.isAgg5
  z5 := Tryd.sizeOf5
  v5 := Tryd.zeroValue5
  t9 := Tryd.underlying9
  a9 := Tryd.isAgg9
  z9 := Tryd.sizeOf9
  v9 := Tryd.zeroValue9
  t21 := Tryd.underlying21
  a21 := Tryd.isAgg21
  z21 := Tryd.sizeOf21
  v21 := Tryd.zeroValue21
  t40 := Tryd.underlying64
  a40 := Tryd.isAgg64
  z40 := Tryd.sizeOf64
  v40 := Tryd.zeroValue64
  t46 := Tryd.underlying115
  a46 := Tryd.isAgg115
  z46 := Tryd.sizeOf115
  v46 := Tryd.zeroValue115
  t105 := Tryd.underlying110
  a105 := Tryd.isAgg110
  z105 := Tryd.sizeOf110
  v105 := Tryd.zeroValue110
  t119 := Tryd.underlying132
  a119 := Tryd.isAgg132
  z119 := Tryd.sizeOf132
  t138 := Tryd.underlying159
  a138 := Tryd.isAgg159
  z138 := Tryd.sizeOf159
  v138 := Tryd.zeroValue159
  t139 := Tryd.underlying160
  a139 := Tryd.isAgg160
  z139 := Tryd.sizeOf160
  v139 := Tryd.zeroValue160
  g3 := by kernel_rfl
  g4 := by kernel_rfl }
open Go.RowKit Go.Lib in
theorem Tryd.strings_lastIndexFunc (g : Nat) (lb : Array Value) (eg : ∀ args w, (callFunc g args).run Tryd.prog w = .ok (.enter g args) w) (p : Nat → Bool) (truth : Bool) (s : ByteArray) (w : World) (hs : s.size ≤ 9223372036854775807) (hT : Lib.Utf8Tabs 7 8 w) (hp : PredAt Tryd.prog g lb encR p w) :
    Calls Tryd.prog 138 #[.string s, .func (.func g) #[] lb, .bool truth] w fun e w' => e = .returned (.int .i64 (Lib.lastIdxFunc p truth s)) ∧ Below w.heap.size w w' := Any.strings_lastIndexFunc Tryd.lays273 g lb eg p truth s w hs hT hp
def Tryd.lays272_ren : Go.Shelf.Ren := ⟨fun | 272 => 137 | 315 => 150 | n => n, fun | 9 => 9 | 40 => 64 | 4 => 4 | 3 => 3 | 0 => 0 | 21 => 21 | n => n, fun | n => n⟩
theorem Tryd.lays272 : Go.Proofs.Lays.n272 Tryd.prog Tryd.lays272_ren := {
  mixed := by kernel_rfl
  f272 := Tryd.func137.trans (congrArg some (by kernel_rfl))
  f315 := Tryd.func150.trans (congrArg some (by kernel_rfl))
  t0 := Tryd.underlying0
  a0 := Tryd.isAgg0
  z0 := Tryd.sizeOf0
  v0 := Tryd.zeroValue0
  t3 := Tryd.underlying3
  a3 := Tryd.isAgg3
  z3 := Tryd.sizeOf3
  v3 := Tryd.zeroValue3
  t4 := Tryd.underlying4
  a4 := Tryd.isAgg4
  z4 := Tryd.sizeOf4
  v4 := Tryd.zeroValue4
  t9 := Tryd.underlying9
  a9 := Tryd.isAgg9
  z9 := Tryd.sizeOf9
  v9 := Tryd.zeroValue9
  t21 := Tryd.underlying21
  a21 := Tryd.isAgg21
  z21 := Tryd.sizeOf21
  v21 := Tryd.zeroValue21
  t40 := Tryd.underlying64
  a40 := Tryd.isAgg64
  z40 := Tryd.sizeOf64
  v40 := Tryd.zeroValue64 }
open Go.RowKit Go.Lib in
theorem Tryd.strings_TrimLeftFunc (g : Nat) (lb : Array Value) (eg : ∀ args w, (callFunc g args).run Tryd.prog w = .ok (.enter g args) w) (p : Nat → Bool) (s : ByteArray) (w : World) (hp : PredAt Tryd.prog g lb encR p w) :
    Calls Tryd.prog 137 #[.string s, .func (.func g) #[] lb] w fun e w' => e = .returned (.string (Lib.trimLeftF p s)) ∧ Below w.heap.size w w' := Any.strings_TrimLeftFunc Tryd.lays272 g lb eg p s w hp
def Tryd.lays238_ren : Go.Shelf.Ren := ⟨fun | 238 => 113 | 273 => 138 | 197 => 87 | 271 => 151 | 260 => 108 | 120 => 157 | n => n, fun | 9 => 9 | 40 => 64 | 4 => 4 | 3 => 3 | 105 => 110 | 21 => 21 | 5 => 5 | 119 => 132 | 0 => 0 | 46 => 115 | 139 => 160 | 138 => 159 | n => n, fun | 3 => 7 | 4 => 8 | n => n⟩
theorem Tryd.lays238 : Go.Proofs.Lays.n238 Tryd.prog Tryd.lays238_ren := {
  mixed := by kernel_rfl
  f120 := Tryd.func157.trans (congrArg some (by kernel_rfl))
  f197 := Tryd.func87.trans (congrArg some (by kernel_rfl))
  f238 := Tryd.func113.trans (congrArg some (by kernel_rfl))
  f260 := Tryd.func108.trans (congrArg some (by kernel_rfl))
  f271 := Tryd.func151.trans (congrArg some (by kernel_rfl))
  f273 := Tryd.func138.trans (congrArg some (by kernel_rfl))
  t0 := Tryd.underlying0
  a0 := Tryd.isAgg0
  z0 := Tryd.sizeOf0
  v0 := Tryd.zeroValue0
  t3 := Tryd.underlying3
  a3 := Tryd.isAgg3
  z3 := Tryd.sizeOf3
  v3 := Tryd.zeroValue3
  t4 := Tryd.underlying4
  a4 := Tryd.isAgg4
  z4 := Tryd.sizeOf4
  v4 := Tryd.zeroValue4
  t5 := Tryd.underlying5
  a5 := Tryd.isAgg5
  z5 := Tryd.sizeOf5
  v5 := Tryd.zeroValue5
  t9 := Tryd.underlying9
  a9 := Tryd.isAgg9
  z9 := Tryd.sizeOf9
  v9 := Tryd.zeroValue9
  t21 := Tryd.underlying21
  a21 := Tryd.isAgg21
  z21 := Tryd.sizeOf21
  v21 := Tryd.zeroValue21
  t40 := Tryd.underlying64
  a40 := Tryd.isAgg64
  z40 := Tryd.sizeOf64
  v40 := Tryd.zeroValue64
  t46 := Tryd.underlying115
  a46 := Tryd.isAgg115
  z46 := Tryd.sizeOf115
  v46 := Tryd.zeroValue115
  t105 := Tryd.underlying110
  a105 := Tryd.isAgg110
  z105 := Tryd.sizeOf110
  v105 := Tryd.zeroValue110
  t119 := Tryd.underlying132
  a119 := Tryd.isAgg132
  z119 := Tryd.sizeOf132
  t138 := Tryd.underlying159
  a138 := Tryd.isAgg159
  z138 := Tryd.sizeOf159
  v138 := Tryd.zeroValue159
  t139 := Tryd.underlying160
  a139 := Tryd.isAgg160
  z139 := Tryd.sizeOf160
  v139 := Tryd.zeroValue160
  g3 := by kernel_rfl
  g4 := by kernel_rfl }
open Go.RowKit Go.Lib in
theorem Tryd.strings_TrimRightFunc (g : Nat) (lb : Array Value) (eg : ∀ args w, (callFunc g args).run Tryd.prog w = .ok (.enter g args) w) (p : Nat → Bool) (s : ByteArray) (w : World) (hs : s.size ≤ 9223372036854775807) (hT : Lib.Utf8Tabs 7 8 w) (hp : PredAt Tryd.prog g lb encR p w) :
    Calls Tryd.prog 113 #[.string s, .func (.func g) #[] lb] w fun e w' => e = .returned (.string (Lib.trimRightF p s)) ∧ Below w.heap.size w w' := Any.strings_TrimRightFunc Tryd.lays238 g lb eg p s w hs hT hp
def Tryd.lays237_ren : Go.Shelf.Ren := ⟨fun | 237 => 112 | 272 => 137 | 238 => 113 | 315 => 150 | 273 => 138 | 197 => 87 | 271 => 151 | 260 => 108 | 120 => 157 | n => n, fun | 9 => 9 | 40 => 64 | 4 => 4 | 3 => 3 | 105 => 110 | 21 => 21 | 0 => 0 | 5 => 5 | 119 => 132 | 46 => 115 | 139 => 160 | 138 => 159 | n => n, fun | 3 => 7 | 4 => 8 | n => n⟩
theorem Tryd.lays237 : Go.Proofs.Lays.n237 Tryd.prog Tryd.lays237_ren := {
  mixed := by kernel_rfl
  f120 := Tryd.func157.trans (congrArg some (by kernel_rfl))
  f197 := Tryd.func87.trans (congrArg some (by kernel_rfl))
  f237 := Tryd.func112.trans (congrArg some (by kernel_rfl))
  f238 := Tryd.func113.trans (congrArg some (by kernel_rfl))
  f260 := Tryd.func108.trans (congrArg some (by kernel_rfl))
  f271 := Tryd.func151.trans (congrArg some (by kernel_rfl))
  f272 := Tryd.func137.trans (congrArg some (by kernel_rfl))
  f273 := Tryd.func138.trans (congrArg some (by kernel_rfl))
  f315 := Tryd.func150.trans (congrArg some (by kernel_rfl))
  t0 := Tryd.underlying0
  a0 := Tryd.isAgg0
  z0 := Tryd.sizeOf0
  v0 := Tryd.zeroValue0
  t3 := Tryd.underlying3
  a3 := Tryd.isAgg3
  z3 := Tryd.sizeOf3
  v3 := Tryd.zeroValue3
  t4 := Tryd.underlying4
  a4 := Tryd.isAgg4
  z4 := Tryd.sizeOf4
  v4 := Tryd.zeroValue4
  t5 := Tryd.underlying5
  a5 := Tryd.isAgg5
  z5 := Tryd.sizeOf5
  v5 := Tryd.zeroValue5
  t9 := Tryd.underlying9
  a9 := Tryd.isAgg9
  z9 := Tryd.sizeOf9
  v9 := Tryd.zeroValue9
  t21 := Tryd.underlying21
  a21 := Tryd.isAgg21
  z21 := Tryd.sizeOf21
  v21 := Tryd.zeroValue21
  t40 := Tryd.underlying64
  a40 := Tryd.isAgg64
  z40 := Tryd.sizeOf64
  v40 := Tryd.zeroValue64
  t46 := Tryd.underlying115
  a46 := Tryd.isAgg115
  z46 := Tryd.sizeOf115
  v46 := Tryd.zeroValue115
  t105 := Tryd.underlying110
  a105 := Tryd.isAgg110
  z105 := Tryd.sizeOf110
  v105 := Tryd.zeroValue110
  t119 := Tryd.underlying132
  a119 := Tryd.isAgg132
  z119 := Tryd.sizeOf132
  t138 := Tryd.underlying159
  a138 := Tryd.isAgg159
  z138 := Tryd.sizeOf159
  v138 := Tryd.zeroValue159
  t139 := Tryd.underlying160
  a139 := Tryd.isAgg160
  z139 := Tryd.sizeOf160
  v139 := Tryd.zeroValue160
  g3 := by kernel_rfl
  g4 := by kernel_rfl }
open Go.RowKit Go.Lib in
theorem Tryd.strings_TrimFunc (g : Nat) (lb : Array Value) (eg : ∀ args w, (callFunc g args).run Tryd.prog w = .ok (.enter g args) w) (p : Nat → Bool) (s : ByteArray) (w : World) (hs : s.size ≤ 9223372036854775807) (hT : Lib.Utf8Tabs 7 8 w) (hp : PredAt Tryd.prog g lb encR p w) :
    Calls Tryd.prog 112 #[.string s, .func (.func g) #[] lb] w fun e w' => e = .returned (.string (Lib.trimF p s)) ∧ Below w.heap.size w w' := Any.strings_TrimFunc Tryd.lays237 g lb eg p s w hs hT hp
open Go.RowKit Go.Lib in
theorem Tryd.strings_indexFunc_runes (g : Nat) (lb : Array Value) (eg : ∀ args w, (callFunc g args).run Tryd.prog w = .ok (.enter g args) w) (p : Nat → Bool) (truth : Bool) (s : ByteArray) (w : World) (hp : PredAtRunes Tryd.prog g lb p w) :
    Calls Tryd.prog 150 #[.string s, .func (.func g) #[] lb, .bool truth] w fun e w' => e = .returned (.int .i64 (Lib.idxFunc p truth s)) ∧ Below w.heap.size w w' := Any.strings_indexFunc_runes Tryd.lays315 g lb eg p truth s w hp
open Go.RowKit Go.Lib in
theorem Tryd.strings_lastIndexFunc_runes (g : Nat) (lb : Array Value) (eg : ∀ args w, (callFunc g args).run Tryd.prog w = .ok (.enter g args) w) (p : Nat → Bool) (truth : Bool) (s : ByteArray) (w : World) (hs : s.size ≤ 9223372036854775807) (hT : Lib.Utf8Tabs 7 8 w) (hp : PredAtRunes Tryd.prog g lb p w) :
    Calls Tryd.prog 138 #[.string s, .func (.func g) #[] lb, .bool truth] w fun e w' => e = .returned (.int .i64 (Lib.lastIdxFunc p truth s)) ∧ Below w.heap.size w w' := Any.strings_lastIndexFunc_runes Tryd.lays273 g lb eg p truth s w hs hT hp
open Go.RowKit Go.Lib in
theorem Tryd.strings_TrimLeftFunc_runes (g : Nat) (lb : Array Value) (eg : ∀ args w, (callFunc g args).run Tryd.prog w = .ok (.enter g args) w) (p : Nat → Bool) (s : ByteArray) (w : World) (hp : PredAtRunes Tryd.prog g lb p w) :
    Calls Tryd.prog 137 #[.string s, .func (.func g) #[] lb] w fun e w' => e = .returned (.string (Lib.trimLeftF p s)) ∧ Below w.heap.size w w' := Any.strings_TrimLeftFunc_runes Tryd.lays272 g lb eg p s w hp
open Go.RowKit Go.Lib in
theorem Tryd.strings_TrimRightFunc_runes (g : Nat) (lb : Array Value) (eg : ∀ args w, (callFunc g args).run Tryd.prog w = .ok (.enter g args) w) (p : Nat → Bool) (s : ByteArray) (w : World) (hs : s.size ≤ 9223372036854775807) (hT : Lib.Utf8Tabs 7 8 w) (hp : PredAtRunes Tryd.prog g lb p w) :
    Calls Tryd.prog 113 #[.string s, .func (.func g) #[] lb] w fun e w' => e = .returned (.string (Lib.trimRightF p s)) ∧ Below w.heap.size w w' := Any.strings_TrimRightFunc_runes Tryd.lays238 g lb eg p s w hs hT hp
open Go.RowKit Go.Lib in
theorem Tryd.strings_TrimFunc_runes (g : Nat) (lb : Array Value) (eg : ∀ args w, (callFunc g args).run Tryd.prog w = .ok (.enter g args) w) (p : Nat → Bool) (s : ByteArray) (w : World) (hs : s.size ≤ 9223372036854775807) (hT : Lib.Utf8Tabs 7 8 w) (hp : PredAtRunes Tryd.prog g lb p w) :
    Calls Tryd.prog 112 #[.string s, .func (.func g) #[] lb] w fun e w' => e = .returned (.string (Lib.trimF p s)) ∧ Below w.heap.size w w' := Any.strings_TrimFunc_runes Tryd.lays237 g lb eg p s w hs hT hp
def Tryd.lays198_ren : Go.Shelf.Ren := ⟨fun | 198 => 92 | 261 => 110 | 311 => 135 | 312 => 136 | n => n, fun | 21 => 21 | 4 => 4 | 141 => 134 | 0 => 0 | 196 => 167 | 193 => 164 | 3 => 3 | 51 => 103 | 198 => 170 | 49 => 168 | 194 => 165 | 201 => 173 | 226 => 193 | 46 => 115 | 227 => 194 | n => n, fun | 5 => 3 | n => n⟩
theorem Tryd.lays198 : Go.Proofs.Lays.n198 Tryd.prog Tryd.lays198_ren := {
  mixed := by kernel_rfl
  f198 := Tryd.func92.trans (congrArg some (by kernel_rfl))
  f261 := Tryd.func110.trans (congrArg some (by kernel_rfl))
  f311 := Tryd.func135.trans (congrArg some (by kernel_rfl))
  f312 := Tryd.func136.trans (congrArg some (by kernel_rfl))
  t0 := Tryd.underlying0
  a0 := Tryd.isAgg0
  z0 := Tryd.sizeOf0
  v0 := Tryd.zeroValue0
  t3 := Tryd.underlying3
  a3 := Tryd.isAgg3
  z3 := Tryd.sizeOf3
  v3 := Tryd.zeroValue3
  t4 := Tryd.underlying4
  a4 := Tryd.isAgg4
  z4 := Tryd.sizeOf4
  v4 := Tryd.zeroValue4
  t21 := Tryd.underlying21
  a21 := Tryd.isAgg21
  z21 := Tryd.sizeOf21
  v21 := Tryd.zeroValue21
  t46 := Tryd.underlying115
  a46 := Tryd.isAgg115
  z46 := Tryd.sizeOf115
  v46 := Tryd.zeroValue115
  t49 := Tryd.underlying168
  a49 := Tryd.isAgg168
  z49 := Tryd.sizeOf168
  v49 := Tryd.zeroValue168
  t51 := Tryd.underlying103
  a51 := Tryd.isAgg103
  z51 := Tryd.sizeOf103
  v51 := Tryd.zeroValue103
  t141 := Tryd.underlying134
  a141 := Tryd.isAgg134
  z141 := Tryd.sizeOf134
  v141 := Tryd.zeroValue134
  t193 := Tryd.underlying164
  a193 := Tryd.isAgg164
  z193 := Tryd.sizeOf164
  v193 := Tryd.zeroValue164
  t194 := Tryd.underlying165
  a194 := Tryd.isAgg165
  z194 := Tryd.sizeOf165
  v194 := Tryd.zeroValue165
  t196 := Tryd.underlying167
  a196 := Tryd.isAgg167
  z196 := Tryd.sizeOf167
  v196 := Tryd.zeroValue167
  t198 := Tryd.underlying170
  a198 := Tryd.isAgg170
  z198 := Tryd.sizeOf170
  v198 := Tryd.zeroValue170
  t201 := Tryd.underlying173
  a201 := Tryd.isAgg173
  z201 := Tryd.sizeOf173
  v201 := Tryd.zeroValue173
  t226 := Tryd.underlying193
  a226 := Tryd.isAgg193
  z226 := Tryd.sizeOf193
  v226 := Tryd.zeroValue193
  t227 := Tryd.underlying194
  a227 := Tryd.isAgg194
  z227 := Tryd.sizeOf194
  v227 := Tryd.zeroValue194
  g5 := by kernel_rfl }
open Go.RowKit Go.Lib in
theorem Tryd.unicode_IsDigit (r : Int) (w : World) (h : r ≤ 255) :
    Calls Tryd.prog 92 #[.int .i32 r] w fun e w' => e = .returned (.bool (Lib.isDigitL r)) ∧ w' = w := Any.unicode_IsDigit Tryd.lays198 r w h
def Tryd.lays199_ren : Go.Shelf.Ren := ⟨fun | 199 => 93 | 261 => 110 | 311 => 135 | 312 => 136 | n => n, fun | 21 => 21 | 4 => 4 | 51 => 103 | 141 => 134 | 0 => 0 | 196 => 167 | 193 => 164 | 3 => 3 | 198 => 170 | 49 => 168 | 194 => 165 | 201 => 173 | 226 => 193 | 46 => 115 | 227 => 194 | n => n, fun | 6 => 4 | n => n⟩
theorem Tryd.lays199 : Go.Proofs.Lays.n199 Tryd.prog Tryd.lays199_ren := {
  mixed := by kernel_rfl
  f199 := Tryd.func93.trans (congrArg some (by kernel_rfl))
  f261 := Tryd.func110.trans (congrArg some (by kernel_rfl))
  f311 := Tryd.func135.trans (congrArg some (by kernel_rfl))
  f312 := Tryd.func136.trans (congrArg some (by kernel_rfl))
  t0 := Tryd.underlying0
  a0 := Tryd.isAgg0
  z0 := Tryd.sizeOf0
  v0 := Tryd.zeroValue0
  t3 := Tryd.underlying3
  a3 := Tryd.isAgg3
  z3 := Tryd.sizeOf3
  v3 := Tryd.zeroValue3
  t4 := Tryd.underlying4
  a4 := Tryd.isAgg4
  z4 := Tryd.sizeOf4
  v4 := Tryd.zeroValue4
  t21 := Tryd.underlying21
  a21 := Tryd.isAgg21
  z21 := Tryd.sizeOf21
  v21 := Tryd.zeroValue21
  t46 := Tryd.underlying115
  a46 := Tryd.isAgg115
  z46 := Tryd.sizeOf115
  v46 := Tryd.zeroValue115
  t49 := Tryd.underlying168
  a49 := Tryd.isAgg168
  z49 := Tryd.sizeOf168
  v49 := Tryd.zeroValue168
  t51 := Tryd.underlying103
  a51 := Tryd.isAgg103
  z51 := Tryd.sizeOf103
  v51 := Tryd.zeroValue103
  t141 := Tryd.underlying134
  a141 := Tryd.isAgg134
  z141 := Tryd.sizeOf134
  v141 := Tryd.zeroValue134
  t193 := Tryd.underlying164
  a193 := Tryd.isAgg164
  z193 := Tryd.sizeOf164
  v193 := Tryd.zeroValue164
  t194 := Tryd.underlying165
  a194 := Tryd.isAgg165
  z194 := Tryd.sizeOf165
  v194 := Tryd.zeroValue165
  t196 := Tryd.underlying167
  a196 := Tryd.isAgg167
  z196 := Tryd.sizeOf167
  v196 := Tryd.zeroValue167
  t198 := Tryd.underlying170
  a198 := Tryd.isAgg170
  z198 := Tryd.sizeOf170
  v198 := Tryd.zeroValue170
  t201 := Tryd.underlying173
  a201 := Tryd.isAgg173
  z201 := Tryd.sizeOf173
  v201 := Tryd.zeroValue173
  t226 := Tryd.underlying193
  a226 := Tryd.isAgg193
  z226 := Tryd.sizeOf193
  v226 := Tryd.zeroValue193
  t227 := Tryd.underlying194
  a227 := Tryd.isAgg194
  z227 := Tryd.sizeOf194
  v227 := Tryd.zeroValue194
  g6 := by kernel_rfl }
open Go.RowKit Go.Lib in
theorem Tryd.unicode_IsSpace (r : Int) (w : World) (h0 : 0 ≤ r) (h : r ≤ 255) :
    Calls Tryd.prog 93 #[.int .i32 r] w fun e w' => e = .returned (.bool (Lib.isSpaceL r)) ∧ w' = w := Any.unicode_IsSpace Tryd.lays199 r w h0 h
def Tryd.lays203_ren : Go.Shelf.Ren := ⟨fun | 203 => 71 | 262 => 90 | 313 => 109 | 274 => 133 | 275 => 134 | n => n, fun | 21 => 21 | 4 => 4 | 3 => 3 | 162 => 131 | 203 => 129 | 160 => 161 | 46 => 115 | 0 => 0 | 208 => 192 | 51 => 103 | 206 => 190 | n => n, fun | 13 => 0 | n => n⟩
theorem Tryd.lays203 : Go.Proofs.Lays.n203 Tryd.prog Tryd.lays203_ren := {
  mixed := by kernel_rfl
  f203 := Tryd.func71.trans (congrArg some (by kernel_rfl))
  f262 := Tryd.func90.trans (congrArg some (by kernel_rfl))
  f274 := Tryd.func133.trans (congrArg some (by kernel_rfl))
  f275 := Tryd.func134.trans (congrArg some (by kernel_rfl))
  f313 := Tryd.func109.trans (congrArg some (by kernel_rfl))
  t0 := Tryd.underlying0
  a0 := Tryd.isAgg0
  z0 := Tryd.sizeOf0
  v0 := Tryd.zeroValue0
  t3 := Tryd.underlying3
  a3 := Tryd.isAgg3
  z3 := Tryd.sizeOf3
  v3 := Tryd.zeroValue3
  t4 := Tryd.underlying4
  a4 := Tryd.isAgg4
  z4 := Tryd.sizeOf4
  v4 := Tryd.zeroValue4
  t21 := Tryd.underlying21
  a21 := Tryd.isAgg21
  z21 := Tryd.sizeOf21
  v21 := Tryd.zeroValue21
  t46 := Tryd.underlying115
  a46 := Tryd.isAgg115
  z46 := Tryd.sizeOf115
  v46 := Tryd.zeroValue115
  t51 := Tryd.underlying103
  a51 := Tryd.isAgg103
  z51 := Tryd.sizeOf103
  v51 := Tryd.zeroValue103
  t160 := Tryd.underlying161
  a160 := Tryd.isAgg161
  z160 := Tryd.sizeOf161
  v160 := Tryd.zeroValue161
  t162 := Tryd.underlying131
  a162 := Tryd.isAgg131
  z162 := Tryd.sizeOf131
  v162 := Tryd.zeroValue131
  t203 := Tryd.underlying129
  a203 := Tryd.isAgg129
  z203 := Tryd.sizeOf129
  v203 := Tryd.zeroValue129
  t206 := Tryd.underlying190
  a206 := Tryd.isAgg190
  z206 := Tryd.sizeOf190
  v206 := Tryd.zeroValue190
  t208 := Tryd.underlying192
  a208 := Tryd.isAgg192
  z208 := Tryd.sizeOf192
  v208 := Tryd.zeroValue192
  g13 := by kernel_rfl }
open Go.RowKit Go.Lib in
theorem Tryd.unicode_ToUpper (r : Int) (w : World) (h : r ≤ 127) :
    Calls Tryd.prog 71 #[.int .i32 r] w fun e w' => e = .returned (.int .i32 (Lib.toUpperR r)) ∧ w' = w := Any.unicode_ToUpper Tryd.lays203 r w h
def Tryd.lays204_ren : Go.Shelf.Ren := ⟨fun | 204 => 68 | 262 => 90 | 313 => 109 | 274 => 133 | 275 => 134 | n => n, fun | 21 => 21 | 4 => 4 | 3 => 3 | 162 => 131 | 203 => 129 | 160 => 161 | 46 => 115 | 0 => 0 | 208 => 192 | 51 => 103 | 206 => 190 | n => n, fun | 13 => 0 | n => n⟩
theorem Tryd.lays204 : Go.Proofs.Lays.n204 Tryd.prog Tryd.lays204_ren := {
  mixed := by kernel_rfl
  f204 := Tryd.func68.trans (congrArg some (by kernel_rfl))
  f262 := Tryd.func90.trans (congrArg some (by kernel_rfl))
  f274 := Tryd.func133.trans (congrArg some (by kernel_rfl))
  f275 := Tryd.func134.trans (congrArg some (by kernel_rfl))
  f313 := Tryd.func109.trans (congrArg some (by kernel_rfl))
  t0 := Tryd.underlying0
  a0 := Tryd.isAgg0
  z0 := Tryd.sizeOf0
  v0 := Tryd.zeroValue0
  t3 := Tryd.underlying3
  a3 := Tryd.isAgg3
  z3 := Tryd.sizeOf3
  v3 := Tryd.zeroValue3
  t4 := Tryd.underlying4
  a4 := Tryd.isAgg4
  z4 := Tryd.sizeOf4
  v4 := Tryd.zeroValue4
  t21 := Tryd.underlying21
  a21 := Tryd.isAgg21
  z21 := Tryd.sizeOf21
  v21 := Tryd.zeroValue21
  t46 := Tryd.underlying115
  a46 := Tryd.isAgg115
  z46 := Tryd.sizeOf115
  v46 := Tryd.zeroValue115
  t51 := Tryd.underlying103
  a51 := Tryd.isAgg103
  z51 := Tryd.sizeOf103
  v51 := Tryd.zeroValue103
  t160 := Tryd.underlying161
  a160 := Tryd.isAgg161
  z160 := Tryd.sizeOf161
  v160 := Tryd.zeroValue161
  t162 := Tryd.underlying131
  a162 := Tryd.isAgg131
  z162 := Tryd.sizeOf131
  v162 := Tryd.zeroValue131
  t203 := Tryd.underlying129
  a203 := Tryd.isAgg129
  z203 := Tryd.sizeOf129
  v203 := Tryd.zeroValue129
  t206 := Tryd.underlying190
  a206 := Tryd.isAgg190
  z206 := Tryd.sizeOf190
  v206 := Tryd.zeroValue190
  t208 := Tryd.underlying192
  a208 := Tryd.isAgg192
  z208 := Tryd.sizeOf192
  v208 := Tryd.zeroValue192
  g13 := by kernel_rfl }
open Go.RowKit Go.Lib in
theorem Tryd.unicode_ToLower (r : Int) (w : World) (h : r ≤ 127) :
    Calls Tryd.prog 68 #[.int .i32 r] w fun e w' => e = .returned (.int .i32 (Lib.toLowerR r)) ∧ w' = w := Any.unicode_ToLower Tryd.lays204 r w h
def Tryd.lays200_ren : Go.Shelf.Ren := ⟨fun | 200 => 91 | 261 => 110 | 311 => 135 | 312 => 136 | n => n, fun | 21 => 21 | 4 => 4 | 51 => 103 | 5 => 5 | 119 => 132 | 0 => 0 | 141 => 134 | 196 => 167 | 193 => 164 | 3 => 3 | 198 => 170 | 49 => 168 | 194 => 165 | 201 => 173 | 226 => 193 | 46 => 115 | 227 => 194 | n => n, fun | 7 => 1 | 8 => 2 | n => n⟩
theorem Tryd.lays200 : Go.Proofs.Lays.n200 Tryd.prog Tryd.lays200_ren := {
  mixed := by kernel_rfl
  f200 := Tryd.func91.trans (congrArg some (by kernel_rfl))
  f261 := Tryd.func110.trans (congrArg some (by kernel_rfl))
  f311 := Tryd.func135.trans (congrArg some (by kernel_rfl))
  f312 := Tryd.func136.trans (congrArg some (by kernel_rfl))
  t0 := Tryd.underlying0
  a0 := Tryd.isAgg0
  z0 := Tryd.sizeOf0
  v0 := Tryd.zeroValue0
  t3 := Tryd.underlying3
  a3 := Tryd.isAgg3
  z3 := Tryd.sizeOf3
  v3 := Tryd.zeroValue3
  t4 := Tryd.underlying4
  a4 := Tryd.isAgg4
  z4 := Tryd.sizeOf4
  v4 := Tryd.zeroValue4
  t5 := Tryd.underlying5
  a5 := Tryd.isAgg5
  z5 := Tryd.sizeOf5
  v5 := Tryd.zeroValue5
  t21 := Tryd.underlying21
  a21 := Tryd.isAgg21
  z21 := Tryd.sizeOf21
  v21 := Tryd.zeroValue21
  t46 := Tryd.underlying115
  a46 := Tryd.isAgg115
  z46 := Tryd.sizeOf115
  v46 := Tryd.zeroValue115
  t49 := Tryd.underlying168
  a49 := Tryd.isAgg168
  z49 := Tryd.sizeOf168
  v49 := Tryd.zeroValue168
  t51 := Tryd.underlying103
  a51 := Tryd.isAgg103
  z51 := Tryd.sizeOf103
  v51 := Tryd.zeroValue103
  t119 := Tryd.underlying132
  a119 := Tryd.isAgg132
  z119 := Tryd.sizeOf132
  t141 := Tryd.underlying134
  a141 := Tryd.isAgg134
  z141 := Tryd.sizeOf134
  v141 := Tryd.zeroValue134
  t193 := Tryd.underlying164
  a193 := Tryd.isAgg164
  z193 := Tryd.sizeOf164
  v193 := Tryd.zeroValue164
  t194 := Tryd.underlying165
  a194 := Tryd.isAgg165
  z194 := Tryd.sizeOf165
  v194 := Tryd.zeroValue165
  t196 := Tryd.underlying167
  a196 := Tryd.isAgg167
  z196 := Tryd.sizeOf167
  v196 := Tryd.zeroValue167
  t198 := Tryd.underlying170
  a198 := Tryd.isAgg170
  z198 := Tryd.sizeOf170
  v198 := Tryd.zeroValue170
  t201 := Tryd.underlying173
  a201 := Tryd.isAgg173
  z201 := Tryd.sizeOf173
  v201 := Tryd.zeroValue173
  t226 := Tryd.underlying193
  a226 := Tryd.isAgg193
  z226 := Tryd.sizeOf193
  v226 := Tryd.zeroValue193
  t227 := Tryd.underlying194
  a227 := Tryd.isAgg194
  z227 := Tryd.sizeOf194
  v227 := Tryd.zeroValue194
  g7 := by kernel_rfl
  g8 := by kernel_rfl }
open Go.RowKit Go.Lib in
theorem Tryd.unicode_IsLetter (c : Nat) (w : World) (hc : c < 256) (htab : Lib.TabIs Tryd.prog w "unicode.properties" .u8 Lib.propertiesTab) :
    Calls Tryd.prog 91 #[.int .i32 c] w fun e w' => e = .returned (.bool (Lib.isLetterL c)) ∧ w' = w := Any.unicode_IsLetter Tryd.lays200 (by kernel_rfl) c w hc htab
def Tryd.laysM200_ren : Go.Shelf.Ren := ⟨fun | 200 => 91 | 261 => 110 | 311 => 135 | 312 => 136 | n => n, fun | 21 => 21 | 4 => 4 | 51 => 103 | 5 => 5 | 119 => 132 | 0 => 0 | 141 => 134 | 196 => 167 | 193 => 164 | 3 => 3 | 198 => 170 | 49 => 168 | 194 => 165 | 201 => 173 | 226 => 193 | 46 => 115 | 227 => 194 | n => n, fun | 7 => 1 | 8 => 2 | n => n⟩
theorem Tryd.laysM200 : Go.Proofs.LaysM.n200 Tryd.prog Tryd.laysM200_ren := {
  mixed := by kernel_rfl
  f200 := Tryd.func91.trans (congrArg some (by kernel_rfl))
  f261 := Tryd.func110.trans (congrArg some (by kernel_rfl))
  f311 := Tryd.func135.trans (congrArg some (by kernel_rfl))
  f312 := Tryd.func136.trans (congrArg some (by kernel_rfl))
  t0 := Tryd.underlying0
  a0 := Tryd.isAgg0
  z0 := Tryd.sizeOf0
  v0 := Tryd.zeroValue0
  t3 := Tryd.underlying3
  a3 := Tryd.isAgg3
  z3 := Tryd.sizeOf3
  v3 := Tryd.zeroValue3
  t4 := Tryd.underlying4
  a4 := Tryd.isAgg4
  z4 := Tryd.sizeOf4
  v4 := Tryd.zeroValue4
  t5 := Tryd.underlying5
  a5 := Tryd.isAgg5
  z5 := Tryd.sizeOf5
  v5 := Tryd.zeroValue5
  t21 := Tryd.underlying21
  a21 := Tryd.isAgg21
  z21 := Tryd.sizeOf21
  v21 := Tryd.zeroValue21
  t46 := Tryd.underlying115
  a46 := Tryd.isAgg115
  z46 := Tryd.sizeOf115
  v46 := Tryd.zeroValue115
  t49 := Tryd.underlying168
  a49 := Tryd.isAgg168
  z49 := Tryd.sizeOf168
  v49 := Tryd.zeroValue168
  t51 := Tryd.underlying103
  a51 := Tryd.isAgg103
  z51 := Tryd.sizeOf103
  v51 := Tryd.zeroValue103
  t119 := Tryd.underlying132
  a119 := Tryd.isAgg132
  z119 := Tryd.sizeOf132
  t141 := Tryd.underlying134
  a141 := Tryd.isAgg134
  z141 := Tryd.sizeOf134
  v141 := Tryd.zeroValue134
  t193 := Tryd.underlying164
  a193 := Tryd.isAgg164
  z193 := Tryd.sizeOf164
  v193 := Tryd.zeroValue164
  t194 := Tryd.underlying165
  a194 := Tryd.isAgg165
  z194 := Tryd.sizeOf165
  v194 := Tryd.zeroValue165
  t196 := Tryd.underlying167
  a196 := Tryd.isAgg167
  z196 := Tryd.sizeOf167
  v196 := Tryd.zeroValue167
  t198 := Tryd.underlying170
  a198 := Tryd.isAgg170
  z198 := Tryd.sizeOf170
  v198 := Tryd.zeroValue170
  t201 := Tryd.underlying173
  a201 := Tryd.isAgg173
  z201 := Tryd.sizeOf173
  v201 := Tryd.zeroValue173
  t226 := Tryd.underlying193
  a226 := Tryd.isAgg193
  z226 := Tryd.sizeOf193
  v226 := Tryd.zeroValue193
  t227 := Tryd.underlying194
  a227 := Tryd.isAgg194
  z227 := Tryd.sizeOf194
  v227 := Tryd.zeroValue194
  g7 := by kernel_rfl
  g8 := by kernel_rfl
  i0 := by kernel_rfl
  i3 := by kernel_rfl
  i4 := by kernel_rfl
  i5 := by kernel_rfl
  i21 := by kernel_rfl
  i46 := by kernel_rfl
  i49 := by kernel_rfl
  i51 := by kernel_rfl
  i141 := by kernel_rfl
  i193 := by kernel_rfl
  i194 := by kernel_rfl
  i196 := by kernel_rfl
  i198 := by kernel_rfl
  i201 := by kernel_rfl
  i226 := by kernel_rfl
  i227 := by kernel_rfl
  m7 := by kernel_rfl
  m8 := by kernel_rfl }
open Go.RowKit Go.Lib in
theorem Tryd.unicode_IsLetter_laid (c : Nat) (w : World) (hc : c < 256) (htab : Lib.TabIs Tryd.prog w "unicode.properties" .u8 Lib.propertiesTab) :
    Calls Tryd.prog 91 #[.int .i32 c] w fun e w' => e = .returned (.bool (Lib.isLetterL c)) ∧ w' = w := Any.unicode_IsLetter_laid Tryd.laysM200 c w hc htab
def Tryd.lays197_ren : Go.Shelf.Ren := ⟨fun | 197 => 87 | 260 => 108 | n => n, fun | 9 => 9 | 21 => 21 | 3 => 3 | 4 => 4 | 5 => 5 | 105 => 110 | 119 => 132 | 0 => 0 | 46 => 115 | 139 => 160 | 138 => 159 | n => n, fun | 3 => 7 | 4 => 8 | n => n⟩
theorem Tryd.lays197 : Go.Proofs.Lays.n197 Tryd.prog Tryd.lays197_ren := {
  mixed := by kernel_rfl
  f197 := Tryd.func87.trans (congrArg some (by kernel_rfl))
  f260 := Tryd.func108.trans (congrArg some (by kernel_rfl))
  t0 := Tryd.underlying0
  a0 := Tryd.isAgg0
  z0 := Tryd.sizeOf0
  v0 := Tryd.zeroValue0
  t3 := Tryd.underlying3
  a3 := Tryd.isAgg3
  z3 := Tryd.sizeOf3
  v3 := Tryd.zeroValue3
  t4 := Tryd.underlying4
  a4 := Tryd.isAgg4
  z4 := Tryd.sizeOf4
  v4 := Tryd.zeroValue4
  t5 := Tryd.underlying5
  a5 := Tryd.isAgg5
  z5 := Tryd.sizeOf5
  v5 := Tryd.zeroValue5
  t9 := Tryd.underlying9
  a9 := Tryd.isAgg9
  z9 := Tryd.sizeOf9
  v9 := Tryd.zeroValue9
  t21 := Tryd.underlying21
  a21 := Tryd.isAgg21
  z21 := Tryd.sizeOf21
  v21 := Tryd.zeroValue21
  t46 := Tryd.underlying115
  a46 := Tryd.isAgg115
  z46 := Tryd.sizeOf115
  v46 := Tryd.zeroValue115
  t105 := Tryd.underlying110
  a105 := Tryd.isAgg110
  z105 := Tryd.sizeOf110
  v105 := Tryd.zeroValue110
  t119 := Tryd.underlying132
  a119 := Tryd.isAgg132
  z119 := Tryd.sizeOf132
  t138 := Tryd.underlying159
  a138 := Tryd.isAgg159
  z138 := Tryd.sizeOf159
  v138 := Tryd.zeroValue159
  t139 := Tryd.underlying160
  a139 := Tryd.isAgg160
  z139 := Tryd.sizeOf160
  v139 := Tryd.zeroValue160
  g3 := by kernel_rfl
  g4 := by kernel_rfl }
open Go.RowKit Go.Lib in
theorem Tryd.utf8_DecodeRuneInString_ascii (s : ByteArray) (x : UInt8) (w : World) (h0 : s.data.toList[0]? = some x) (hx : x.toNat < 128) :
    Calls Tryd.prog 87 #[.string s] w fun e w' => e = .returned (.tuple #[.int .i32 x.toNat, .int .i64 1]) ∧ w' = w := Any.utf8_DecodeRuneInString_ascii Tryd.lays197 s x w h0 hx
def Tryd.lays260_ren : Go.Shelf.Ren := ⟨fun | 260 => 108 | n => n, fun | 9 => 9 | 21 => 21 | 3 => 3 | 4 => 4 | 5 => 5 | 119 => 132 | 0 => 0 | 46 => 115 | 139 => 160 | 138 => 159 | n => n, fun | 3 => 7 | 4 => 8 | n => n⟩
theorem Tryd.lays260 : Go.Proofs.Lays.n260 Tryd.prog Tryd.lays260_ren := {
  mixed := by kernel_rfl
  f260 := Tryd.func108.trans (congrArg some (by kernel_rfl))
  t0 := Tryd.underlying0
  a0 := Tryd.isAgg0
  z0 := Tryd.sizeOf0
  v0 := Tryd.zeroValue0
  t3 := Tryd.underlying3
  a3 := Tryd.isAgg3
  z3 := Tryd.sizeOf3
  v3 := Tryd.zeroValue3
  t4 := Tryd.underlying4
  a4 := Tryd.isAgg4
  z4 := Tryd.sizeOf4
  v4 := Tryd.zeroValue4
  t5 := Tryd.underlying5
  a5 := Tryd.isAgg5
  z5 := Tryd.sizeOf5
  v5 := Tryd.zeroValue5
  t9 := Tryd.underlying9
  a9 := Tryd.isAgg9
  z9 := Tryd.sizeOf9
  v9 := Tryd.zeroValue9
  t21 := Tryd.underlying21
  a21 := Tryd.isAgg21
  z21 := Tryd.sizeOf21
  v21 := Tryd.zeroValue21
  t46 := Tryd.underlying115
  a46 := Tryd.isAgg115
  z46 := Tryd.sizeOf115
  v46 := Tryd.zeroValue115
  t119 := Tryd.underlying132
  a119 := Tryd.isAgg132
  z119 := Tryd.sizeOf132
  t138 := Tryd.underlying159
  a138 := Tryd.isAgg159
  z138 := Tryd.sizeOf159
  v138 := Tryd.zeroValue159
  t139 := Tryd.underlying160
  a139 := Tryd.isAgg160
  z139 := Tryd.sizeOf160
  v139 := Tryd.zeroValue160
  g3 := by kernel_rfl
  g4 := by kernel_rfl }
open Go.RowKit Go.Lib in
theorem Tryd.utf8_decodeRuneInStringSlow (s : ByteArray) (w : World) (hT : Lib.Utf8Tabs 7 8 w) :
    Calls Tryd.prog 108 #[.string s] w fun e w' => e = .returned (.tuple #[.int .i32 (Lib.decodeGo s).1, .int .i64 (Lib.decodeGo s).2]) ∧ Below w.heap.size w w' := Any.utf8_decodeRuneInStringSlow Tryd.lays260 s w hT
open Go.RowKit Go.Lib in
theorem Tryd.utf8_DecodeRuneInString (s : ByteArray) (w : World) (hT : Lib.Utf8Tabs 7 8 w) :
    Calls Tryd.prog 87 #[.string s] w fun e w' => e = .returned (.tuple #[.int .i32 (Lib.decodeGo s).1, .int .i64 (Lib.decodeGo s).2]) ∧ Below w.heap.size w w' := Any.utf8_DecodeRuneInString Tryd.lays197 s w hT
def Tryd.lays311_ren : Go.Shelf.Ren := ⟨fun | 311 => 135 | n => n, fun | 193 => 164 | 49 => 168 | 4 => 4 | 3 => 3 | 0 => 0 | 226 => 193 | 198 => 170 | 46 => 115 | n => n, fun | n => n⟩
theorem Tryd.lays311 : Go.Proofs.Lays.n311 Tryd.prog Tryd.lays311_ren := {
  mixed := by kernel_rfl
  f311 := Tryd.func135.trans (congrArg some (by kernel_rfl))
  t0 := Tryd.underlying0
  a0 := Tryd.isAgg0
  z0 := Tryd.sizeOf0
  v0 := Tryd.zeroValue0
  t3 := Tryd.underlying3
  a3 := Tryd.isAgg3
  z3 := Tryd.sizeOf3
  v3 := Tryd.zeroValue3
  t4 := Tryd.underlying4
  a4 := Tryd.isAgg4
  z4 := Tryd.sizeOf4
  v4 := Tryd.zeroValue4
  t46 := Tryd.underlying115
  a46 := Tryd.isAgg115
  z46 := Tryd.sizeOf115
  v46 := Tryd.zeroValue115
  t49 := Tryd.underlying168
  a49 := Tryd.isAgg168
  z49 := Tryd.sizeOf168
  v49 := Tryd.zeroValue168
  t193 := Tryd.underlying164
  a193 := Tryd.isAgg164
  z193 := Tryd.sizeOf164
  v193 := Tryd.zeroValue164
  t198 := Tryd.underlying170
  a198 := Tryd.isAgg170
  z198 := Tryd.sizeOf170
  v198 := Tryd.zeroValue170
  t226 := Tryd.underlying193
  a226 := Tryd.isAgg193
  z226 := Tryd.sizeOf193
  v226 := Tryd.zeroValue193 }
open Go.RowKit Go.Lib in
theorem Tryd.unicode_is16_white (R oR : Nat) (z : Nat) (w : World) (hz : z < 65536) (hz0 : 255 < z) (c6 : w.cell? ⟨R, oR + 6, none⟩ = some (.int .u16 160)) (c7 : w.cell? ⟨R, oR + 7, none⟩ = some (.int .u16 5760)) (c8 : w.cell? ⟨R, oR + 8, none⟩ = some (.int .u16 5600)) (c9 : w.cell? ⟨R, oR + 9, none⟩ = some (.int .u16 8192)) (c10 : w.cell? ⟨R, oR + 10, none⟩ = some (.int .u16 8202)) (c11 : w.cell? ⟨R, oR + 11, none⟩ = some (.int .u16 1)) (c12 : w.cell? ⟨R, oR + 12, none⟩ = some (.int .u16 8232)) (c13 : w.cell? ⟨R, oR + 13, none⟩ = some (.int .u16 8233)) (c14 : w.cell? ⟨R, oR + 14, none⟩ = some (.int .u16 1)) (c15 : w.cell? ⟨R, oR + 15, none⟩ = some (.int .u16 8239)) (c16 : w.cell? ⟨R, oR + 16, none⟩ = some (.int .u16 8287)) (c17 : w.cell? ⟨R, oR + 17, none⟩ = some (.int .u16 48)) (c18 : w.cell? ⟨R, oR + 18, none⟩ = some (.int .u16 12288)) (c19 : w.cell? ⟨R, oR + 19, none⟩ = some (.int .u16 12288)) (c20 : w.cell? ⟨R, oR + 20, none⟩ = some (.int .u16 1)) :
    Calls Tryd.prog 135 #[.slice (some ⟨R, oR + 6, none⟩) 5 5, .int .u16 z] w fun e w' => e = .returned (.bool (Lib.isSpaceR z)) ∧ Below w.heap.size w w' := Any.unicode_is16_white Tryd.lays311 R oR z w hz hz0 c6 c7 c8 c9 c10 c11 c12 c13 c14 c15 c16 c17 c18 c19 c20
def Tryd.lays261_ren : Go.Shelf.Ren := ⟨fun | 261 => 110 | 311 => 135 | 312 => 136 | n => n, fun | 141 => 134 | 21 => 21 | 4 => 4 | 0 => 0 | 196 => 167 | 193 => 164 | 3 => 3 | 51 => 103 | 198 => 170 | 49 => 168 | 194 => 165 | 201 => 173 | 226 => 193 | 46 => 115 | 227 => 194 | n => n, fun | n => n⟩
theorem Tryd.lays261 : Go.Proofs.Lays.n261 Tryd.prog Tryd.lays261_ren := {
  mixed := by kernel_rfl
  f261 := Tryd.func110.trans (congrArg some (by kernel_rfl))
  f311 := Tryd.func135.trans (congrArg some (by kernel_rfl))
  f312 := Tryd.func136.trans (congrArg some (by kernel_rfl))
  t0 := Tryd.underlying0
  a0 := Tryd.isAgg0
  z0 := Tryd.sizeOf0
  v0 := Tryd.zeroValue0
  t3 := Tryd.underlying3
  a3 := Tryd.isAgg3
  z3 := Tryd.sizeOf3
  v3 := Tryd.zeroValue3
  t4 := Tryd.underlying4
  a4 := Tryd.isAgg4
  z4 := Tryd.sizeOf4
  v4 := Tryd.zeroValue4
  t21 := Tryd.underlying21
  a21 := Tryd.isAgg21
  z21 := Tryd.sizeOf21
  v21 := Tryd.zeroValue21
  t46 := Tryd.underlying115
  a46 := Tryd.isAgg115
  z46 := Tryd.sizeOf115
  v46 := Tryd.zeroValue115
  t49 := Tryd.underlying168
  a49 := Tryd.isAgg168
  z49 := Tryd.sizeOf168
  v49 := Tryd.zeroValue168
  t51 := Tryd.underlying103
  a51 := Tryd.isAgg103
  z51 := Tryd.sizeOf103
  v51 := Tryd.zeroValue103
  t141 := Tryd.underlying134
  a141 := Tryd.isAgg134
  z141 := Tryd.sizeOf134
  v141 := Tryd.zeroValue134
  t193 := Tryd.underlying164
  a193 := Tryd.isAgg164
  z193 := Tryd.sizeOf164
  v193 := Tryd.zeroValue164
  t194 := Tryd.underlying165
  a194 := Tryd.isAgg165
  z194 := Tryd.sizeOf165
  v194 := Tryd.zeroValue165
  t196 := Tryd.underlying167
  a196 := Tryd.isAgg167
  z196 := Tryd.sizeOf167
  v196 := Tryd.zeroValue167
  t198 := Tryd.underlying170
  a198 := Tryd.isAgg170
  z198 := Tryd.sizeOf170
  v198 := Tryd.zeroValue170
  t201 := Tryd.underlying173
  a201 := Tryd.isAgg173
  z201 := Tryd.sizeOf173
  v201 := Tryd.zeroValue173
  t226 := Tryd.underlying193
  a226 := Tryd.isAgg193
  z226 := Tryd.sizeOf193
  v226 := Tryd.zeroValue193
  t227 := Tryd.underlying194
  a227 := Tryd.isAgg194
  z227 := Tryd.sizeOf194
  v227 := Tryd.zeroValue194 }
open Go.RowKit Go.Lib in
theorem Tryd.unicode_isExcludingLatin_white (T oT R oR : Nat) (r : Int) (w : World) (hlo : -2147483648 ≤ r) (hhi : r ≤ 2147483647) (hr : r < 0 ∨ 255 < r) (h2 : w.cell? ⟨T, oT, none⟩ = some (.slice (some ⟨R, oR, none⟩) 7 7)) (h3 : w.cell? ⟨T, oT + 1, none⟩ = some (.slice none 0 0)) (h4 : w.cell? ⟨T, oT + 2, none⟩ = some (.int .i64 2)) (h5 : ∀ i, i < 21 → w.cell? ⟨R, oR + i, none⟩ = some (.int .u16 (whiteT.getD i 0))) :
    Calls Tryd.prog 110 #[.pointer (some ⟨T, oT, none⟩), .int .i32 r] w fun e w' => e = .returned (.bool (Lib.isSpaceZ r)) ∧ Below w.heap.size w w' := Any.unicode_isExcludingLatin_white Tryd.lays261 T oT R oR r w hlo hhi hr h2 h3 h4 h5
open Go.RowKit Go.Lib in
theorem Tryd.unicode_IsSpace_any (r : Int) (w : World) (hlo : -2147483648 ≤ r) (hhi : r ≤ 2147483647) (hW : Lib.WhiteTab 4 w) :
    Calls Tryd.prog 93 #[.int .i32 r] w fun e w' => e = .returned (.bool (Lib.isSpaceZ r)) ∧ Below w.heap.size w w' := Any.unicode_IsSpace_any Tryd.lays199 r w hlo hhi hW
def Tryd.lays271_ren : Go.Shelf.Ren := ⟨fun | 271 => 151 | 120 => 157 | 197 => 87 | 260 => 108 | n => n, fun | 9 => 9 | 21 => 21 | 3 => 3 | 4 => 4 | 5 => 5 | 105 => 110 | 119 => 132 | 0 => 0 | 46 => 115 | 139 => 160 | 138 => 159 | n => n, fun | 3 => 7 | 4 => 8 | n => n⟩
theorem Tryd.lays271 : Go.Proofs.Lays.n271 Tryd.prog Tryd.lays271_ren := {
  mixed := by kernel_rfl
  f120 := Tryd.func157.trans (congrArg some (by kernel_rfl))
  f197 := Tryd.func87.trans (congrArg some (by kernel_rfl))
  f260 := Tryd.func108.trans (congrArg some (by kernel_rfl))
  f271 := Tryd.func151.trans (congrArg some (by kernel_rfl))
  t0 := Tryd.underlying0
  a0 := Tryd.isAgg0
  z0 := Tryd.sizeOf0
  v0 := Tryd.zeroValue0
  t3 := Tryd.underlying3
  a3 := Tryd.isAgg3
  z3 := Tryd.sizeOf3
  v3 := Tryd.zeroValue3
  t4 := Tryd.underlying4
  a4 := Tryd.isAgg4
  z4 := Tryd.sizeOf4
  v4 := Tryd.zeroValue4
  t5 := Tryd.underlying5
  a5 := Tryd.isAgg5
  z5 := Tryd.sizeOf5
  v5 := Tryd.zeroValue5
  t9 := Tryd.underlying9
  a9 := Tryd.isAgg9
  z9 := Tryd.sizeOf9
  v9 := Tryd.zeroValue9
  t21 := Tryd.underlying21
  a21 := Tryd.isAgg21
  z21 := Tryd.sizeOf21
  v21 := Tryd.zeroValue21
  t46 := Tryd.underlying115
  a46 := Tryd.isAgg115
  z46 := Tryd.sizeOf115
  v46 := Tryd.zeroValue115
  t105 := Tryd.underlying110
  a105 := Tryd.isAgg110
  z105 := Tryd.sizeOf110
  v105 := Tryd.zeroValue110
  t119 := Tryd.underlying132
  a119 := Tryd.isAgg132
  z119 := Tryd.sizeOf132
  t138 := Tryd.underlying159
  a138 := Tryd.isAgg159
  z138 := Tryd.sizeOf159
  v138 := Tryd.zeroValue159
  t139 := Tryd.underlying160
  a139 := Tryd.isAgg160
  z139 := Tryd.sizeOf160
  v139 := Tryd.zeroValue160
  g3 := by kernel_rfl
  g4 := by kernel_rfl }
open Go.RowKit Go.Lib in
theorem Tryd.utf8_DecodeLastRuneInString (s : ByteArray) (w : World) (hs : s.size ≤ 9223372036854775807) (hT : Lib.Utf8Tabs 7 8 w) :
    Calls Tryd.prog 151 #[.string s] w fun e w' => e = .returned (.tuple #[.int .i32 (Lib.decodeLastL s.data.toList).1, .int .i64 (Lib.decodeLastL s.data.toList).2]) ∧ Below w.heap.size w w' := Any.utf8_DecodeLastRuneInString Tryd.lays271 s w hs hT
open Go.RowKit in
theorem Tryd.strings_TrimSpace_any (s : ByteArray) (w : World) (hs : s.size ≤ 9223372036854775807) (htab : Lib.TabIs Tryd.prog w "strings.asciiSpace" .u8 Lib.asciiSpaceTab) (hU8 : Lib.Utf8Tabs 7 8 w) (hWS : Lib.WhiteTab 4 w) :
    Calls Tryd.prog 96 #[.string s] w fun e w' => e = .returned (.string ⟨(Lib.trimSpaceD s.data.toList).toArray⟩) ∧ Below w.heap.size w w' := Any.strings_TrimSpace_any Tryd.lays163 Tryd.Space_Extra_163 s w hs htab hU8 hWS
open Go.RowKit Go.Lib in
theorem Tryd.unicode_is16_white_d (R oR : Nat) (z : Nat) (w : World) (hz : z < 65536) (hz0 : 255 < z) (c6 : w.cell? ⟨R, oR + 6, none⟩ = some (.int .u16 160)) (c7 : w.cell? ⟨R, oR + 7, none⟩ = some (.int .u16 5760)) (c8 : w.cell? ⟨R, oR + 8, none⟩ = some (.int .u16 5600)) (c9 : w.cell? ⟨R, oR + 9, none⟩ = some (.int .u16 8192)) (c10 : w.cell? ⟨R, oR + 10, none⟩ = some (.int .u16 8202)) (c11 : w.cell? ⟨R, oR + 11, none⟩ = some (.int .u16 1)) (c12 : w.cell? ⟨R, oR + 12, none⟩ = some (.int .u16 8232)) (c13 : w.cell? ⟨R, oR + 13, none⟩ = some (.int .u16 8233)) (c14 : w.cell? ⟨R, oR + 14, none⟩ = some (.int .u16 1)) (c15 : w.cell? ⟨R, oR + 15, none⟩ = some (.int .u16 8239)) (c16 : w.cell? ⟨R, oR + 16, none⟩ = some (.int .u16 8287)) (c17 : w.cell? ⟨R, oR + 17, none⟩ = some (.int .u16 48)) (c18 : w.cell? ⟨R, oR + 18, none⟩ = some (.int .u16 12288)) (c19 : w.cell? ⟨R, oR + 19, none⟩ = some (.int .u16 12288)) (c20 : w.cell? ⟨R, oR + 20, none⟩ = some (.int .u16 1)) :
    Calls Tryd.prog 135 #[.slice (some ⟨R, oR + 6, none⟩) 5 5, .int .u16 z] w fun e w' => e = .returned (.bool (Lib.isSpaceR z)) ∧ ∃ q, w' = w.drewN q := Any.unicode_is16_white_d Tryd.lays311 R oR z w hz hz0 c6 c7 c8 c9 c10 c11 c12 c13 c14 c15 c16 c17 c18 c19 c20
open Go.RowKit Go.Lib in
theorem Tryd.unicode_isExcludingLatin_white_d (T oT R oR : Nat) (r : Int) (w : World) (hlo : -2147483648 ≤ r) (hhi : r ≤ 2147483647) (hr : r < 0 ∨ 255 < r) (h2 : w.cell? ⟨T, oT, none⟩ = some (.slice (some ⟨R, oR, none⟩) 7 7)) (h3 : w.cell? ⟨T, oT + 1, none⟩ = some (.slice none 0 0)) (h4 : w.cell? ⟨T, oT + 2, none⟩ = some (.int .i64 2)) (h5 : ∀ i, i < 21 → w.cell? ⟨R, oR + i, none⟩ = some (.int .u16 (whiteT.getD i 0))) :
    Calls Tryd.prog 110 #[.pointer (some ⟨T, oT, none⟩), .int .i32 r] w fun e w' => e = .returned (.bool (Lib.isSpaceZ r)) ∧ ∃ q, w' = w.drewN q := Any.unicode_isExcludingLatin_white_d Tryd.lays261 T oT R oR r w hlo hhi hr h2 h3 h4 h5
open Go.RowKit Go.Lib in
theorem Tryd.unicode_IsSpace_any_d (r : Int) (w : World) (hlo : -2147483648 ≤ r) (hhi : r ≤ 2147483647) (hW : Lib.WhiteTab 4 w) :
    Calls Tryd.prog 93 #[.int .i32 r] w fun e w' => e = .returned (.bool (Lib.isSpaceZ r)) ∧ ∃ q, w' = w.drewN q := Any.unicode_IsSpace_any_d Tryd.lays199 r w hlo hhi hW
def Tryd.lays274_ren : Go.Shelf.Ren := ⟨fun | 274 => 133 | n => n, fun | 21 => 21 | 162 => 131 | 160 => 161 | 3 => 3 | 4 => 4 | 46 => 115 | 0 => 0 | 208 => 192 | 51 => 103 | 206 => 190 | n => n, fun | n => n⟩
theorem Tryd.lays274 : Go.Proofs.Lays.n274 Tryd.prog Tryd.lays274_ren := {
  mixed := by kernel_rfl
  f274 := Tryd.func133.trans (congrArg some (by kernel_rfl))
  t0 := Tryd.underlying0
  a0 := Tryd.isAgg0
  z0 := Tryd.sizeOf0
  v0 := Tryd.zeroValue0
  t3 := Tryd.underlying3
  a3 := Tryd.isAgg3
  z3 := Tryd.sizeOf3
  v3 := Tryd.zeroValue3
  t4 := Tryd.underlying4
  a4 := Tryd.isAgg4
  z4 := Tryd.sizeOf4
  v4 := Tryd.zeroValue4
  t21 := Tryd.underlying21
  a21 := Tryd.isAgg21
  z21 := Tryd.sizeOf21
  v21 := Tryd.zeroValue21
  t46 := Tryd.underlying115
  a46 := Tryd.isAgg115
  z46 := Tryd.sizeOf115
  v46 := Tryd.zeroValue115
  t51 := Tryd.underlying103
  a51 := Tryd.isAgg103
  z51 := Tryd.sizeOf103
  v51 := Tryd.zeroValue103
  t160 := Tryd.underlying161
  a160 := Tryd.isAgg161
  z160 := Tryd.sizeOf161
  v160 := Tryd.zeroValue161
  t162 := Tryd.underlying131
  a162 := Tryd.isAgg131
  z162 := Tryd.sizeOf131
  v162 := Tryd.zeroValue131
  t208 := Tryd.underlying192
  a208 := Tryd.isAgg192
  z208 := Tryd.sizeOf192
  v208 := Tryd.zeroValue192 }
open Go.RowKit Go.Lib in
theorem Tryd.unicode_lookupCaseRange (T : Array CaseRow) (R oR cap : Nat) (r : Int) (w : World) (hT : CaseTab R oR T w) (hok : CaseOk T) (hn : T.size ≤ 1000000000) :
    Calls Tryd.prog 133 #[.int .i32 r, .slice (some ⟨R, oR, none⟩) T.size cap] w fun e w' =>
      e = .returned (match lookupIdx T r (T.size + 1) 0 T.size with | some i => .pointer (some ⟨R, oR + i * 5, none⟩) | none => .pointer none) ∧ w' = w := Any.unicode_lookupCaseRange Tryd.lays274 T R oR cap r w hT hok hn
def Tryd.lays275_ren : Go.Shelf.Ren := ⟨fun | 275 => 134 | n => n, fun | 3 => 3 | 21 => 21 | 160 => 161 | 0 => 0 | 208 => 192 | 206 => 190 | 4 => 4 | 51 => 103 | n => n, fun | n => n⟩
theorem Tryd.lays275 : Go.Proofs.Lays.n275 Tryd.prog Tryd.lays275_ren := {
  mixed := by kernel_rfl
  f275 := Tryd.func134.trans (congrArg some (by kernel_rfl))
  t0 := Tryd.underlying0
  a0 := Tryd.isAgg0
  z0 := Tryd.sizeOf0
  v0 := Tryd.zeroValue0
  t3 := Tryd.underlying3
  a3 := Tryd.isAgg3
  z3 := Tryd.sizeOf3
  v3 := Tryd.zeroValue3
  t4 := Tryd.underlying4
  a4 := Tryd.isAgg4
  z4 := Tryd.sizeOf4
  v4 := Tryd.zeroValue4
  t21 := Tryd.underlying21
  a21 := Tryd.isAgg21
  z21 := Tryd.sizeOf21
  v21 := Tryd.zeroValue21
  t51 := Tryd.underlying103
  a51 := Tryd.isAgg103
  z51 := Tryd.sizeOf103
  v51 := Tryd.zeroValue103
  t160 := Tryd.underlying161
  a160 := Tryd.isAgg161
  z160 := Tryd.sizeOf161
  v160 := Tryd.zeroValue161
  t206 := Tryd.underlying190
  a206 := Tryd.isAgg190
  z206 := Tryd.sizeOf190
  v206 := Tryd.zeroValue190
  t208 := Tryd.underlying192
  a208 := Tryd.isAgg192
  z208 := Tryd.sizeOf192
  v208 := Tryd.zeroValue192 }
open Go.RowKit Go.Lib in
theorem Tryd.unicode_convertCase (c : Nat) (hc : c < 3) (r : Int) (A o : Nat) (x : CaseRow) (w : World) (hlo : (x.1 : Int) ≤ r) (hhi : r ≤ (x.2.1 : Int)) (hH : x.2.1 < 2147483647) (c0 : w.cell? ⟨A, o, none⟩ = some (.int .u32 x.1)) (cD : w.cell? ⟨A, o + 2 + c, none⟩ = some (.int .i32 (x.delta c))) :
    Calls Tryd.prog 134 #[.int .i64 c, .int .i32 r, .pointer (some ⟨A, o, none⟩)] w fun e w' => e = .returned (.int .i32 (wrap32 (convertR c r x))) ∧ ∃ q, w' = w.drewN q := Any.unicode_convertCase Tryd.lays275 c hc r A o x w hlo hhi hH c0 cD
def Tryd.lays313_ren : Go.Shelf.Ren := ⟨fun | 313 => 109 | 274 => 133 | 275 => 134 | n => n, fun | 3 => 3 | 21 => 21 | 162 => 131 | 4 => 4 | 160 => 161 | 46 => 115 | 0 => 0 | 208 => 192 | 51 => 103 | 206 => 190 | n => n, fun | n => n⟩
theorem Tryd.lays313 : Go.Proofs.Lays.n313 Tryd.prog Tryd.lays313_ren := {
  mixed := by kernel_rfl
  f274 := Tryd.func133.trans (congrArg some (by kernel_rfl))
  f275 := Tryd.func134.trans (congrArg some (by kernel_rfl))
  f313 := Tryd.func109.trans (congrArg some (by kernel_rfl))
  t0 := Tryd.underlying0
  a0 := Tryd.isAgg0
  z0 := Tryd.sizeOf0
  v0 := Tryd.zeroValue0
  t3 := Tryd.underlying3
  a3 := Tryd.isAgg3
  z3 := Tryd.sizeOf3
  v3 := Tryd.zeroValue3
  t4 := Tryd.underlying4
  a4 := Tryd.isAgg4
  z4 := Tryd.sizeOf4
  v4 := Tryd.zeroValue4
  t21 := Tryd.underlying21
  a21 := Tryd.isAgg21
  z21 := Tryd.sizeOf21
  v21 := Tryd.zeroValue21
  t46 := Tryd.underlying115
  a46 := Tryd.isAgg115
  z46 := Tryd.sizeOf115
  v46 := Tryd.zeroValue115
  t51 := Tryd.underlying103
  a51 := Tryd.isAgg103
  z51 := Tryd.sizeOf103
  v51 := Tryd.zeroValue103
  t160 := Tryd.underlying161
  a160 := Tryd.isAgg161
  z160 := Tryd.sizeOf161
  v160 := Tryd.zeroValue161
  t162 := Tryd.underlying131
  a162 := Tryd.isAgg131
  z162 := Tryd.sizeOf131
  v162 := Tryd.zeroValue131
  t206 := Tryd.underlying190
  a206 := Tryd.isAgg190
  z206 := Tryd.sizeOf190
  v206 := Tryd.zeroValue190
  t208 := Tryd.underlying192
  a208 := Tryd.isAgg192
  z208 := Tryd.sizeOf192
  v208 := Tryd.zeroValue192 }
open Go.RowKit Go.Lib in
theorem Tryd.unicode_to (c : Nat) (hc : c < 3) (r : Int) (T : Array CaseRow) (R oR cap : Nat) (w : World) (hT : CaseTab R oR T w) (hok : CaseOk2 T) (hn : T.size ≤ 1000000000) :
    Calls Tryd.prog 109 #[.int .i64 c, .int .i32 r, .slice (some ⟨R, oR, none⟩) T.size cap] w fun e w' => e = .returned (.tuple #[.int .i32 (toW T c r), .bool (lookupIdx T r (T.size + 1) 0 T.size).isSome]) ∧ ∃ q, w' = w.drewN q := Any.unicode_to Tryd.lays313 c hc r T R oR cap w hT hok hn
def Tryd.lays262_ren : Go.Shelf.Ren := ⟨fun | 262 => 90 | 313 => 109 | 274 => 133 | 275 => 134 | n => n, fun | 3 => 3 | 21 => 21 | 162 => 131 | 203 => 129 | 4 => 4 | 160 => 161 | 46 => 115 | 0 => 0 | 208 => 192 | 51 => 103 | 206 => 190 | n => n, fun | 13 => 0 | n => n⟩
theorem Tryd.lays262 : Go.Proofs.Lays.n262 Tryd.prog Tryd.lays262_ren := {
  mixed := by kernel_rfl
  f262 := Tryd.func90.trans (congrArg some (by kernel_rfl))
  f274 := Tryd.func133.trans (congrArg some (by kernel_rfl))
  f275 := Tryd.func134.trans (congrArg some (by kernel_rfl))
  f313 := Tryd.func109.trans (congrArg some (by kernel_rfl))
  t0 := Tryd.underlying0
  a0 := Tryd.isAgg0
  z0 := Tryd.sizeOf0
  v0 := Tryd.zeroValue0
  t3 := Tryd.underlying3
  a3 := Tryd.isAgg3
  z3 := Tryd.sizeOf3
  v3 := Tryd.zeroValue3
  t4 := Tryd.underlying4
  a4 := Tryd.isAgg4
  z4 := Tryd.sizeOf4
  v4 := Tryd.zeroValue4
  t21 := Tryd.underlying21
  a21 := Tryd.isAgg21
  z21 := Tryd.sizeOf21
  v21 := Tryd.zeroValue21
  t46 := Tryd.underlying115
  a46 := Tryd.isAgg115
  z46 := Tryd.sizeOf115
  v46 := Tryd.zeroValue115
  t51 := Tryd.underlying103
  a51 := Tryd.isAgg103
  z51 := Tryd.sizeOf103
  v51 := Tryd.zeroValue103
  t160 := Tryd.underlying161
  a160 := Tryd.isAgg161
  z160 := Tryd.sizeOf161
  v160 := Tryd.zeroValue161
  t162 := Tryd.underlying131
  a162 := Tryd.isAgg131
  z162 := Tryd.sizeOf131
  v162 := Tryd.zeroValue131
  t203 := Tryd.underlying129
  a203 := Tryd.isAgg129
  z203 := Tryd.sizeOf129
  v203 := Tryd.zeroValue129
  t206 := Tryd.underlying190
  a206 := Tryd.isAgg190
  z206 := Tryd.sizeOf190
  v206 := Tryd.zeroValue190
  t208 := Tryd.underlying192
  a208 := Tryd.isAgg192
  z208 := Tryd.sizeOf192
  v208 := Tryd.zeroValue192
  g13 := by kernel_rfl }
open Go.RowKit Go.Lib in
theorem Tryd.unicode_To (c : Nat) (hc : c < 3) (r : Int) (T : Array CaseRow) (w : World) (hV : CaseVar 0 T w) (hok : CaseOk2 T) (hn : T.size ≤ 1000000000) :
    Calls Tryd.prog 90 #[.int .i64 c, .int .i32 r] w fun e w' => e = .returned (.int .i32 (toW T c r)) ∧ ∃ q, w' = w.drewN q := Any.unicode_To Tryd.lays262 c hc r T w hV hok hn
open Go.RowKit Go.Lib in
theorem Tryd.unicode_ToLower_any (r : Int) (T : Array CaseRow) (w : World) (hV : CaseVar 0 T w) (hok : CaseOk2 T) (hn : T.size ≤ 1000000000) :
    Calls Tryd.prog 68 #[.int .i32 r] w fun e w' => e = .returned (.int .i32 (Lib.toLowerW T r)) ∧ ∃ q, w' = w.drewN q := Any.unicode_ToLower_any Tryd.lays204 r T w hV hok hn
open Go.RowKit Go.Lib in
theorem Tryd.unicode_ToUpper_any (r : Int) (T : Array CaseRow) (w : World) (hV : CaseVar 0 T w) (hok : CaseOk2 T) (hn : T.size ≤ 1000000000) :
    Calls Tryd.prog 71 #[.int .i32 r] w fun e w' => e = .returned (.int .i32 (Lib.toUpperW T r)) ∧ ∃ q, w' = w.drewN q := Any.unicode_ToUpper_any Tryd.lays203 r T w hV hok hn
open Go.RowKit Go.Lib in
theorem Tryd.unicode_ToLower_laid (r : Int) (w : World) (hV : CaseVar 0 caseA w) :
    Calls Tryd.prog 68 #[.int .i32 r] w fun e w' => e = .returned (.int .i32 (toLowerU r)) ∧ ∃ q, w' = w.drewN q := Any.unicode_ToLower_laid Tryd.lays204 r w hV
open Go.RowKit Go.Lib in
theorem Tryd.unicode_ToUpper_laid (r : Int) (w : World) (hV : CaseVar 0 caseA w) :
    Calls Tryd.prog 71 #[.int .i32 r] w fun e w' => e = .returned (.int .i32 (toUpperU r)) ∧ ∃ q, w' = w.drewN q := Any.unicode_ToUpper_laid Tryd.lays203 r w hV
def Tryd.lays270_ren : Go.Shelf.Ren := ⟨fun | 270 => 89 | n => n, fun | 70 => 87 | 3 => 3 | 0 => 0 | 72 => 89 | 37 => 70 | 5 => 5 | n => n, fun | n => n⟩
theorem Tryd.lays270 : Go.Proofs.Lays.n270 Tryd.prog Tryd.lays270_ren := {
  mixed := by kernel_rfl
  f270 := Tryd.func89.trans (congrArg some (by kernel_rfl))
  t0 := Tryd.underlying0
  a0 := Tryd.isAgg0
  z0 := Tryd.sizeOf0
  v0 := Tryd.zeroValue0
  t3 := Tryd.underlying3
  a3 := Tryd.isAgg3
  z3 := Tryd.sizeOf3
  v3 := Tryd.zeroValue3
  t37 := Tryd.underlying70
  a37 := Tryd.isAgg70
  z37 := Tryd.sizeOf70
  v37 := Tryd.zeroValue70
  t70 := Tryd.underlying87
  a70 := Tryd.isAgg87
  z70 := Tryd.sizeOf87
  v70 := Tryd.zeroValue87
  t72 := Tryd.underlying89
  a72 := Tryd.isAgg89
  z72 := Tryd.sizeOf89
  v72 := Tryd.zeroValue89 }
open Go.RowKit Go.Lib in
theorem Tryd.Builder_Cap_cell (b : Nat) (p : Option Addr) (n cap : Nat) (w : World) (c1 : w.cell? ⟨b, 1, none⟩ = some (.slice p n cap)) :
    Calls Tryd.prog 89 #[.pointer (some ⟨b, 0, none⟩)] w fun e w' => e = .returned (.int .i64 cap) ∧ w' = w := Any.Builder_Cap_cell Tryd.lays270 b p n cap w c1
def Tryd.lays230_ren : Go.Shelf.Ren := ⟨fun | 230 => 67 | 197 => 87 | 118 => 88 | 165 => 65 | 166 => 57 | 168 => 58 | 270 => 89 | 167 => 66 | 169 => 60 | 260 => 108 | 240 => 81 | 241 => 86 | 242 => 52 | 276 => 104 | 277 => 107 | 278 => 73 | n => n, fun | 107 => 102 | 9 => 9 | 72 => 89 | 0 => 0 | 4 => 4 | 3 => 3 | 21 => 21 | 105 => 110 | 76 => 92 | 5 => 5 | 75 => 91 | 70 => 87 | 20 => 20 | 37 => 70 | 127 => 109 | 119 => 132 | 46 => 115 | 139 => 160 | 138 => 159 | 164 => 124 | 51 => 103 | 80 => 76 | n => n, fun | 3 => 7 | 4 => 8 | n => n⟩
theorem Tryd.lays230 : Go.Proofs.Lays.n230 Tryd.prog Tryd.lays230_ren := {
  mixed := by kernel_rfl
  f118 := Tryd.func88.trans (congrArg some (by kernel_rfl))
  f165 := Tryd.func65.trans (congrArg some (by kernel_rfl))
  f166 := Tryd.func57.trans (congrArg some (by kernel_rfl))
  f167 := Tryd.func66.trans (congrArg some (by kernel_rfl))
  f168 := Tryd.func58.trans (congrArg some (by kernel_rfl))
  f169 := Tryd.func60.trans (congrArg some (by kernel_rfl))
  f197 := Tryd.func87.trans (congrArg some (by kernel_rfl))
  f230 := Tryd.func67.trans (congrArg some (by kernel_rfl))
  f240 := Tryd.func81.trans (congrArg some (by kernel_rfl))
  f241 := Tryd.func86.trans (congrArg some (by kernel_rfl))
  f242 := Tryd.func52.trans (congrArg some (by kernel_rfl))
  f260 := Tryd.func108.trans (congrArg some (by kernel_rfl))
  f270 := Tryd.func89.trans (congrArg some (by kernel_rfl))
  f276 := Tryd.func104.trans (congrArg some (by kernel_rfl))
  f277 := Tryd.func107.trans (congrArg some (by kernel_rfl))
  f278 := Tryd.func73.trans (congrArg some (by kernel_rfl))
  t0 := Tryd.underlying0
  a0 := Tryd.isAgg0
  z0 := Tryd.sizeOf0
  v0 := Tryd.zeroValue0
  t3 := Tryd.underlying3
  a3 := Tryd.isAgg3
  z3 := Tryd.sizeOf3
  v3 := Tryd.zeroValue3
  t4 := Tryd.underlying4
  a4 := Tryd.isAgg4
  z4 := Tryd.sizeOf4
  v4 := Tryd.zeroValue4
  t5 := Tryd.underlying5
  a5 := Tryd.isAgg5
  z5 := Tryd.sizeOf5
  v5 := Tryd.zeroValue5
  t9 := Tryd.underlying9
  a9 := Tryd.isAgg9
  z9 := Tryd.sizeOf9
  v9 := Tryd.zeroValue9
  t20 := Tryd.underlying20
  a20 := Tryd.isAgg20
  z20 := Tryd.sizeOf20
  v20 := Tryd.zeroValue20
  t21 := Tryd.underlying21
  a21 := Tryd.isAgg21
  z21 := Tryd.sizeOf21
  v21 := Tryd.zeroValue21
  t37 := Tryd.underlying70
  a37 := Tryd.isAgg70
  z37 := Tryd.sizeOf70
  v37 := Tryd.zeroValue70
  t46 := Tryd.underlying115
  a46 := Tryd.isAgg115
  z46 := Tryd.sizeOf115
  v46 := Tryd.zeroValue115
  t51 := Tryd.underlying103
  a51 := Tryd.isAgg103
  z51 := Tryd.sizeOf103
  v51 := Tryd.zeroValue103
  t70 := Tryd.underlying87
  a70 := Tryd.isAgg87
  z70 := Tryd.sizeOf87
  v70 := Tryd.zeroValue87
  t72 := Tryd.underlying89
  a72 := Tryd.isAgg89
  z72 := Tryd.sizeOf89
  v72 := Tryd.zeroValue89
  t75 := Tryd.underlying91
  a75 := Tryd.isAgg91
  z75 := Tryd.sizeOf91
  v75 := Tryd.zeroValue91
  t76 := Tryd.underlying92
  a76 := Tryd.isAgg92
  z76 := Tryd.sizeOf92
  v76 := Tryd.zeroValue92
  t105 := Tryd.underlying110
  a105 := Tryd.isAgg110
  z105 := Tryd.sizeOf110
  v105 := Tryd.zeroValue110
  t107 := Tryd.underlying102
  a107 := Tryd.isAgg102
  z107 := Tryd.sizeOf102
  v107 := Tryd.zeroValue102
  t119 := Tryd.underlying132
  a119 := Tryd.isAgg132
  z119 := Tryd.sizeOf132
  t127 := Tryd.underlying109
  a127 := Tryd.isAgg109
  z127 := Tryd.sizeOf109
  v127 := Tryd.zeroValue109
  t138 := Tryd.underlying159
  a138 := Tryd.isAgg159
  z138 := Tryd.sizeOf159
  v138 := Tryd.zeroValue159
  t139 := Tryd.underlying160
  a139 := Tryd.isAgg160
  z139 := Tryd.sizeOf160
  v139 := Tryd.zeroValue160
  t164 := Tryd.underlying124
  a164 := Tryd.isAgg124
  z164 := Tryd.sizeOf124
  v164 := Tryd.zeroValue124
  g3 := by kernel_rfl
  g4 := by kernel_rfl }
theorem Tryd.Builder_Extra_230 : Builder.Extra Tryd.prog Tryd.lays230_ren := {
  sizeBuilder := by kernel_rfl
  liesBuilder := by kernel_rfl
  t5 := Tryd.underlying5
  a5 := Tryd.isAgg5
  z5 := Tryd.sizeOf5
  v5 := Tryd.zeroValue5
  infoByte := by kernel_rfl
  cellsByte := by kernel_rfl
  sizeByte := by kernel_rfl
  neB5 := by decide }
open Go.RowKit Go.Lib in
theorem Tryd.strings_Map_runes (g : Nat) (lb : Array Value) (eg : ∀ args w, (callFunc g args).run Tryd.prog w = .ok (.enter g args) w) (f : Int → Int) (s : ByteArray) (w : World) (hs : s.size < 35184372088832) (hf : MapAtRunes Tryd.prog g lb f w) (hnn : ∀ x : Nat, x ≤ 1114111 → 0 ≤ f x ∧ f x ≤ 2147483647) (hT : Lib.Utf8Tabs 7 8 w) :
    Calls Tryd.prog 67 #[.func (.func g) #[] lb, .string s] w fun e w' => e = .returned (.string ⟨(Lib.mapD f s.data.toList).toArray⟩) ∧ Below w.heap.size w w' := Any.strings_Map_runes Tryd.lays230 Tryd.Builder_Extra_230 g lb eg f s w hs hf hnn hT
open Go.RowKit Go.Lib in
theorem Tryd.strings_ToLower_beyond (s : ByteArray) (w : World) (hs : s.size < 35184372088832) (hhigh : ∃ (j : Nat) (b : UInt8), s.data.toList[j]? = some b ∧ 128 ≤ b.toNat) (hV : CaseVar 0 caseA w) (hT : Lib.Utf8Tabs 7 8 w) :
    Calls Tryd.prog 48 #[.string s] w fun e w' => e = .returned (.string ⟨(Lib.toLowerD s.data.toList).toArray⟩) ∧ Below w.heap.size w w' := Any.strings_ToLower_beyond Tryd.lays159 Tryd.Builder_Extra_159 s w hs hhigh hV hT
open Go.RowKit Go.Lib in
theorem Tryd.strings_ToLower_any (s : ByteArray) (w : World) (hs : s.size < 35184372088832) (hV : CaseVar 0 caseA w) (hT : Lib.Utf8Tabs 7 8 w) :
    Calls Tryd.prog 48 #[.string s] w fun e w' => e = .returned (.string ⟨(Lib.toLowerD s.data.toList).toArray⟩) ∧ Below w.heap.size w w' := Any.strings_ToLower_any Tryd.lays159 Tryd.Builder_Extra_159 s w hs hV hT
open Go.RowKit Go.Lib in
theorem Tryd.unicode_is16_any (T : Array Rg) (R oR cap : Nat) (z : Nat) (w : World) (hz : z < 65536) (hT : RgTab .u16 R oR T w) (hok : RgOk 65536 T) (hn : T.size ≤ 1000000000) :
    Calls Tryd.prog 135 #[.slice (some ⟨R, oR, none⟩) T.size cap, .int .u16 z] w fun e w' => e = .returned (.bool (is16Go T z)) ∧ ∃ q, w' = w.drewN q := Any.unicode_is16_any Tryd.lays311 T R oR cap z w hz hT hok hn
def Tryd.lays312_ren : Go.Shelf.Ren := ⟨fun | 312 => 136 | n => n, fun | 194 => 165 | 51 => 103 | 4 => 4 | 3 => 3 | 0 => 0 | 227 => 194 | 201 => 173 | 46 => 115 | n => n, fun | n => n⟩
theorem Tryd.lays312 : Go.Proofs.Lays.n312 Tryd.prog Tryd.lays312_ren := {
  mixed := by kernel_rfl
  f312 := Tryd.func136.trans (congrArg some (by kernel_rfl))
  t0 := Tryd.underlying0
  a0 := Tryd.isAgg0
  z0 := Tryd.sizeOf0
  v0 := Tryd.zeroValue0
  t3 := Tryd.underlying3
  a3 := Tryd.isAgg3
  z3 := Tryd.sizeOf3
  v3 := Tryd.zeroValue3
  t4 := Tryd.underlying4
  a4 := Tryd.isAgg4
  z4 := Tryd.sizeOf4
  v4 := Tryd.zeroValue4
  t46 := Tryd.underlying115
  a46 := Tryd.isAgg115
  z46 := Tryd.sizeOf115
  v46 := Tryd.zeroValue115
  t51 := Tryd.underlying103
  a51 := Tryd.isAgg103
  z51 := Tryd.sizeOf103
  v51 := Tryd.zeroValue103
  t194 := Tryd.underlying165
  a194 := Tryd.isAgg165
  z194 := Tryd.sizeOf165
  v194 := Tryd.zeroValue165
  t201 := Tryd.underlying173
  a201 := Tryd.isAgg173
  z201 := Tryd.sizeOf173
  v201 := Tryd.zeroValue173
  t227 := Tryd.underlying194
  a227 := Tryd.isAgg194
  z227 := Tryd.sizeOf194
  v227 := Tryd.zeroValue194 }
open Go.RowKit Go.Lib in
theorem Tryd.unicode_is32_any (T : Array Rg) (R oR cap : Nat) (z : Nat) (w : World) (hz : z < 4294967296) (hT : RgTab .u32 R oR T w) (hok : RgOk 4294967296 T) (hn : T.size ≤ 1000000000) :
    Calls Tryd.prog 136 #[.slice (some ⟨R, oR, none⟩) T.size cap, .int .u32 z] w fun e w' => e = .returned (.bool (is32Go T z)) ∧ Below w.heap.size w w' := Any.unicode_is32_any Tryd.lays312 T R oR cap z w hz hT hok hn
open Go.RowKit Go.Lib in
theorem Tryd.unicode_isExcludingLatin_any (Tb oT : Nat) (T : RTab) (r : Int) (w : World) (hlo : -2147483648 ≤ r) (hhi : r ≤ 2147483647) (hA : RTabAt Tb oT T w) (hok : RTabOk T) :
    Calls Tryd.prog 110 #[.pointer (some ⟨Tb, oT, none⟩), .int .i32 r] w fun e w' => e = .returned (.bool (exclGo T r)) ∧ Below w.heap.size w w' := Any.unicode_isExcludingLatin_any Tryd.lays261 Tb oT T r w hlo hhi hA hok
open Go.RowKit Go.Lib in
theorem Tryd.unicode_IsLetter_any (T : RTab) (r : Int) (w : World) (hlo : -2147483648 ≤ r) (hhi : r ≤ 2147483647) (htab : Lib.TabIs Tryd.prog w "unicode.properties" .u8 Lib.propertiesTab) (hV : RVar 2 T w) (hok : RTabOk T) :
    Calls Tryd.prog 91 #[.int .i32 r] w fun e w' => e = .returned (.bool (if latin1 r then isLetterL r else exclGo T r)) ∧ Below w.heap.size w w' := Any.unicode_IsLetter_any Tryd.lays200 (by kernel_rfl) T r w hlo hhi htab hV hok
open Go.RowKit Go.Lib in
theorem Tryd.unicode_IsDigit_any (T : RTab) (r : Int) (w : World) (hlo : -2147483648 ≤ r) (hhi : r ≤ 2147483647) (hV : RVar 3 T w) (hok : RTabOk T) :
    Calls Tryd.prog 92 #[.int .i32 r] w fun e w' => e = .returned (.bool (if r ≤ 255 then isDigitL r else exclGo T r)) ∧ Below w.heap.size w w' := Any.unicode_IsDigit_any Tryd.lays198 T r w hlo hhi hV hok
open Go.RowKit Go.Lib in
theorem Tryd.strings_indexFunc_grows (g : Nat) (lb : Array Value) (eg : ∀ args w, (callFunc g args).run Tryd.prog w = .ok (.enter g args) w) (p : Nat → Bool) (truth : Bool) (s : ByteArray) (w : World) (hp : PredGrows Tryd.prog g lb p w) :
    Calls Tryd.prog 150 #[.string s, .func (.func g) #[] lb, .bool truth] w fun e w' => e = .returned (.int .i64 (Lib.idxFunc p truth s)) ∧ Below w.heap.size w w' := Any.strings_indexFunc_grows Tryd.lays315 g lb eg p truth s w hp
open Go.RowKit Go.Lib in
theorem Tryd.strings_lastIndexFunc_grows (g : Nat) (lb : Array Value) (eg : ∀ args w, (callFunc g args).run Tryd.prog w = .ok (.enter g args) w) (p : Nat → Bool) (truth : Bool) (s : ByteArray) (w : World) (hs : s.size ≤ 9223372036854775807) (hT : Lib.Utf8Tabs 7 8 w) (hp : PredGrows Tryd.prog g lb p w) :
    Calls Tryd.prog 138 #[.string s, .func (.func g) #[] lb, .bool truth] w fun e w' => e = .returned (.int .i64 (Lib.lastIdxFunc p truth s)) ∧ Below w.heap.size w w' := Any.strings_lastIndexFunc_grows Tryd.lays273 g lb eg p truth s w hs hT hp
open Go.RowKit Go.Lib in
theorem Tryd.strings_TrimLeftFunc_grows (g : Nat) (lb : Array Value) (eg : ∀ args w, (callFunc g args).run Tryd.prog w = .ok (.enter g args) w) (p : Nat → Bool) (s : ByteArray) (w : World) (hp : PredGrows Tryd.prog g lb p w) :
    Calls Tryd.prog 137 #[.string s, .func (.func g) #[] lb] w fun e w' => e = .returned (.string (Lib.trimLeftF p s)) ∧ Below w.heap.size w w' := Any.strings_TrimLeftFunc_grows Tryd.lays272 g lb eg p s w hp
open Go.RowKit Go.Lib in
theorem Tryd.strings_TrimRightFunc_grows (g : Nat) (lb : Array Value) (eg : ∀ args w, (callFunc g args).run Tryd.prog w = .ok (.enter g args) w) (p : Nat → Bool) (s : ByteArray) (w : World) (hs : s.size ≤ 9223372036854775807) (hT : Lib.Utf8Tabs 7 8 w) (hp : PredGrows Tryd.prog g lb p w) :
    Calls Tryd.prog 113 #[.string s, .func (.func g) #[] lb] w fun e w' => e = .returned (.string (Lib.trimRightF p s)) ∧ Below w.heap.size w w' := Any.strings_TrimRightFunc_grows Tryd.lays238 g lb eg p s w hs hT hp
open Go.RowKit Go.Lib in
theorem Tryd.strings_TrimFunc_grows (g : Nat) (lb : Array Value) (eg : ∀ args w, (callFunc g args).run Tryd.prog w = .ok (.enter g args) w) (p : Nat → Bool) (s : ByteArray) (w : World) (hs : s.size ≤ 9223372036854775807) (hT : Lib.Utf8Tabs 7 8 w) (hp : PredGrows Tryd.prog g lb p w) :
    Calls Tryd.prog 112 #[.string s, .func (.func g) #[] lb] w fun e w' => e = .returned (.string (Lib.trimF p s)) ∧ Below w.heap.size w w' := Any.strings_TrimFunc_grows Tryd.lays237 g lb eg p s w hs hT hp
open Go.RowKit Go.Lib in
theorem Tryd.unicode_IsLetter_all (r : Int) (w : World) (hlo : -2147483648 ≤ r) (hhi : r ≤ 2147483647) (htab : Lib.TabIs Tryd.prog w "unicode.properties" .u8 Lib.propertiesTab) (hV : RVar 2 letterT w) :
    Calls Tryd.prog 91 #[.int .i32 r] w fun e w' => e = .returned (.bool (isLetterU r)) ∧ Below w.heap.size w w' := Any.unicode_IsLetter_all Tryd.lays200 (by kernel_rfl) r w hlo hhi htab hV
open Go.RowKit Go.Lib in
theorem Tryd.unicode_IsDigit_all (r : Int) (w : World) (hlo : -2147483648 ≤ r) (hhi : r ≤ 2147483647) (hV : RVar 3 digitT w) :
    Calls Tryd.prog 92 #[.int .i32 r] w fun e w' => e = .returned (.bool (isDigitU r)) ∧ Below w.heap.size w w' := Any.unicode_IsDigit_all Tryd.lays198 r w hlo hhi hV
open Go.RowKit Go.Lib in
theorem Tryd.strings_Map_grows (g : Nat) (lb : Array Value) (eg : ∀ args w, (callFunc g args).run Tryd.prog w = .ok (.enter g args) w) (f : Int → Int) (s : ByteArray) (w : World) (hs : s.size < 35184372088832) (hf : MapGrows Tryd.prog g lb f w) (hnn : ∀ x : Nat, x ≤ 1114111 → -2147483648 ≤ f x ∧ f x ≤ 2147483647) (hT : Lib.Utf8Tabs 7 8 w) :
    Calls Tryd.prog 67 #[.func (.func g) #[] lb, .string s] w fun e w' => e = .returned (.string ⟨(Lib.mapD f s.data.toList).toArray⟩) ∧ Below w.heap.size w w' := Any.strings_Map_grows Tryd.lays230 Tryd.Builder_Extra_230 g lb eg f s w hs hf hnn hT
def Tryd.laysNm237_ren : Go.Shelf.Ren := ⟨fun | 37 => 145 | n => n, fun | 3 => 3 | 4 => 4 | n => n, fun | n => n⟩
theorem Tryd.laysNm237 : Go.Proofs.Lays2.n37 Tryd.prog Tryd.laysNm237_ren := {
  mixed := by kernel_rfl
  f37 := Tryd.func145.trans (congrArg some (by kernel_rfl))
  t3 := Tryd.underlying3
  a3 := Tryd.isAgg3
  z3 := Tryd.sizeOf3
  v3 := Tryd.zeroValue3
  t4 := Tryd.underlying4
  a4 := Tryd.isAgg4
  z4 := Tryd.sizeOf4
  v4 := Tryd.zeroValue4 }
open Go.RowKit Go.Lib in
theorem Tryd.cmp_isNaN_int2 (x : Int) (w : World) :
    Calls Tryd.prog 145 #[.int .i64 x] w fun e w' => e = .returned (.bool false) ∧ w' = w := Any.cmp_isNaN_int2 Tryd.laysNm237 x w
def Tryd.laysNm231_ren : Go.Shelf.Ren := ⟨fun | 31 => 124 | 37 => 145 | n => n, fun | 3 => 3 | 4 => 4 | n => n, fun | n => n⟩
theorem Tryd.laysNm231 : Go.Proofs.Lays2.n31 Tryd.prog Tryd.laysNm231_ren := {
  mixed := by kernel_rfl
  f31 := Tryd.func124.trans (congrArg some (by kernel_rfl))
  f37 := Tryd.func145.trans (congrArg some (by kernel_rfl))
  t3 := Tryd.underlying3
  a3 := Tryd.isAgg3
  z3 := Tryd.sizeOf3
  v3 := Tryd.zeroValue3
  t4 := Tryd.underlying4
  a4 := Tryd.isAgg4
  z4 := Tryd.sizeOf4
  v4 := Tryd.zeroValue4 }
open Go.RowKit Go.Lib in
theorem Tryd.cmp_Less_int2 (x y : Int) (w : World) :
    Calls Tryd.prog 124 #[.int .i64 x, .int .i64 y] w fun e w' => e = .returned (.bool (decide (x < y))) ∧ w' = w := Any.cmp_Less_int2 Tryd.laysNm231 x y w
open Go.RowKit Go.Sort in
theorem Tryd.slices_Sort_int_none (p : Option Addr) (cap : Nat) (w : World) :
    Calls Tryd.prog 80 #[.slice p 0 cap] w fun e w' => e = .returned (.tuple #[]) ∧ w' = w := Any.slices_Sort_int_none Tryd.lays189 p cap w
open Go.RowKit Go.Sort in
theorem Tryd.sort_Ints_none (p : Option Addr) (cap : Nat) (w : World) :
    Calls Tryd.prog 56 #[.slice p 0 cap] w fun e w' => e = .returned (.tuple #[]) ∧ w' = w := Any.sort_Ints_none Tryd.lays191 p cap w
def Tryd.lays115_ren : Go.Shelf.Ren := ⟨fun | 115 => 74 | n => n, fun | 37 => 70 | 4 => 4 | 9 => 9 | 5 => 5 | n => n, fun | n => n⟩
theorem Tryd.lays115 : Go.Proofs.Lays.n115 Tryd.prog Tryd.lays115_ren := {
  mixed := by kernel_rfl
  f115 := Tryd.func74.trans (congrArg some (by kernel_rfl))
  t4 := Tryd.underlying4
  a4 := Tryd.isAgg4
  z4 := Tryd.sizeOf4
  v4 := Tryd.zeroValue4
  t9 := Tryd.underlying9
  a9 := Tryd.isAgg9
  z9 := Tryd.sizeOf9
  v9 := Tryd.zeroValue9
  t37 := Tryd.underlying70
  a37 := Tryd.isAgg70
  z37 := Tryd.sizeOf70
  v37 := Tryd.zeroValue70 }
open Go.Proofs Go.RowKit Go.Lib in
theorem Tryd.bytes_Equal_strs (v1 v2 : Value) (t1 t2 : ByteArray) (w : World) (h1 : (convert 70 9 v1).run Tryd.prog w = .ok (.string t1) w) (h2 : (convert 70 9 v2).run Tryd.prog w = .ok (.string t2) w) :
    Calls Tryd.prog 74 #[v1, v2] w fun e w' => e = .returned (.bool (t1.toList == t2.toList)) ∧ w' = w := Any.bytes_Equal_strs Tryd.lays115 v1 v2 t1 t2 w h1 h2
def Tryd.laysnb116_ren : Go.Shelf.Ren := ⟨fun | 116 => 53 | 115 => 74 | n => n, fun | 37 => 70 | 4 => 4 | 3 => 3 | 9 => 9 | 5 => 5 | n => n, fun | n => n⟩
theorem Tryd.laysnb116 : Go.Proofs.Lays.nb116 Tryd.prog Tryd.laysnb116_ren := {
  mixed := by kernel_rfl
  f115 := Tryd.func74.trans (congrArg some (by kernel_rfl))
  f116 := Tryd.func53.trans (congrArg some (by kernel_rfl))
  t3 := Tryd.underlying3
  a3 := Tryd.isAgg3
  z3 := Tryd.sizeOf3
  v3 := Tryd.zeroValue3
  t4 := Tryd.underlying4
  a4 := Tryd.isAgg4
  z4 := Tryd.sizeOf4
  v4 := Tryd.zeroValue4
  t9 := Tryd.underlying9
  a9 := Tryd.isAgg9
  z9 := Tryd.sizeOf9
  v9 := Tryd.zeroValue9
  t37 := Tryd.underlying70
  a37 := Tryd.isAgg70
  z37 := Tryd.sizeOf70
  v37 := Tryd.zeroValue70
  t5 := Tryd.underlying5
  a5 := Tryd.isAgg5
  z5 := Tryd.sizeOf5
  v5 := Tryd.zeroValue5 }
theorem Tryd.bytes_HasPrefix_e2 (p1 p2 : Option Addr) (n c d : Nat) (w : World) :
    Calls Tryd.prog 53 #[.slice p1 n c, .slice p2 0 d] w fun e w' => e = .returned (.bool true) ∧ w' = w := Any.bytes_HasPrefix_e2 Tryd.laysnb116 p1 p2 n c d w
theorem Tryd.bytes_HasPrefix_e1 (p1 p2 : Option Addr) (c m d : Nat) (hm : 0 < m) (w : World) :
    Calls Tryd.prog 53 #[.slice p1 0 c, .slice p2 m d] w fun e w' => e = .returned (.bool false) ∧ w' = w := Any.bytes_HasPrefix_e1 Tryd.laysnb116 p1 p2 c m d hm w
def Tryd.laysnb117_ren : Go.Shelf.Ren := ⟨fun | 117 => 79 | 115 => 74 | n => n, fun | 37 => 70 | 4 => 4 | 3 => 3 | 9 => 9 | 5 => 5 | n => n, fun | n => n⟩
theorem Tryd.laysnb117 : Go.Proofs.Lays.nb117 Tryd.prog Tryd.laysnb117_ren := {
  mixed := by kernel_rfl
  f115 := Tryd.func74.trans (congrArg some (by kernel_rfl))
  f117 := Tryd.func79.trans (congrArg some (by kernel_rfl))
  t3 := Tryd.underlying3
  a3 := Tryd.isAgg3
  z3 := Tryd.sizeOf3
  v3 := Tryd.zeroValue3
  t4 := Tryd.underlying4
  a4 := Tryd.isAgg4
  z4 := Tryd.sizeOf4
  v4 := Tryd.zeroValue4
  t9 := Tryd.underlying9
  a9 := Tryd.isAgg9
  z9 := Tryd.sizeOf9
  v9 := Tryd.zeroValue9
  t37 := Tryd.underlying70
  a37 := Tryd.isAgg70
  z37 := Tryd.sizeOf70
  v37 := Tryd.zeroValue70
  t5 := Tryd.underlying5
  a5 := Tryd.isAgg5
  z5 := Tryd.sizeOf5
  v5 := Tryd.zeroValue5 }
theorem Tryd.bytes_HasSuffix_e2 (p1 p2 : Option Addr) (n c d : Nat) (_hnc : n ≤ c) (hbig : n ≤ 9223372036854775807) (w : World) :
    Calls Tryd.prog 79 #[.slice p1 n c, .slice p2 0 d] w fun e w' => e = .returned (.bool true) ∧ w' = w := Any.bytes_HasSuffix_e2 Tryd.laysnb117 p1 p2 n c d _hnc hbig w
theorem Tryd.bytes_HasSuffix_e1 (p1 p2 : Option Addr) (c m d : Nat) (hm : 0 < m) (w : World) :
    Calls Tryd.prog 79 #[.slice p1 0 c, .slice p2 m d] w fun e w' => e = .returned (.bool false) ∧ w' = w := Any.bytes_HasSuffix_e1 Tryd.laysnb117 p1 p2 c m d hm w
theorem Tryd.bytes_HasPrefix_all (p1 p2 : Option Addr) (n c m d : Nat) (xs ys : List Int) (w : World) (hx : xs.length = n) (hy : ys.length = m) (hnc : n ≤ c) (h1 : Lib.BytesIn w p1 n xs) (h2 : Lib.BytesIn w p2 m ys) :
    Calls Tryd.prog 53 #[.slice p1 n c, .slice p2 m d] w fun e w' => e = .returned (.bool (Lib.hasPrefix (Lib.bytesOf xs) (Lib.bytesOf ys))) ∧ w' = w := Any.bytes_HasPrefix_all Tryd.laysnb116 p1 p2 n c m d xs ys w hx hy hnc h1 h2
theorem Tryd.bytes_HasSuffix_all (p1 p2 : Option Addr) (n c m d : Nat) (xs ys : List Int) (w : World) (hx : xs.length = n) (hy : ys.length = m) (hnc : n ≤ c) (hbig : n ≤ 9223372036854775807) (h1 : Lib.BytesIn w p1 n xs) (h2 : Lib.BytesIn w p2 m ys) :
    Calls Tryd.prog 79 #[.slice p1 n c, .slice p2 m d] w fun e w' => e = .returned (.bool (Lib.hasSuffix (Lib.bytesOf xs) (Lib.bytesOf ys))) ∧ w' = w := Any.bytes_HasSuffix_all Tryd.laysnb117 p1 p2 n c m d xs ys w hx hy hnc hbig h1 h2
def Tryd.laysnb115_ren : Go.Shelf.Ren := ⟨fun | 115 => 74 | n => n, fun | 37 => 70 | 4 => 4 | 9 => 9 | 5 => 5 | n => n, fun | n => n⟩
theorem Tryd.laysnb115 : Go.Proofs.Lays.nb115 Tryd.prog Tryd.laysnb115_ren := {
  mixed := by kernel_rfl
  f115 := Tryd.func74.trans (congrArg some (by kernel_rfl))
  t4 := Tryd.underlying4
  a4 := Tryd.isAgg4
  z4 := Tryd.sizeOf4
  v4 := Tryd.zeroValue4
  t9 := Tryd.underlying9
  a9 := Tryd.isAgg9
  z9 := Tryd.sizeOf9
  v9 := Tryd.zeroValue9
  t37 := Tryd.underlying70
  a37 := Tryd.isAgg70
  z37 := Tryd.sizeOf70
  v37 := Tryd.zeroValue70
  t5 := Tryd.underlying5
  a5 := Tryd.isAgg5
  z5 := Tryd.sizeOf5
  v5 := Tryd.zeroValue5 }
theorem Tryd.bytes_Equal_all (p1 p2 : Option Addr) (n c m d : Nat) (xs ys : List Int) (w : World) (hx : xs.length = n) (hy : ys.length = m) (h1 : Lib.BytesIn w p1 n xs) (h2 : Lib.BytesIn w p2 m ys) :
    Calls Tryd.prog 74 #[.slice p1 n c, .slice p2 m d] w fun e w' => e = .returned (.bool (Lib.bytesOf xs == Lib.bytesOf ys)) ∧ w' = w := Any.bytes_Equal_all Tryd.laysnb115 p1 p2 n c m d xs ys w hx hy h1 h2
theorem Tryd.bytes_Equal (v1 v2 : Value) (xs ys : List Int) (w : World) (h1 : (convert 70 9 v1).run Tryd.prog w = .ok (.string (strOfNums xs)) w) (h2 : (convert 70 9 v2).run Tryd.prog w = .ok (.string (strOfNums ys)) w) :
    Calls Tryd.prog 74 #[v1, v2] w fun e w' => e = .returned (.bool (Lib.bytesOf xs == Lib.bytesOf ys)) ∧ w' = w := Any.bytes_Equal Tryd.lays115 v1 v2 xs ys w h1 h2
theorem Tryd.bytes_HasPrefix (b1 o1 n c b2 o2 m d : Nat) (xs ys : List Int) (w : World) (hx : xs.length = n) (hy : ys.length = m) (hnc : n ≤ c) (hc1 : ∀ i, i < n → w.cell? ⟨b1, o1 + i, none⟩ = some (.int .u8 (xs.getD i 0))) (hc2 : ∀ i, i < m → w.cell? ⟨b2, o2 + i, none⟩ = some (.int .u8 (ys.getD i 0))) :
    Calls Tryd.prog 53 #[.slice (some ⟨b1, o1, none⟩) n c, .slice (some ⟨b2, o2, none⟩) m d] w fun e w' => e = .returned (.bool (Lib.hasPrefix (Lib.bytesOf xs) (Lib.bytesOf ys))) ∧ w' = w := Any.bytes_HasPrefix Tryd.laysnb116 b1 o1 n c b2 o2 m d xs ys w hx hy hnc hc1 hc2
theorem Tryd.bytes_HasSuffix (b1 o1 n c b2 o2 m d : Nat) (xs ys : List Int) (w : World) (hx : xs.length = n) (hy : ys.length = m) (hnc : n ≤ c) (hbig : n ≤ 9223372036854775807) (hc1 : ∀ i, i < n → w.cell? ⟨b1, o1 + i, none⟩ = some (.int .u8 (xs.getD i 0))) (hc2 : ∀ i, i < m → w.cell? ⟨b2, o2 + i, none⟩ = some (.int .u8 (ys.getD i 0))) :
    Calls Tryd.prog 79 #[.slice (some ⟨b1, o1, none⟩) n c, .slice (some ⟨b2, o2, none⟩) m d] w fun e w' => e = .returned (.bool (Lib.hasSuffix (Lib.bytesOf xs) (Lib.bytesOf ys))) ∧ w' = w := Any.bytes_HasSuffix Tryd.laysnb117 b1 o1 n c b2 o2 m d xs ys w hx hy hnc hbig hc1 hc2
end Go.Proofs
