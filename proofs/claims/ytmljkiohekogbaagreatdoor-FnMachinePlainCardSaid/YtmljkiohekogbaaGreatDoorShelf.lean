import Derived.Shelf.Strings.Builder1
import Derived.Shelf.Strings.TrimSpace
import Derived.Shelf.Small.Utf8
import Derived.Shelf.Small.Bits
import Derived.Shelf.Small.Wraps
import Derived.Shelf.Strings.BuilderF
import Derived.Shelf.Strings.BuilderK
import Derived.Shelf.Strings.BuilderRune
import Derived.Shelf.Utf8.AppendRune
import Derived.Shelf.Utf8.AppendRunePlain
import Derived.Shelf.Strconv.Itoa0
import Derived.Shelf.Strconv.Itoa1
import Derived.Shelf.LaysM
import Derived.Shelf.Strconv.Itoa2
import Derived.Shelf.Strconv.Itoa3
import Derived.Shelf.Sort.Plain
import Derived.Shelf.GgClosure.StringsIndexFunc
import Derived.Shelf.GgClosure.StringsTrimFunc
import Derived.Shelf.GgClosure.StringsRunes
import Derived.Shelf.Unicode.Latin
import Derived.Shelf.Unicode.Decode
import Derived.Shelf.Unicode.DecodeSlow
import Derived.Shelf.Unicode.DecodeAny
import Derived.Shelf.Unicode.Is16White
import Derived.Shelf.Unicode.IsSpaceAny
import Derived.Shelf.Unicode.DecodeLast
import Derived.Shelf.Strings.TrimSpaceAny
import Derived.Shelf.Unicode.Is16WhiteD
import Derived.Shelf.Unicode.IsSpaceAnyD
import Derived.Shelf.Unicode.Is16Any
import Derived.Shelf.Unicode.Is32Any
import Derived.Shelf.Unicode.ExclAny
import Derived.Shelf.Strings.FuncGrows
import Derived.Shelf.Strings.BuilderCap
import Derived.Ground.Names2Prog
import Derived.Shelf.Slices.SearchI
import Derived.Shelf.Slices.In.SortNone
import Derived.Shelf.Slices.In.SortNone2
import Derived.Shelf.Bytes.SlSearch0
import Derived.Shelf.Bytes.SlSmallAll
import Derived.Shelf.Bytes.SlEqualAll
import Derived.Shelf.Bytes.Small
import Derived.Test.YtmljkiohekogbaaGreatDoorProg
namespace Go.Proofs
open Go.Shelf
def Tryz.lays169_ren : Go.Shelf.Ren := ⟨fun | 169 => 36 | n => n, fun | 70 => 67 | 9 => 9 | 0 => 0 | 72 => 69 | 37 => 49 | 127 => 82 | 3 => 3 | 5 => 5 | n => n, fun | n => n⟩
theorem Tryz.lays169 : Go.Proofs.Lays.n169 Tryz.prog Tryz.lays169_ren := {
  mixed := by kernel_rfl
  f169 := Tryz.func36.trans (congrArg some (by kernel_rfl))
  t0 := Tryz.underlying0
  a0 := Tryz.isAgg0
  z0 := Tryz.sizeOf0
  v0 := Tryz.zeroValue0
  t3 := Tryz.underlying3
  a3 := Tryz.isAgg3
  z3 := Tryz.sizeOf3
  v3 := Tryz.zeroValue3
  t9 := Tryz.underlying9
  a9 := Tryz.isAgg9
  z9 := Tryz.sizeOf9
  v9 := Tryz.zeroValue9
  t37 := Tryz.underlying49
  a37 := Tryz.isAgg49
  z37 := Tryz.sizeOf49
  v37 := Tryz.zeroValue49
  t70 := Tryz.underlying67
  a70 := Tryz.isAgg67
  z70 := Tryz.sizeOf67
  v70 := Tryz.zeroValue67
  t72 := Tryz.underlying69
  a72 := Tryz.isAgg69
  z72 := Tryz.sizeOf69
  v72 := Tryz.zeroValue69
  t127 := Tryz.underlying82
  a127 := Tryz.isAgg82
  z127 := Tryz.sizeOf82
  v127 := Tryz.zeroValue82 }
theorem Tryz.Builder_Extra_169 : Builder.Extra Tryz.prog Tryz.lays169_ren := {
  sizeBuilder := by kernel_rfl
  liesBuilder := by kernel_rfl
  t5 := Tryz.underlying5
  a5 := Tryz.isAgg5
  z5 := Tryz.sizeOf5
  v5 := Tryz.zeroValue5
  infoByte := by kernel_rfl
  cellsByte := by kernel_rfl
  sizeByte := by kernel_rfl
  neB5 := by decide }
open Go.RowKit in
theorem Tryz.Builder_String (B b : Nat) (l : List UInt8) (w : World) (h : Lib.IsBuilder 69 5 B b (Lib.byteCells l) w) (h0 : l ≠ []) :
    Calls Tryz.prog 36 #[.pointer (some ⟨b, 0, none⟩)] w fun e w' => e = .returned (.string ⟨l.toArray⟩) ∧ Below B w w' := Any.Builder_String Tryz.lays169 Tryz.Builder_Extra_169 B b l w h h0
open Go.RowKit in
theorem Tryz.Builder_String_empty (B b : Nat) (w : World) (h : Lib.IsBuilder 69 5 B b [] w) (hBw : B ≤ w.heap.size) :
    Calls Tryz.prog 36 #[.pointer (some ⟨b, 0, none⟩)] w fun e w' => e = .returned (.string ⟨#[]⟩) ∧ Below B w w' := Any.Builder_String_empty Tryz.lays169 Tryz.Builder_Extra_169 B b w h hBw
open Go.RowKit in
theorem Tryz.Builder_String_any (B b : Nat) (l : List UInt8) (w : World) (h : Lib.IsBuilder 69 5 B b (Lib.byteCells l) w) (hBw : B ≤ w.heap.size) :
    Calls Tryz.prog 36 #[.pointer (some ⟨b, 0, none⟩)] w fun e w' => e = .returned (.string ⟨l.toArray⟩) ∧ Below B w w' := Any.Builder_String_any Tryz.lays169 Tryz.Builder_Extra_169 B b l w h hBw
def Tryz.lays163_ren : Go.Shelf.Ren := ⟨fun | 163 => 54 | 237 => 70 | 199 => 71 | 238 => 72 | 272 => 89 | 261 => 90 | 273 => 91 | 197 => 92 | 315 => 100 | 311 => 101 | 312 => 102 | 271 => 103 | 260 => 104 | 120 => 108 | n => n, fun | 9 => 9 | 37 => 49 | 3 => 3 | 0 => 0 | 5 => 5 | 4 => 4 | 40 => 65 | 119 => 108 | 21 => 21 | 51 => 76 | 141 => 125 | 105 => 127 | 196 => 142 | 193 => 139 | 198 => 145 | 49 => 143 | 194 => 140 | 201 => 148 | 226 => 154 | 46 => 89 | 227 => 155 | 139 => 159 | 138 => 158 | n => n, fun | 0 => 1 | 6 => 2 | 3 => 5 | 4 => 6 | n => n⟩
theorem Tryz.lays163 : Go.Proofs.Lays.n163 Tryz.prog Tryz.lays163_ren := {
  mixed := by kernel_rfl
  f120 := Tryz.func108.trans (congrArg some (by kernel_rfl))
  f163 := Tryz.func54.trans (congrArg some (by kernel_rfl))
  f197 := Tryz.func92.trans (congrArg some (by kernel_rfl))
  f199 := Tryz.func71.trans (congrArg some (by kernel_rfl))
  f237 := Tryz.func70.trans (congrArg some (by kernel_rfl))
  f238 := Tryz.func72.trans (congrArg some (by kernel_rfl))
  f260 := Tryz.func104.trans (congrArg some (by kernel_rfl))
  f261 := Tryz.func90.trans (congrArg some (by kernel_rfl))
  f271 := Tryz.func103.trans (congrArg some (by kernel_rfl))
  f272 := Tryz.func89.trans (congrArg some (by kernel_rfl))
  f273 := Tryz.func91.trans (congrArg some (by kernel_rfl))
  f311 := Tryz.func101.trans (congrArg some (by kernel_rfl))
  f312 := Tryz.func102.trans (congrArg some (by kernel_rfl))
  f315 := Tryz.func100.trans (congrArg some (by kernel_rfl))
  t0 := Tryz.underlying0
  a0 := Tryz.isAgg0
  z0 := Tryz.sizeOf0
  v0 := Tryz.zeroValue0
  t3 := Tryz.underlying3
  a3 := Tryz.isAgg3
  z3 := Tryz.sizeOf3
  v3 := Tryz.zeroValue3
  t4 := Tryz.underlying4
  a4 := Tryz.isAgg4
  z4 := Tryz.sizeOf4
  v4 := Tryz.zeroValue4
  t5 := Tryz.underlying5
  a5 := Tryz.isAgg5
  z5 := Tryz.sizeOf5
  v5 := Tryz.zeroValue5
  t9 := Tryz.underlying9
  a9 := Tryz.isAgg9
  z9 := Tryz.sizeOf9
  v9 := Tryz.zeroValue9
  t21 := Tryz.underlying21
  a21 := Tryz.isAgg21
  z21 := Tryz.sizeOf21
  v21 := Tryz.zeroValue21
  t37 := Tryz.underlying49
  a37 := Tryz.isAgg49
  z37 := Tryz.sizeOf49
  v37 := Tryz.zeroValue49
  t40 := Tryz.underlying65
  a40 := Tryz.isAgg65
  z40 := Tryz.sizeOf65
  v40 := Tryz.zeroValue65
  t46 := Tryz.underlying89
  a46 := Tryz.isAgg89
  z46 := Tryz.sizeOf89
  v46 := Tryz.zeroValue89
  t49 := Tryz.underlying143
  a49 := Tryz.isAgg143
  z49 := Tryz.sizeOf143
  v49 := Tryz.zeroValue143
  t51 := Tryz.underlying76
  a51 := Tryz.isAgg76
  z51 := Tryz.sizeOf76
  v51 := Tryz.zeroValue76
  t105 := Tryz.underlying127
  a105 := Tryz.isAgg127
  z105 := Tryz.sizeOf127
  v105 := Tryz.zeroValue127
  t119 := Tryz.underlying108
  a119 := Tryz.isAgg108
  z119 := Tryz.sizeOf108
  t138 := Tryz.underlying158
  a138 := Tryz.isAgg158
  z138 := Tryz.sizeOf158
  v138 := Tryz.zeroValue158
  t139 := Tryz.underlying159
  a139 := Tryz.isAgg159
  z139 := Tryz.sizeOf159
  v139 := Tryz.zeroValue159
  t141 := Tryz.underlying125
  a141 := Tryz.isAgg125
  z141 := Tryz.sizeOf125
  v141 := Tryz.zeroValue125
  t193 := Tryz.underlying139
  a193 := Tryz.isAgg139
  z193 := Tryz.sizeOf139
  v193 := Tryz.zeroValue139
  t194 := Tryz.underlying140
  a194 := Tryz.isAgg140
  z194 := Tryz.sizeOf140
  v194 := Tryz.zeroValue140
  t196 := Tryz.underlying142
  a196 := Tryz.isAgg142
  z196 := Tryz.sizeOf142
  v196 := Tryz.zeroValue142
  t198 := Tryz.underlying145
  a198 := Tryz.isAgg145
  z198 := Tryz.sizeOf145
  v198 := Tryz.zeroValue145
  t201 := Tryz.underlying148
  a201 := Tryz.isAgg148
  z201 := Tryz.sizeOf148
  v201 := Tryz.zeroValue148
  t226 := Tryz.underlying154
  a226 := Tryz.isAgg154
  z226 := Tryz.sizeOf154
  v226 := Tryz.zeroValue154
  t227 := Tryz.underlying155
  a227 := Tryz.isAgg155
  z227 := Tryz.sizeOf155
  v227 := Tryz.zeroValue155
  g0 := by kernel_rfl
  g3 := by kernel_rfl
  g4 := by kernel_rfl
  g6 := by kernel_rfl }
theorem Tryz.Space_Extra_163 : Space.Extra Tryz.prog Tryz.lays163_ren := {
  gNamed := by kernel_rfl }
open Go.RowKit in
theorem Tryz.strings_TrimSpace (s : ByteArray) (w : World) (hs : s.size ≤ 9223372036854775807) (hascii : ∀ (j : Nat) b, s.data.toList[j]? = some b → b.toNat < 128) (htab : Lib.TabIs Tryz.prog w "strings.asciiSpace" .u8 Lib.asciiSpaceTab) :
    Calls Tryz.prog 54 #[.string s] w fun e w' => e = .returned (.string ⟨(Lib.trimSpace s.data.toList).toArray⟩) ∧ w' = Lib.bytesWorld w 5 s := Any.strings_TrimSpace Tryz.lays163 Tryz.Space_Extra_163 s w hs hascii htab
def Tryz.lays120_ren : Go.Shelf.Ren := ⟨fun | 120 => 108 | n => n, fun | 5 => 5 | 4 => 4 | n => n, fun | n => n⟩
theorem Tryz.lays120 : Go.Proofs.Lays.n120 Tryz.prog Tryz.lays120_ren := {
  mixed := by kernel_rfl
  f120 := Tryz.func108.trans (congrArg some (by kernel_rfl))
  t4 := Tryz.underlying4
  a4 := Tryz.isAgg4
  z4 := Tryz.sizeOf4
  v4 := Tryz.zeroValue4
  t5 := Tryz.underlying5
  a5 := Tryz.isAgg5
  z5 := Tryz.sizeOf5
  v5 := Tryz.zeroValue5 }
theorem Tryz.utf8_RuneStart (b : Int) (w : World) (h0 : 0 ≤ b) (h1 : b < 256) :
    Calls Tryz.prog 108 #[.int .u8 b] w fun e w' => e = .returned (.bool (Lib.runeStart b)) ∧ w' = w := Any.utf8_RuneStart Tryz.lays120 b w h0 h1
def Tryz.lays128_ren : Go.Shelf.Ren := ⟨fun | 128 => 86 | n => n, fun | 51 => 76 | 3 => 3 | 4 => 4 | 46 => 89 | 5 => 5 | 9 => 9 | n => n, fun | n => n⟩
theorem Tryz.lays128 : Go.Proofs.Lays.n128 Tryz.prog Tryz.lays128_ren := {
  mixed := by kernel_rfl
  f128 := Tryz.func86.trans (congrArg some (by kernel_rfl))
  t3 := Tryz.underlying3
  a3 := Tryz.isAgg3
  z3 := Tryz.sizeOf3
  v3 := Tryz.zeroValue3
  t4 := Tryz.underlying4
  a4 := Tryz.isAgg4
  z4 := Tryz.sizeOf4
  v4 := Tryz.zeroValue4
  t5 := Tryz.underlying5
  a5 := Tryz.isAgg5
  z5 := Tryz.sizeOf5
  v5 := Tryz.zeroValue5
  t9 := Tryz.underlying9
  a9 := Tryz.isAgg9
  z9 := Tryz.sizeOf9
  v9 := Tryz.zeroValue9
  t46 := Tryz.underlying89
  a46 := Tryz.isAgg89
  z46 := Tryz.sizeOf89
  v46 := Tryz.zeroValue89
  t51 := Tryz.underlying76
  a51 := Tryz.isAgg76
  z51 := Tryz.sizeOf76
  v51 := Tryz.zeroValue76 }
theorem Tryz.bits_Len32 (x : Int) (w : World) (h0 : 0 ≤ x) (h1 : x ≤ 4294967295) :
    Calls Tryz.prog 86 #[.int .u32 x] w fun e w' => e = .returned (.int .i64 (Lib.bitLen x.toNat)) ∧ w' = w := Any.bits_Len32 Tryz.lays128 x w h0 h1
def Tryz.lays125_ren : Go.Shelf.Ren := ⟨fun | 125 => 61 | 128 => 86 | 129 => 65 | n => n, fun | 46 => 89 | 3 => 3 | 51 => 76 | 53 => 84 | 4 => 4 | 5 => 5 | 9 => 9 | n => n, fun | n => n⟩
theorem Tryz.lays125 : Go.Proofs.Lays.n125 Tryz.prog Tryz.lays125_ren := {
  mixed := by kernel_rfl
  f125 := Tryz.func61.trans (congrArg some (by kernel_rfl))
  f128 := Tryz.func86.trans (congrArg some (by kernel_rfl))
  f129 := Tryz.func65.trans (congrArg some (by kernel_rfl))
  t3 := Tryz.underlying3
  a3 := Tryz.isAgg3
  z3 := Tryz.sizeOf3
  v3 := Tryz.zeroValue3
  t4 := Tryz.underlying4
  a4 := Tryz.isAgg4
  z4 := Tryz.sizeOf4
  v4 := Tryz.zeroValue4
  t5 := Tryz.underlying5
  a5 := Tryz.isAgg5
  z5 := Tryz.sizeOf5
  v5 := Tryz.zeroValue5
  t9 := Tryz.underlying9
  a9 := Tryz.isAgg9
  z9 := Tryz.sizeOf9
  v9 := Tryz.zeroValue9
  t46 := Tryz.underlying89
  a46 := Tryz.isAgg89
  z46 := Tryz.sizeOf89
  v46 := Tryz.zeroValue89
  t51 := Tryz.underlying76
  a51 := Tryz.isAgg76
  z51 := Tryz.sizeOf76
  v51 := Tryz.zeroValue76
  t53 := Tryz.underlying84
  a53 := Tryz.isAgg84
  z53 := Tryz.sizeOf84
  v53 := Tryz.zeroValue84 }
theorem Tryz.bits_Len (x : Int) (w : World) (h0 : 0 ≤ x) (h1 : x ≤ 18446744073709551615) :
    Calls Tryz.prog 61 #[.int .u64 x] w fun e w' => e = .returned (.int .i64 (Lib.bitLen x.toNat)) ∧ w' = w := Any.bits_Len Tryz.lays125 x w h0 h1
def Tryz.lays215_ren : Go.Shelf.Ren := ⟨fun | 215 => 99 | n => n, fun | 3 => 3 | 4 => 4 | n => n, fun | n => n⟩
theorem Tryz.lays215 : Go.Proofs.Lays.n215 Tryz.prog Tryz.lays215_ren := {
  mixed := by kernel_rfl
  f215 := Tryz.func99.trans (congrArg some (by kernel_rfl))
  t3 := Tryz.underlying3
  a3 := Tryz.isAgg3
  z3 := Tryz.sizeOf3
  v3 := Tryz.zeroValue3
  t4 := Tryz.underlying4
  a4 := Tryz.isAgg4
  z4 := Tryz.sizeOf4
  v4 := Tryz.zeroValue4 }
open Go.RowKit in
theorem Tryz.cmp_isNaN_int (x : Int) (w : World) :
    Calls Tryz.prog 99 #[.int .i64 x] w fun e w' => e = .returned (.bool false) ∧ w' = w := Any.cmp_isNaN_int Tryz.lays215 x w
open Go.RowKit in
theorem Tryz.Builder_String_f (B b : Nat) (l : List UInt8) (w : World) (h : Lib.IsBuilderF 69 5 B b (Lib.byteCells l) w) (h0 : l ≠ []) :
    Calls Tryz.prog 36 #[.pointer (some ⟨b, 0, none⟩)] w fun e w' => e = .returned (.string ⟨l.toArray⟩) ∧ (Lib.IsBuilderF 69 5 B b (Lib.byteCells l) w' ∧ Below B w w') := Any.Builder_String_f Tryz.lays169 Tryz.Builder_Extra_169 B b l w h h0
open Go.RowKit in
theorem Tryz.Builder_String_empty_f (B b : Nat) (w : World) (h : Lib.IsBuilderF 69 5 B b [] w) (hBw : B ≤ w.heap.size) :
    Calls Tryz.prog 36 #[.pointer (some ⟨b, 0, none⟩)] w fun e w' => e = .returned (.string ⟨#[]⟩) ∧ (Lib.IsBuilderF 69 5 B b [] w' ∧ Below B w w') := Any.Builder_String_empty_f Tryz.lays169 Tryz.Builder_Extra_169 B b w h hBw
open Go.RowKit in
theorem Tryz.Builder_String_any_f (B b : Nat) (l : List UInt8) (w : World) (h : Lib.IsBuilderF 69 5 B b (Lib.byteCells l) w) (hBw : B ≤ w.heap.size) :
    Calls Tryz.prog 36 #[.pointer (some ⟨b, 0, none⟩)] w fun e w' => e = .returned (.string ⟨l.toArray⟩) ∧ (Lib.IsBuilderF 69 5 B b (Lib.byteCells l) w' ∧ Below B w w') := Any.Builder_String_any_f Tryz.lays169 Tryz.Builder_Extra_169 B b l w h hBw
open Go.RowKit in
theorem Tryz.Builder_String_k (B b : Nat) (l : List UInt8) (w : World) (h : Lib.IsBuilderF 69 5 B b (Lib.byteCells l) w) (h0 : l ≠ []) :
    Calls Tryz.prog 36 #[.pointer (some ⟨b, 0, none⟩)] w fun e w' => e = .returned (.string ⟨l.toArray⟩) ∧ (Lib.IsBuilderF 69 5 B b (Lib.byteCells l) w' ∧ Below B w w' ∧ Lib.OthersKept 5 (some b) w w') := Any.Builder_String_k Tryz.lays169 Tryz.Builder_Extra_169 B b l w h h0
open Go.RowKit in
theorem Tryz.Builder_String_empty_k (B b : Nat) (w : World) (h : Lib.IsBuilderF 69 5 B b [] w) (hBw : B ≤ w.heap.size) :
    Calls Tryz.prog 36 #[.pointer (some ⟨b, 0, none⟩)] w fun e w' => e = .returned (.string ⟨#[]⟩) ∧ (Lib.IsBuilderF 69 5 B b [] w' ∧ Below B w w' ∧ Lib.OthersKept 5 (some b) w w') := Any.Builder_String_empty_k Tryz.lays169 Tryz.Builder_Extra_169 B b w h hBw
open Go.RowKit in
theorem Tryz.Builder_String_any_k (B b : Nat) (l : List UInt8) (w : World) (h : Lib.IsBuilderF 69 5 B b (Lib.byteCells l) w) (hBw : B ≤ w.heap.size) :
    Calls Tryz.prog 36 #[.pointer (some ⟨b, 0, none⟩)] w fun e w' => e = .returned (.string ⟨l.toArray⟩) ∧ (Lib.IsBuilderF 69 5 B b (Lib.byteCells l) w' ∧ Below B w w' ∧ Lib.OthersKept 5 (some b) w w') := Any.Builder_String_any_k Tryz.lays169 Tryz.Builder_Extra_169 B b l w h hBw
def Tryz.lays278_ren : Go.Shelf.Ren := ⟨fun | 278 => 38 | n => n, fun | 37 => 49 | 21 => 21 | 51 => 76 | 4 => 4 | 46 => 89 | 5 => 5 | n => n, fun | n => n⟩
theorem Tryz.lays278 : Go.Proofs.Lays.n278 Tryz.prog Tryz.lays278_ren := {
  mixed := by kernel_rfl
  f278 := Tryz.func38.trans (congrArg some (by kernel_rfl))
  t4 := Tryz.underlying4
  a4 := Tryz.isAgg4
  z4 := Tryz.sizeOf4
  v4 := Tryz.zeroValue4
  t5 := Tryz.underlying5
  a5 := Tryz.isAgg5
  z5 := Tryz.sizeOf5
  v5 := Tryz.zeroValue5
  t21 := Tryz.underlying21
  a21 := Tryz.isAgg21
  z21 := Tryz.sizeOf21
  v21 := Tryz.zeroValue21
  t37 := Tryz.underlying49
  a37 := Tryz.isAgg49
  z37 := Tryz.sizeOf49
  v37 := Tryz.zeroValue49
  t46 := Tryz.underlying89
  a46 := Tryz.isAgg89
  z46 := Tryz.sizeOf89
  v46 := Tryz.zeroValue89
  t51 := Tryz.underlying76
  a51 := Tryz.isAgg76
  z51 := Tryz.sizeOf76
  v51 := Tryz.zeroValue76 }
open Go.RowKit in
theorem Tryz.utf8_appendRuneNonASCII_row (B : Nat) (v : Value) (n : Nat) (xs : List Value) (r : Int) (hr0 : -2147483648 ≤ r) (hr1 : r ≤ 2147483647) (hna : r < 0 ∨ 128 ≤ r) (w : World) (hown : w.ownsRowF B 5 1 v n xs) (hlen : n + 4 ≤ 140737488355328) (hBw : B ≤ w.heap.size) :
    Calls Tryz.prog 38 #[v, .int .i32 r] w fun e w' => ∃ v', e = .returned v' ∧ w'.ownsRowF B 5 1 v' (n + (Lib.runeCells r).length) (xs ++ Lib.runeCells r) ∧ ∃ o, (w.alloc o).grownBy w' v.ownBlock := Any.utf8_appendRuneNonASCII_row Tryz.lays278 (by kernel_rfl) B v n xs r hr0 hr1 hna w hown hlen hBw
def Tryz.lays242_ren : Go.Shelf.Ren := ⟨fun | 242 => 28 | 278 => 38 | n => n, fun | 37 => 49 | 21 => 21 | 51 => 76 | 4 => 4 | 5 => 5 | 46 => 89 | n => n, fun | n => n⟩
theorem Tryz.lays242 : Go.Proofs.Lays.n242 Tryz.prog Tryz.lays242_ren := {
  mixed := by kernel_rfl
  f242 := Tryz.func28.trans (congrArg some (by kernel_rfl))
  f278 := Tryz.func38.trans (congrArg some (by kernel_rfl))
  t4 := Tryz.underlying4
  a4 := Tryz.isAgg4
  z4 := Tryz.sizeOf4
  v4 := Tryz.zeroValue4
  t5 := Tryz.underlying5
  a5 := Tryz.isAgg5
  z5 := Tryz.sizeOf5
  v5 := Tryz.zeroValue5
  t21 := Tryz.underlying21
  a21 := Tryz.isAgg21
  z21 := Tryz.sizeOf21
  v21 := Tryz.zeroValue21
  t37 := Tryz.underlying49
  a37 := Tryz.isAgg49
  z37 := Tryz.sizeOf49
  v37 := Tryz.zeroValue49
  t46 := Tryz.underlying89
  a46 := Tryz.isAgg89
  z46 := Tryz.sizeOf89
  v46 := Tryz.zeroValue89
  t51 := Tryz.underlying76
  a51 := Tryz.isAgg76
  z51 := Tryz.sizeOf76
  v51 := Tryz.zeroValue76 }
open Go.RowKit in
theorem Tryz.utf8_AppendRune_row (B : Nat) (v : Value) (n : Nat) (xs : List Value) (r : Int) (hr0 : -2147483648 ≤ r) (hr1 : r ≤ 2147483647) (w : World) (hown : w.ownsRowF B 5 1 v n xs) (hlen : n + 4 ≤ 140737488355328) (hBw : B ≤ w.heap.size) :
    Calls Tryz.prog 28 #[v, .int .i32 r] w fun e w' => ∃ v', e = .returned v' ∧ w'.ownsRowF B 5 1 v' (n + (Lib.runeCells r).length) (xs ++ Lib.runeCells r) ∧ ∃ o, (w.alloc o).grownBy w' v.ownBlock := Any.utf8_AppendRune_row Tryz.lays242 (by kernel_rfl) B v n xs r hr0 hr1 w hown hlen hBw
open Go.RowKit in
theorem Tryz.utf8_appendRuneNonASCII_plain (B : Nat) (v : Value) (n : Nat) (xs : List Value) (r : Int) (hr0 : -2147483648 ≤ r) (hr1 : r ≤ 2147483647) (hna : r < 0 ∨ 128 ≤ r) (w : World) (hown : w.ownsRow B 5 1 v n xs) (hlen : n + 4 ≤ 140737488355328) (hBw : B ≤ w.heap.size) :
    Calls Tryz.prog 38 #[v, .int .i32 r] w fun e w' => ∃ v', e = .returned v' ∧ w'.ownsRow B 5 1 v' (n + (Lib.runeCells r).length) (xs ++ Lib.runeCells r) ∧ ∃ o, (w.alloc o).grownBy w' v.ownBlock := Any.utf8_appendRuneNonASCII_plain Tryz.lays278 (by kernel_rfl) B v n xs r hr0 hr1 hna w hown hlen hBw
open Go.RowKit in
theorem Tryz.utf8_AppendRune_plain (B : Nat) (v : Value) (n : Nat) (xs : List Value) (r : Int) (hr0 : -2147483648 ≤ r) (hr1 : r ≤ 2147483647) (w : World) (hown : w.ownsRow B 5 1 v n xs) (hlen : n + 4 ≤ 140737488355328) (hBw : B ≤ w.heap.size) :
    Calls Tryz.prog 28 #[v, .int .i32 r] w fun e w' => ∃ v', e = .returned v' ∧ w'.ownsRow B 5 1 v' (n + (Lib.runeCells r).length) (xs ++ Lib.runeCells r) ∧ ∃ o, (w.alloc o).grownBy w' v.ownBlock := Any.utf8_AppendRune_plain Tryz.lays242 (by kernel_rfl) B v n xs r hr0 hr1 w hown hlen hBw
def Tryz.lays129_ren : Go.Shelf.Ren := ⟨fun | 129 => 65 | n => n, fun | 53 => 84 | 3 => 3 | 4 => 4 | 46 => 89 | 5 => 5 | 9 => 9 | n => n, fun | n => n⟩
theorem Tryz.lays129 : Go.Proofs.Lays.n129 Tryz.prog Tryz.lays129_ren := {
  mixed := by kernel_rfl
  f129 := Tryz.func65.trans (congrArg some (by kernel_rfl))
  t3 := Tryz.underlying3
  a3 := Tryz.isAgg3
  z3 := Tryz.sizeOf3
  v3 := Tryz.zeroValue3
  t4 := Tryz.underlying4
  a4 := Tryz.isAgg4
  z4 := Tryz.sizeOf4
  v4 := Tryz.zeroValue4
  t5 := Tryz.underlying5
  a5 := Tryz.isAgg5
  z5 := Tryz.sizeOf5
  v5 := Tryz.zeroValue5
  t9 := Tryz.underlying9
  a9 := Tryz.isAgg9
  z9 := Tryz.sizeOf9
  v9 := Tryz.zeroValue9
  t46 := Tryz.underlying89
  a46 := Tryz.isAgg89
  z46 := Tryz.sizeOf89
  v46 := Tryz.zeroValue89
  t53 := Tryz.underlying84
  a53 := Tryz.isAgg84
  z53 := Tryz.sizeOf84
  v53 := Tryz.zeroValue84 }
theorem Tryz.bits_Len64 (x : Int) (w : World) (h0 : 0 ≤ x) (h1 : x ≤ 18446744073709551615) :
    Calls Tryz.prog 65 #[.int .u64 x] w fun e w' => e = .returned (.int .i64 (Lib.bitLen x.toNat)) ∧ w' = w := Any.bits_Len64 Tryz.lays129 x w h0 h1
def Tryz.lays317_ren : Go.Shelf.Ren := ⟨fun | 317 => 64 | n => n, fun | 3 => 3 | 46 => 89 | n => n, fun | n => n⟩
theorem Tryz.lays317 : Go.Proofs.Lays.n317 Tryz.prog Tryz.lays317_ren := {
  mixed := by kernel_rfl
  f317 := Tryz.func64.trans (congrArg some (by kernel_rfl))
  t3 := Tryz.underlying3
  a3 := Tryz.isAgg3
  z3 := Tryz.sizeOf3
  v3 := Tryz.zeroValue3
  t46 := Tryz.underlying89
  a46 := Tryz.isAgg89
  z46 := Tryz.sizeOf89
  v46 := Tryz.zeroValue89 }
open Go.Lib in
theorem Tryz.internal_strconv_log10Pow2 (x : Nat) (h : x ≤ 64) (w : World) :
    Calls Tryz.prog 64 #[.int .i64 x] w fun e w' => e = .returned (.int .i64 (Lib.l10 x)) ∧ w' = w := Any.internal_strconv_log10Pow2 Tryz.lays317 x h w
def Tryz.lays318_ren : Go.Shelf.Ren := ⟨fun | 318 => 66 | n => n, fun | 3 => 3 | 4 => 4 | n => n, fun | n => n⟩
theorem Tryz.lays318 : Go.Proofs.Lays.n318 Tryz.prog Tryz.lays318_ren := {
  mixed := by kernel_rfl
  f318 := Tryz.func66.trans (congrArg some (by kernel_rfl))
  t3 := Tryz.underlying3
  a3 := Tryz.isAgg3
  z3 := Tryz.sizeOf3
  v3 := Tryz.zeroValue3
  t4 := Tryz.underlying4
  a4 := Tryz.isAgg4
  z4 := Tryz.sizeOf4
  v4 := Tryz.zeroValue4 }
open Go.Lib in
theorem Tryz.internal_strconv_bool2_int (b : Bool) (w : World) :
    Calls Tryz.prog 66 #[.bool b] w fun e w' => e = .returned (.int .i64 (if b then 1 else 0)) ∧ w' = w := Any.internal_strconv_bool2_int Tryz.lays318 b w
def Tryz.lays283_ren : Go.Shelf.Ren := ⟨fun | 283 => 48 | n => n, fun | 3 => 3 | 9 => 9 | 4 => 4 | n => n, fun | n => n⟩
theorem Tryz.lays283 : Go.Proofs.Lays.n283 Tryz.prog Tryz.lays283_ren := {
  mixed := by kernel_rfl
  f283 := Tryz.func48.trans (congrArg some (by kernel_rfl))
  t3 := Tryz.underlying3
  a3 := Tryz.isAgg3
  z3 := Tryz.sizeOf3
  v3 := Tryz.zeroValue3
  t4 := Tryz.underlying4
  a4 := Tryz.isAgg4
  z4 := Tryz.sizeOf4
  v4 := Tryz.zeroValue4
  t9 := Tryz.underlying9
  a9 := Tryz.isAgg9
  z9 := Tryz.sizeOf9
  v9 := Tryz.zeroValue9 }
open Go.Lib in
theorem Tryz.internal_strconv_small (i : Nat) (h : i < 100) (w : World) :
    Calls Tryz.prog 48 #[.int .i64 i] w fun e w' => e = .returned (.string ⟨(Lib.decDigits i).toArray⟩) ∧ w' = w := Any.internal_strconv_small Tryz.lays283 i h w
def Tryz.laysM284_ren : Go.Shelf.Ren := ⟨fun | 284 => 49 | 129 => 65 | 317 => 64 | 318 => 66 | n => n, fun | 53 => 84 | 3 => 3 | 212 => 104 | 0 => 0 | 4 => 4 | 46 => 89 | 5 => 5 | 9 => 9 | n => n, fun | 17 => 0 | n => n⟩
theorem Tryz.laysM284 : Go.Proofs.LaysM.n284 Tryz.prog Tryz.laysM284_ren := {
  mixed := by kernel_rfl
  f129 := Tryz.func65.trans (congrArg some (by kernel_rfl))
  f284 := Tryz.func49.trans (congrArg some (by kernel_rfl))
  f317 := Tryz.func64.trans (congrArg some (by kernel_rfl))
  f318 := Tryz.func66.trans (congrArg some (by kernel_rfl))
  t0 := Tryz.underlying0
  a0 := Tryz.isAgg0
  z0 := Tryz.sizeOf0
  v0 := Tryz.zeroValue0
  t3 := Tryz.underlying3
  a3 := Tryz.isAgg3
  z3 := Tryz.sizeOf3
  v3 := Tryz.zeroValue3
  t4 := Tryz.underlying4
  a4 := Tryz.isAgg4
  z4 := Tryz.sizeOf4
  v4 := Tryz.zeroValue4
  t5 := Tryz.underlying5
  a5 := Tryz.isAgg5
  z5 := Tryz.sizeOf5
  v5 := Tryz.zeroValue5
  t9 := Tryz.underlying9
  a9 := Tryz.isAgg9
  z9 := Tryz.sizeOf9
  v9 := Tryz.zeroValue9
  t46 := Tryz.underlying89
  a46 := Tryz.isAgg89
  z46 := Tryz.sizeOf89
  v46 := Tryz.zeroValue89
  t53 := Tryz.underlying84
  a53 := Tryz.isAgg84
  z53 := Tryz.sizeOf84
  v53 := Tryz.zeroValue84
  t212 := Tryz.underlying104
  a212 := Tryz.isAgg104
  z212 := Tryz.sizeOf104
  v212 := Tryz.zeroValue104
  g17 := by kernel_rfl
  i0 := by kernel_rfl
  i3 := by kernel_rfl
  i4 := by kernel_rfl
  i5 := by kernel_rfl
  i9 := by kernel_rfl
  i46 := by kernel_rfl
  i53 := by kernel_rfl
  i212 := by kernel_rfl
  m17 := by kernel_rfl }
open Go.Lib in
theorem Tryz.internal_strconv_numDigits (u : Nat) (h1 : 1 ≤ u) (h2 : u < 18446744073709551616) (w : World) (htab : Lib.TabIs Tryz.prog w "internal/strconv.uint64pow10" .u64 Lib.pow10Tab) :
    Calls Tryz.prog 49 #[.int .u64 u] w fun e w' => e = .returned (.int .i64 (Lib.nDigits u)) ∧ w' = w := Any.internal_strconv_numDigits Tryz.laysM284 u h1 h2 w htab
def Tryz.lays285_ren : Go.Shelf.Ren := ⟨fun | 285 => 50 | n => n, fun | 37 => 49 | 53 => 84 | 3 => 3 | 4 => 4 | 51 => 76 | 9 => 9 | 5 => 5 | 0 => 0 | n => n, fun | n => n⟩
theorem Tryz.lays285 : Go.Proofs.Lays.n285 Tryz.prog Tryz.lays285_ren := {
  mixed := by kernel_rfl
  f285 := Tryz.func50.trans (congrArg some (by kernel_rfl))
  t0 := Tryz.underlying0
  a0 := Tryz.isAgg0
  z0 := Tryz.sizeOf0
  v0 := Tryz.zeroValue0
  t3 := Tryz.underlying3
  a3 := Tryz.isAgg3
  z3 := Tryz.sizeOf3
  v3 := Tryz.zeroValue3
  t4 := Tryz.underlying4
  a4 := Tryz.isAgg4
  z4 := Tryz.sizeOf4
  v4 := Tryz.zeroValue4
  t5 := Tryz.underlying5
  a5 := Tryz.isAgg5
  z5 := Tryz.sizeOf5
  v5 := Tryz.zeroValue5
  t9 := Tryz.underlying9
  a9 := Tryz.isAgg9
  z9 := Tryz.sizeOf9
  v9 := Tryz.zeroValue9
  t37 := Tryz.underlying49
  a37 := Tryz.isAgg49
  z37 := Tryz.sizeOf49
  v37 := Tryz.zeroValue49
  t51 := Tryz.underlying76
  a51 := Tryz.isAgg76
  z51 := Tryz.sizeOf76
  v51 := Tryz.zeroValue76
  t53 := Tryz.underlying84
  a53 := Tryz.isAgg84
  z53 := Tryz.sizeOf84
  v53 := Tryz.zeroValue84 }
open Go.RowKit Go.Sort Go.Lib in
theorem Tryz.internal_strconv_formatBase10 (blk off cap : Nat) (u : Nat) (d : Array UInt8) (w : World) (hH : Holds (fun (b : UInt8) => Value.int .u8 (b.toNat : Int)) w blk off d) (hu : u < 10 ^ d.size) (hu64 : u < 18446744073709551616) (hsz : d.size < 4611686018427387904) :
    Calls Tryz.prog 50 #[.slice (some ⟨blk, off, none⟩) d.size cap, .int .u64 u] w fun e w' =>
      e = .returned (.tuple #[]) ∧ ∃ (n v' : Nat) (dk : Array UInt8), w' = (putRow (fun (b : UInt8) => Value.int .u8 (b.toNat : Int)) w blk off dk).drewN n ∧ FmtInv d.size u 0 v' dk := Any.internal_strconv_formatBase10 Tryz.lays285 blk off cap u d w hH hu hu64 hsz
def Tryz.laysM246_ren : Go.Shelf.Ren := ⟨fun | 246 => 37 | 283 => 48 | 284 => 49 | 285 => 50 | 286 => 51 | 129 => 65 | 317 => 64 | 318 => 66 | 319 => 67 | 320 => 68 | 337 => 87 | 338 => 88 | n => n, fun | 2 => 2 | 3 => 3 | 9 => 9 | 4 => 4 | 171 => 83 | 0 => 0 | 53 => 84 | 37 => 49 | 5 => 5 | 173 => 87 | 212 => 104 | 51 => 76 | 20 => 20 | 213 => 105 | 46 => 89 | 232 => 138 | 233 => 123 | n => n, fun | 17 => 0 | 18 => 3 | 19 => 4 | n => n⟩
theorem Tryz.laysM246 : Go.Proofs.LaysM.n246 Tryz.prog Tryz.laysM246_ren := {
  mixed := by kernel_rfl
  f129 := Tryz.func65.trans (congrArg some (by kernel_rfl))
  f246 := Tryz.func37.trans (congrArg some (by kernel_rfl))
  f283 := Tryz.func48.trans (congrArg some (by kernel_rfl))
  f284 := Tryz.func49.trans (congrArg some (by kernel_rfl))
  f285 := Tryz.func50.trans (congrArg some (by kernel_rfl))
  f286 := Tryz.func51.trans (congrArg some (by kernel_rfl))
  f317 := Tryz.func64.trans (congrArg some (by kernel_rfl))
  f318 := Tryz.func66.trans (congrArg some (by kernel_rfl))
  f319 := Tryz.func67.trans (congrArg some (by kernel_rfl))
  f320 := Tryz.func68.trans (congrArg some (by kernel_rfl))
  f337 := Tryz.func87.trans (congrArg some (by kernel_rfl))
  f338 := Tryz.func88.trans (congrArg some (by kernel_rfl))
  t0 := Tryz.underlying0
  a0 := Tryz.isAgg0
  z0 := Tryz.sizeOf0
  v0 := Tryz.zeroValue0
  t2 := Tryz.underlying2
  a2 := Tryz.isAgg2
  z2 := Tryz.sizeOf2
  v2 := Tryz.zeroValue2
  t3 := Tryz.underlying3
  a3 := Tryz.isAgg3
  z3 := Tryz.sizeOf3
  v3 := Tryz.zeroValue3
  t4 := Tryz.underlying4
  a4 := Tryz.isAgg4
  z4 := Tryz.sizeOf4
  v4 := Tryz.zeroValue4
  t5 := Tryz.underlying5
  a5 := Tryz.isAgg5
  z5 := Tryz.sizeOf5
  v5 := Tryz.zeroValue5
  t9 := Tryz.underlying9
  a9 := Tryz.isAgg9
  z9 := Tryz.sizeOf9
  v9 := Tryz.zeroValue9
  t20 := Tryz.underlying20
  a20 := Tryz.isAgg20
  z20 := Tryz.sizeOf20
  v20 := Tryz.zeroValue20
  t37 := Tryz.underlying49
  a37 := Tryz.isAgg49
  z37 := Tryz.sizeOf49
  v37 := Tryz.zeroValue49
  t46 := Tryz.underlying89
  a46 := Tryz.isAgg89
  z46 := Tryz.sizeOf89
  v46 := Tryz.zeroValue89
  t51 := Tryz.underlying76
  a51 := Tryz.isAgg76
  z51 := Tryz.sizeOf76
  v51 := Tryz.zeroValue76
  t53 := Tryz.underlying84
  a53 := Tryz.isAgg84
  z53 := Tryz.sizeOf84
  v53 := Tryz.zeroValue84
  t171 := Tryz.underlying83
  a171 := Tryz.isAgg83
  z171 := Tryz.sizeOf83
  v171 := Tryz.zeroValue83
  t173 := Tryz.underlying87
  a173 := Tryz.isAgg87
  z173 := Tryz.sizeOf87
  v173 := Tryz.zeroValue87
  t212 := Tryz.underlying104
  a212 := Tryz.isAgg104
  z212 := Tryz.sizeOf104
  v212 := Tryz.zeroValue104
  t213 := Tryz.underlying105
  a213 := Tryz.isAgg105
  z213 := Tryz.sizeOf105
  t232 := Tryz.underlying138
  a232 := Tryz.isAgg138
  z232 := Tryz.sizeOf138
  v232 := Tryz.zeroValue138
  t233 := Tryz.underlying123
  a233 := Tryz.isAgg123
  z233 := Tryz.sizeOf123
  v233 := Tryz.zeroValue123
  g17 := by kernel_rfl
  g18 := by kernel_rfl
  g19 := by kernel_rfl
  i0 := by kernel_rfl
  i2 := by kernel_rfl
  i3 := by kernel_rfl
  i4 := by kernel_rfl
  i5 := by kernel_rfl
  i9 := by kernel_rfl
  i20 := by kernel_rfl
  i37 := by kernel_rfl
  i46 := by kernel_rfl
  i51 := by kernel_rfl
  i53 := by kernel_rfl
  i171 := by kernel_rfl
  i173 := by kernel_rfl
  i212 := by kernel_rfl
  i232 := by kernel_rfl
  i233 := by kernel_rfl
  m17 := by kernel_rfl
  m18 := by kernel_rfl
  m19 := by kernel_rfl }
open Go.RowKit Go.Sort Go.Lib in
theorem Tryz.internal_strconv_FormatInt_10 (n : Int) (h0 : -9223372036854775808 ≤ n) (h1 : n ≤ 9223372036854775807) (w : World) (htab : Lib.TabIs Tryz.prog w "internal/strconv.uint64pow10" .u64 Lib.pow10Tab) :
    Calls Tryz.prog 37 #[.int .i64 n, .int .i64 10] w fun e w' => e = .returned (.string ⟨(Lib.itoa n).toArray⟩) ∧ ∃ k os, w' = grow (w.drewN k) os := Any.internal_strconv_FormatInt_10 Tryz.laysM246 n h0 h1 w htab
def Tryz.lays246_ren : Go.Shelf.Ren := ⟨fun | 246 => 37 | 283 => 48 | 284 => 49 | 285 => 50 | 286 => 51 | 129 => 65 | 317 => 64 | 318 => 66 | 319 => 67 | 320 => 68 | 337 => 87 | 338 => 88 | n => n, fun | 2 => 2 | 3 => 3 | 9 => 9 | 4 => 4 | 171 => 83 | 0 => 0 | 53 => 84 | 37 => 49 | 5 => 5 | 173 => 87 | 212 => 104 | 51 => 76 | 20 => 20 | 213 => 105 | 46 => 89 | 232 => 138 | 233 => 123 | n => n, fun | 17 => 0 | 18 => 3 | 19 => 4 | n => n⟩
theorem Tryz.lays246 : Go.Proofs.Lays.n246 Tryz.prog Tryz.lays246_ren := {
  mixed := by kernel_rfl
  f129 := Tryz.func65.trans (congrArg some (by kernel_rfl))
  f246 := Tryz.func37.trans (congrArg some (by kernel_rfl))
  f283 := Tryz.func48.trans (congrArg some (by kernel_rfl))
  f284 := Tryz.func49.trans (congrArg some (by kernel_rfl))
  f285 := Tryz.func50.trans (congrArg some (by kernel_rfl))
  f286 := Tryz.func51.trans (congrArg some (by kernel_rfl))
  f317 := Tryz.func64.trans (congrArg some (by kernel_rfl))
  f318 := Tryz.func66.trans (congrArg some (by kernel_rfl))
  f319 := Tryz.func67.trans (congrArg some (by kernel_rfl))
  f320 := Tryz.func68.trans (congrArg some (by kernel_rfl))
  f337 := Tryz.func87.trans (congrArg some (by kernel_rfl))
  f338 := Tryz.func88.trans (congrArg some (by kernel_rfl))
  t0 := Tryz.underlying0
  a0 := Tryz.isAgg0
  z0 := Tryz.sizeOf0
  v0 := Tryz.zeroValue0
  t2 := Tryz.underlying2
  a2 := Tryz.isAgg2
  z2 := Tryz.sizeOf2
  v2 := Tryz.zeroValue2
  t3 := Tryz.underlying3
  a3 := Tryz.isAgg3
  z3 := Tryz.sizeOf3
  v3 := Tryz.zeroValue3
  t4 := Tryz.underlying4
  a4 := Tryz.isAgg4
  z4 := Tryz.sizeOf4
  v4 := Tryz.zeroValue4
  t5 := Tryz.underlying5
  a5 := Tryz.isAgg5
  z5 := Tryz.sizeOf5
  v5 := Tryz.zeroValue5
  t9 := Tryz.underlying9
  a9 := Tryz.isAgg9
  z9 := Tryz.sizeOf9
  v9 := Tryz.zeroValue9
  t20 := Tryz.underlying20
  a20 := Tryz.isAgg20
  z20 := Tryz.sizeOf20
  v20 := Tryz.zeroValue20
  t37 := Tryz.underlying49
  a37 := Tryz.isAgg49
  z37 := Tryz.sizeOf49
  v37 := Tryz.zeroValue49
  t46 := Tryz.underlying89
  a46 := Tryz.isAgg89
  z46 := Tryz.sizeOf89
  v46 := Tryz.zeroValue89
  t51 := Tryz.underlying76
  a51 := Tryz.isAgg76
  z51 := Tryz.sizeOf76
  v51 := Tryz.zeroValue76
  t53 := Tryz.underlying84
  a53 := Tryz.isAgg84
  z53 := Tryz.sizeOf84
  v53 := Tryz.zeroValue84
  t171 := Tryz.underlying83
  a171 := Tryz.isAgg83
  z171 := Tryz.sizeOf83
  v171 := Tryz.zeroValue83
  t173 := Tryz.underlying87
  a173 := Tryz.isAgg87
  z173 := Tryz.sizeOf87
  v173 := Tryz.zeroValue87
  t212 := Tryz.underlying104
  a212 := Tryz.isAgg104
  z212 := Tryz.sizeOf104
  v212 := Tryz.zeroValue104
  t213 := Tryz.underlying105
  a213 := Tryz.isAgg105
  z213 := Tryz.sizeOf105
  t232 := Tryz.underlying138
  a232 := Tryz.isAgg138
  z232 := Tryz.sizeOf138
  v232 := Tryz.zeroValue138
  t233 := Tryz.underlying123
  a233 := Tryz.isAgg123
  z233 := Tryz.sizeOf123
  v233 := Tryz.zeroValue123
  g17 := by kernel_rfl
  g18 := by kernel_rfl
  g19 := by kernel_rfl }
open Go.RowKit Go.Sort Go.Lib in
theorem Tryz.internal_strconv_FormatInt_10_small (i : Nat) (hi : i < 100) (w : World) :
    Calls Tryz.prog 37 #[.int .i64 i, .int .i64 10] w fun e w' => e = .returned (.string ⟨(Lib.decDigits i).toArray⟩) ∧ w' = w := Any.internal_strconv_FormatInt_10_small Tryz.lays246 i hi w
def Tryz.laysM243_ren : Go.Shelf.Ren := ⟨fun | 243 => 27 | 246 => 37 | 283 => 48 | 284 => 49 | 285 => 50 | 286 => 51 | 129 => 65 | 317 => 64 | 318 => 66 | 319 => 67 | 320 => 68 | 337 => 87 | 338 => 88 | n => n, fun | 3 => 3 | 9 => 9 | 2 => 2 | 4 => 4 | 171 => 83 | 0 => 0 | 53 => 84 | 37 => 49 | 5 => 5 | 173 => 87 | 212 => 104 | 51 => 76 | 20 => 20 | 213 => 105 | 46 => 89 | 232 => 138 | 233 => 123 | n => n, fun | 17 => 0 | 18 => 3 | 19 => 4 | n => n⟩
theorem Tryz.laysM243 : Go.Proofs.LaysM.n243 Tryz.prog Tryz.laysM243_ren := {
  mixed := by kernel_rfl
  f129 := Tryz.func65.trans (congrArg some (by kernel_rfl))
  f243 := Tryz.func27.trans (congrArg some (by kernel_rfl))
  f246 := Tryz.func37.trans (congrArg some (by kernel_rfl))
  f283 := Tryz.func48.trans (congrArg some (by kernel_rfl))
  f284 := Tryz.func49.trans (congrArg some (by kernel_rfl))
  f285 := Tryz.func50.trans (congrArg some (by kernel_rfl))
  f286 := Tryz.func51.trans (congrArg some (by kernel_rfl))
  f317 := Tryz.func64.trans (congrArg some (by kernel_rfl))
  f318 := Tryz.func66.trans (congrArg some (by kernel_rfl))
  f319 := Tryz.func67.trans (congrArg some (by kernel_rfl))
  f320 := Tryz.func68.trans (congrArg some (by kernel_rfl))
  f337 := Tryz.func87.trans (congrArg some (by kernel_rfl))
  f338 := Tryz.func88.trans (congrArg some (by kernel_rfl))
  t0 := Tryz.underlying0
  a0 := Tryz.isAgg0
  z0 := Tryz.sizeOf0
  v0 := Tryz.zeroValue0
  t2 := Tryz.underlying2
  a2 := Tryz.isAgg2
  z2 := Tryz.sizeOf2
  v2 := Tryz.zeroValue2
  t3 := Tryz.underlying3
  a3 := Tryz.isAgg3
  z3 := Tryz.sizeOf3
  v3 := Tryz.zeroValue3
  t4 := Tryz.underlying4
  a4 := Tryz.isAgg4
  z4 := Tryz.sizeOf4
  v4 := Tryz.zeroValue4
  t5 := Tryz.underlying5
  a5 := Tryz.isAgg5
  z5 := Tryz.sizeOf5
  v5 := Tryz.zeroValue5
  t9 := Tryz.underlying9
  a9 := Tryz.isAgg9
  z9 := Tryz.sizeOf9
  v9 := Tryz.zeroValue9
  t20 := Tryz.underlying20
  a20 := Tryz.isAgg20
  z20 := Tryz.sizeOf20
  v20 := Tryz.zeroValue20
  t37 := Tryz.underlying49
  a37 := Tryz.isAgg49
  z37 := Tryz.sizeOf49
  v37 := Tryz.zeroValue49
  t46 := Tryz.underlying89
  a46 := Tryz.isAgg89
  z46 := Tryz.sizeOf89
  v46 := Tryz.zeroValue89
  t51 := Tryz.underlying76
  a51 := Tryz.isAgg76
  z51 := Tryz.sizeOf76
  v51 := Tryz.zeroValue76
  t53 := Tryz.underlying84
  a53 := Tryz.isAgg84
  z53 := Tryz.sizeOf84
  v53 := Tryz.zeroValue84
  t171 := Tryz.underlying83
  a171 := Tryz.isAgg83
  z171 := Tryz.sizeOf83
  v171 := Tryz.zeroValue83
  t173 := Tryz.underlying87
  a173 := Tryz.isAgg87
  z173 := Tryz.sizeOf87
  v173 := Tryz.zeroValue87
  t212 := Tryz.underlying104
  a212 := Tryz.isAgg104
  z212 := Tryz.sizeOf104
  v212 := Tryz.zeroValue104
  t213 := Tryz.underlying105
  a213 := Tryz.isAgg105
  z213 := Tryz.sizeOf105
  t232 := Tryz.underlying138
  a232 := Tryz.isAgg138
  z232 := Tryz.sizeOf138
  v232 := Tryz.zeroValue138
  t233 := Tryz.underlying123
  a233 := Tryz.isAgg123
  z233 := Tryz.sizeOf123
  v233 := Tryz.zeroValue123
  g17 := by kernel_rfl
  g18 := by kernel_rfl
  g19 := by kernel_rfl
  i0 := by kernel_rfl
  i2 := by kernel_rfl
  i3 := by kernel_rfl
  i4 := by kernel_rfl
  i5 := by kernel_rfl
  i9 := by kernel_rfl
  i20 := by kernel_rfl
  i37 := by kernel_rfl
  i46 := by kernel_rfl
  i51 := by kernel_rfl
  i53 := by kernel_rfl
  i171 := by kernel_rfl
  i173 := by kernel_rfl
  i212 := by kernel_rfl
  i232 := by kernel_rfl
  i233 := by kernel_rfl
  m17 := by kernel_rfl
  m18 := by kernel_rfl
  m19 := by kernel_rfl }
open Go.RowKit Go.Sort Go.Lib in
theorem Tryz.internal_strconv_Itoa (n : Int) (h0 : -9223372036854775808 ≤ n) (h1 : n ≤ 9223372036854775807) (w : World) (htab : Lib.TabIs Tryz.prog w "internal/strconv.uint64pow10" .u64 Lib.pow10Tab) :
    Calls Tryz.prog 27 #[.int .i64 n] w fun e w' => e = .returned (.string ⟨(Lib.itoa n).toArray⟩) ∧ ∃ k os, w' = grow (w.drewN k) os := Any.internal_strconv_Itoa Tryz.laysM243 n h0 h1 w htab
def Tryz.lays243_ren : Go.Shelf.Ren := ⟨fun | 243 => 27 | 246 => 37 | 283 => 48 | 284 => 49 | 285 => 50 | 286 => 51 | 129 => 65 | 317 => 64 | 318 => 66 | 319 => 67 | 320 => 68 | 337 => 87 | 338 => 88 | n => n, fun | 3 => 3 | 9 => 9 | 2 => 2 | 4 => 4 | 171 => 83 | 0 => 0 | 53 => 84 | 37 => 49 | 5 => 5 | 173 => 87 | 212 => 104 | 51 => 76 | 20 => 20 | 213 => 105 | 46 => 89 | 232 => 138 | 233 => 123 | n => n, fun | 17 => 0 | 18 => 3 | 19 => 4 | n => n⟩
theorem Tryz.lays243 : Go.Proofs.Lays.n243 Tryz.prog Tryz.lays243_ren := {
  mixed := by kernel_rfl
  f129 := Tryz.func65.trans (congrArg some (by kernel_rfl))
  f243 := Tryz.func27.trans (congrArg some (by kernel_rfl))
  f246 := Tryz.func37.trans (congrArg some (by kernel_rfl))
  f283 := Tryz.func48.trans (congrArg some (by kernel_rfl))
  f284 := Tryz.func49.trans (congrArg some (by kernel_rfl))
  f285 := Tryz.func50.trans (congrArg some (by kernel_rfl))
  f286 := Tryz.func51.trans (congrArg some (by kernel_rfl))
  f317 := Tryz.func64.trans (congrArg some (by kernel_rfl))
  f318 := Tryz.func66.trans (congrArg some (by kernel_rfl))
  f319 := Tryz.func67.trans (congrArg some (by kernel_rfl))
  f320 := Tryz.func68.trans (congrArg some (by kernel_rfl))
  f337 := Tryz.func87.trans (congrArg some (by kernel_rfl))
  f338 := Tryz.func88.trans (congrArg some (by kernel_rfl))
  t0 := Tryz.underlying0
  a0 := Tryz.isAgg0
  z0 := Tryz.sizeOf0
  v0 := Tryz.zeroValue0
  t2 := Tryz.underlying2
  a2 := Tryz.isAgg2
  z2 := Tryz.sizeOf2
  v2 := Tryz.zeroValue2
  t3 := Tryz.underlying3
  a3 := Tryz.isAgg3
  z3 := Tryz.sizeOf3
  v3 := Tryz.zeroValue3
  t4 := Tryz.underlying4
  a4 := Tryz.isAgg4
  z4 := Tryz.sizeOf4
  v4 := Tryz.zeroValue4
  t5 := Tryz.underlying5
  a5 := Tryz.isAgg5
  z5 := Tryz.sizeOf5
  v5 := Tryz.zeroValue5
  t9 := Tryz.underlying9
  a9 := Tryz.isAgg9
  z9 := Tryz.sizeOf9
  v9 := Tryz.zeroValue9
  t20 := Tryz.underlying20
  a20 := Tryz.isAgg20
  z20 := Tryz.sizeOf20
  v20 := Tryz.zeroValue20
  t37 := Tryz.underlying49
  a37 := Tryz.isAgg49
  z37 := Tryz.sizeOf49
  v37 := Tryz.zeroValue49
  t46 := Tryz.underlying89
  a46 := Tryz.isAgg89
  z46 := Tryz.sizeOf89
  v46 := Tryz.zeroValue89
  t51 := Tryz.underlying76
  a51 := Tryz.isAgg76
  z51 := Tryz.sizeOf76
  v51 := Tryz.zeroValue76
  t53 := Tryz.underlying84
  a53 := Tryz.isAgg84
  z53 := Tryz.sizeOf84
  v53 := Tryz.zeroValue84
  t171 := Tryz.underlying83
  a171 := Tryz.isAgg83
  z171 := Tryz.sizeOf83
  v171 := Tryz.zeroValue83
  t173 := Tryz.underlying87
  a173 := Tryz.isAgg87
  z173 := Tryz.sizeOf87
  v173 := Tryz.zeroValue87
  t212 := Tryz.underlying104
  a212 := Tryz.isAgg104
  z212 := Tryz.sizeOf104
  v212 := Tryz.zeroValue104
  t213 := Tryz.underlying105
  a213 := Tryz.isAgg105
  z213 := Tryz.sizeOf105
  t232 := Tryz.underlying138
  a232 := Tryz.isAgg138
  z232 := Tryz.sizeOf138
  v232 := Tryz.zeroValue138
  t233 := Tryz.underlying123
  a233 := Tryz.isAgg123
  z233 := Tryz.sizeOf123
  v233 := Tryz.zeroValue123
  g17 := by kernel_rfl
  g18 := by kernel_rfl
  g19 := by kernel_rfl }
open Go.RowKit Go.Sort Go.Lib in
theorem Tryz.internal_strconv_Itoa_small (i : Nat) (hi : i < 100) (w : World) :
    Calls Tryz.prog 27 #[.int .i64 i] w fun e w' => e = .returned (.string ⟨(Lib.decDigits i).toArray⟩) ∧ w' = w := Any.internal_strconv_Itoa_small Tryz.lays243 i hi w
def Tryz.laysM171_ren : Go.Shelf.Ren := ⟨fun | 171 => 15 | 243 => 27 | 246 => 37 | 283 => 48 | 284 => 49 | 285 => 50 | 286 => 51 | 129 => 65 | 317 => 64 | 318 => 66 | 319 => 67 | 320 => 68 | 337 => 87 | 338 => 88 | n => n, fun | 3 => 3 | 9 => 9 | 2 => 2 | 4 => 4 | 171 => 83 | 0 => 0 | 53 => 84 | 37 => 49 | 5 => 5 | 173 => 87 | 212 => 104 | 51 => 76 | 20 => 20 | 213 => 105 | 46 => 89 | 232 => 138 | 233 => 123 | n => n, fun | 17 => 0 | 18 => 3 | 19 => 4 | n => n⟩
theorem Tryz.laysM171 : Go.Proofs.LaysM.n171 Tryz.prog Tryz.laysM171_ren := {
  mixed := by kernel_rfl
  f129 := Tryz.func65.trans (congrArg some (by kernel_rfl))
  f171 := Tryz.func15.trans (congrArg some (by kernel_rfl))
  f243 := Tryz.func27.trans (congrArg some (by kernel_rfl))
  f246 := Tryz.func37.trans (congrArg some (by kernel_rfl))
  f283 := Tryz.func48.trans (congrArg some (by kernel_rfl))
  f284 := Tryz.func49.trans (congrArg some (by kernel_rfl))
  f285 := Tryz.func50.trans (congrArg some (by kernel_rfl))
  f286 := Tryz.func51.trans (congrArg some (by kernel_rfl))
  f317 := Tryz.func64.trans (congrArg some (by kernel_rfl))
  f318 := Tryz.func66.trans (congrArg some (by kernel_rfl))
  f319 := Tryz.func67.trans (congrArg some (by kernel_rfl))
  f320 := Tryz.func68.trans (congrArg some (by kernel_rfl))
  f337 := Tryz.func87.trans (congrArg some (by kernel_rfl))
  f338 := Tryz.func88.trans (congrArg some (by kernel_rfl))
  t0 := Tryz.underlying0
  a0 := Tryz.isAgg0
  z0 := Tryz.sizeOf0
  v0 := Tryz.zeroValue0
  t2 := Tryz.underlying2
  a2 := Tryz.isAgg2
  z2 := Tryz.sizeOf2
  v2 := Tryz.zeroValue2
  t3 := Tryz.underlying3
  a3 := Tryz.isAgg3
  z3 := Tryz.sizeOf3
  v3 := Tryz.zeroValue3
  t4 := Tryz.underlying4
  a4 := Tryz.isAgg4
  z4 := Tryz.sizeOf4
  v4 := Tryz.zeroValue4
  t5 := Tryz.underlying5
  a5 := Tryz.isAgg5
  z5 := Tryz.sizeOf5
  v5 := Tryz.zeroValue5
  t9 := Tryz.underlying9
  a9 := Tryz.isAgg9
  z9 := Tryz.sizeOf9
  v9 := Tryz.zeroValue9
  t20 := Tryz.underlying20
  a20 := Tryz.isAgg20
  z20 := Tryz.sizeOf20
  v20 := Tryz.zeroValue20
  t37 := Tryz.underlying49
  a37 := Tryz.isAgg49
  z37 := Tryz.sizeOf49
  v37 := Tryz.zeroValue49
  t46 := Tryz.underlying89
  a46 := Tryz.isAgg89
  z46 := Tryz.sizeOf89
  v46 := Tryz.zeroValue89
  t51 := Tryz.underlying76
  a51 := Tryz.isAgg76
  z51 := Tryz.sizeOf76
  v51 := Tryz.zeroValue76
  t53 := Tryz.underlying84
  a53 := Tryz.isAgg84
  z53 := Tryz.sizeOf84
  v53 := Tryz.zeroValue84
  t171 := Tryz.underlying83
  a171 := Tryz.isAgg83
  z171 := Tryz.sizeOf83
  v171 := Tryz.zeroValue83
  t173 := Tryz.underlying87
  a173 := Tryz.isAgg87
  z173 := Tryz.sizeOf87
  v173 := Tryz.zeroValue87
  t212 := Tryz.underlying104
  a212 := Tryz.isAgg104
  z212 := Tryz.sizeOf104
  v212 := Tryz.zeroValue104
  t213 := Tryz.underlying105
  a213 := Tryz.isAgg105
  z213 := Tryz.sizeOf105
  t232 := Tryz.underlying138
  a232 := Tryz.isAgg138
  z232 := Tryz.sizeOf138
  v232 := Tryz.zeroValue138
  t233 := Tryz.underlying123
  a233 := Tryz.isAgg123
  z233 := Tryz.sizeOf123
  v233 := Tryz.zeroValue123
  g17 := by kernel_rfl
  g18 := by kernel_rfl
  g19 := by kernel_rfl
  i0 := by kernel_rfl
  i2 := by kernel_rfl
  i3 := by kernel_rfl
  i4 := by kernel_rfl
  i5 := by kernel_rfl
  i9 := by kernel_rfl
  i20 := by kernel_rfl
  i37 := by kernel_rfl
  i46 := by kernel_rfl
  i51 := by kernel_rfl
  i53 := by kernel_rfl
  i171 := by kernel_rfl
  i173 := by kernel_rfl
  i212 := by kernel_rfl
  i232 := by kernel_rfl
  i233 := by kernel_rfl
  m17 := by kernel_rfl
  m18 := by kernel_rfl
  m19 := by kernel_rfl }
open Go.RowKit Go.Sort Go.Lib in
theorem Tryz.strconv_Itoa (n : Int) (h0 : -9223372036854775808 ≤ n) (h1 : n ≤ 9223372036854775807) (w : World) (htab : Lib.TabIs Tryz.prog w "internal/strconv.uint64pow10" .u64 Lib.pow10Tab) :
    Calls Tryz.prog 15 #[.int .i64 n] w fun e w' => e = .returned (.string ⟨(Lib.itoa n).toArray⟩) ∧ ∃ k os, w' = grow (w.drewN k) os := Any.strconv_Itoa Tryz.laysM171 n h0 h1 w htab
def Tryz.lays171_ren : Go.Shelf.Ren := ⟨fun | 171 => 15 | 243 => 27 | 246 => 37 | 283 => 48 | 284 => 49 | 285 => 50 | 286 => 51 | 129 => 65 | 317 => 64 | 318 => 66 | 319 => 67 | 320 => 68 | 337 => 87 | 338 => 88 | n => n, fun | 3 => 3 | 9 => 9 | 2 => 2 | 4 => 4 | 171 => 83 | 0 => 0 | 53 => 84 | 37 => 49 | 5 => 5 | 173 => 87 | 212 => 104 | 51 => 76 | 20 => 20 | 213 => 105 | 46 => 89 | 232 => 138 | 233 => 123 | n => n, fun | 17 => 0 | 18 => 3 | 19 => 4 | n => n⟩
theorem Tryz.lays171 : Go.Proofs.Lays.n171 Tryz.prog Tryz.lays171_ren := {
  mixed := by kernel_rfl
  f129 := Tryz.func65.trans (congrArg some (by kernel_rfl))
  f171 := Tryz.func15.trans (congrArg some (by kernel_rfl))
  f243 := Tryz.func27.trans (congrArg some (by kernel_rfl))
  f246 := Tryz.func37.trans (congrArg some (by kernel_rfl))
  f283 := Tryz.func48.trans (congrArg some (by kernel_rfl))
  f284 := Tryz.func49.trans (congrArg some (by kernel_rfl))
  f285 := Tryz.func50.trans (congrArg some (by kernel_rfl))
  f286 := Tryz.func51.trans (congrArg some (by kernel_rfl))
  f317 := Tryz.func64.trans (congrArg some (by kernel_rfl))
  f318 := Tryz.func66.trans (congrArg some (by kernel_rfl))
  f319 := Tryz.func67.trans (congrArg some (by kernel_rfl))
  f320 := Tryz.func68.trans (congrArg some (by kernel_rfl))
  f337 := Tryz.func87.trans (congrArg some (by kernel_rfl))
  f338 := Tryz.func88.trans (congrArg some (by kernel_rfl))
  t0 := Tryz.underlying0
  a0 := Tryz.isAgg0
  z0 := Tryz.sizeOf0
  v0 := Tryz.zeroValue0
  t2 := Tryz.underlying2
  a2 := Tryz.isAgg2
  z2 := Tryz.sizeOf2
  v2 := Tryz.zeroValue2
  t3 := Tryz.underlying3
  a3 := Tryz.isAgg3
  z3 := Tryz.sizeOf3
  v3 := Tryz.zeroValue3
  t4 := Tryz.underlying4
  a4 := Tryz.isAgg4
  z4 := Tryz.sizeOf4
  v4 := Tryz.zeroValue4
  t5 := Tryz.underlying5
  a5 := Tryz.isAgg5
  z5 := Tryz.sizeOf5
  v5 := Tryz.zeroValue5
  t9 := Tryz.underlying9
  a9 := Tryz.isAgg9
  z9 := Tryz.sizeOf9
  v9 := Tryz.zeroValue9
  t20 := Tryz.underlying20
  a20 := Tryz.isAgg20
  z20 := Tryz.sizeOf20
  v20 := Tryz.zeroValue20
  t37 := Tryz.underlying49
  a37 := Tryz.isAgg49
  z37 := Tryz.sizeOf49
  v37 := Tryz.zeroValue49
  t46 := Tryz.underlying89
  a46 := Tryz.isAgg89
  z46 := Tryz.sizeOf89
  v46 := Tryz.zeroValue89
  t51 := Tryz.underlying76
  a51 := Tryz.isAgg76
  z51 := Tryz.sizeOf76
  v51 := Tryz.zeroValue76
  t53 := Tryz.underlying84
  a53 := Tryz.isAgg84
  z53 := Tryz.sizeOf84
  v53 := Tryz.zeroValue84
  t171 := Tryz.underlying83
  a171 := Tryz.isAgg83
  z171 := Tryz.sizeOf83
  v171 := Tryz.zeroValue83
  t173 := Tryz.underlying87
  a173 := Tryz.isAgg87
  z173 := Tryz.sizeOf87
  v173 := Tryz.zeroValue87
  t212 := Tryz.underlying104
  a212 := Tryz.isAgg104
  z212 := Tryz.sizeOf104
  v212 := Tryz.zeroValue104
  t213 := Tryz.underlying105
  a213 := Tryz.isAgg105
  z213 := Tryz.sizeOf105
  t232 := Tryz.underlying138
  a232 := Tryz.isAgg138
  z232 := Tryz.sizeOf138
  v232 := Tryz.zeroValue138
  t233 := Tryz.underlying123
  a233 := Tryz.isAgg123
  z233 := Tryz.sizeOf123
  v233 := Tryz.zeroValue123
  g17 := by kernel_rfl
  g18 := by kernel_rfl
  g19 := by kernel_rfl }
open Go.RowKit Go.Sort Go.Lib in
theorem Tryz.strconv_Itoa_small (i : Nat) (hi : i < 100) (w : World) :
    Calls Tryz.prog 15 #[.int .i64 i] w fun e w' => e = .returned (.string ⟨(Lib.decDigits i).toArray⟩) ∧ w' = w := Any.strconv_Itoa_small Tryz.lays171 i hi w
def Tryz.lays189_ren : Go.Shelf.Ren := ⟨fun | 189 => 45 | 125 => 61 | 257 => 60 | 128 => 86 | 129 => 65 | 294 => 77 | 295 => 78 | 296 => 79 | 297 => 80 | 298 => 81 | 299 => 82 | 216 => 83 | 300 => 84 | 301 => 85 | 328 => 94 | 329 => 95 | 330 => 96 | 331 => 97 | 332 => 98 | 215 => 99 | 343 => 107 | n => n, fun | 28 => 33 | 3 => 3 | 46 => 89 | 0 => 0 | 51 => 76 | 53 => 84 | 4 => 4 | 183 => 116 | 182 => 115 | 131 => 120 | 5 => 5 | 9 => 9 | 218 => 132 | 222 => 136 | 228 => 151 | 229 => 152 | n => n, fun | n => n⟩
theorem Tryz.lays189 : Go.Proofs.Lays.n189 Tryz.prog Tryz.lays189_ren := {
  mixed := by kernel_rfl
  f125 := Tryz.func61.trans (congrArg some (by kernel_rfl))
  f128 := Tryz.func86.trans (congrArg some (by kernel_rfl))
  f129 := Tryz.func65.trans (congrArg some (by kernel_rfl))
  f189 := Tryz.func45.trans (congrArg some (by kernel_rfl))
  f215 := Tryz.func99.trans (congrArg some (by kernel_rfl))
  f216 := Tryz.func83.trans (congrArg some (by kernel_rfl))
  f257 := Tryz.func60.trans (congrArg some (by kernel_rfl))
  f294 := Tryz.func77.trans (congrArg some (by kernel_rfl))
  f295 := Tryz.func78.trans (congrArg some (by kernel_rfl))
  f296 := Tryz.func79.trans (congrArg some (by kernel_rfl))
  f297 := Tryz.func80.trans (congrArg some (by kernel_rfl))
  f298 := Tryz.func81.trans (congrArg some (by kernel_rfl))
  f299 := Tryz.func82.trans (congrArg some (by kernel_rfl))
  f300 := Tryz.func84.trans (congrArg some (by kernel_rfl))
  f301 := Tryz.func85.trans (congrArg some (by kernel_rfl))
  f328 := Tryz.func94.trans (congrArg some (by kernel_rfl))
  f329 := Tryz.func95.trans (congrArg some (by kernel_rfl))
  f330 := Tryz.func96.trans (congrArg some (by kernel_rfl))
  f331 := Tryz.func97.trans (congrArg some (by kernel_rfl))
  f332 := Tryz.func98.trans (congrArg some (by kernel_rfl))
  f343 := Tryz.func107.trans (congrArg some (by kernel_rfl))
  t0 := Tryz.underlying0
  a0 := Tryz.isAgg0
  z0 := Tryz.sizeOf0
  v0 := Tryz.zeroValue0
  t3 := Tryz.underlying3
  a3 := Tryz.isAgg3
  z3 := Tryz.sizeOf3
  v3 := Tryz.zeroValue3
  t4 := Tryz.underlying4
  a4 := Tryz.isAgg4
  z4 := Tryz.sizeOf4
  v4 := Tryz.zeroValue4
  t5 := Tryz.underlying5
  a5 := Tryz.isAgg5
  z5 := Tryz.sizeOf5
  v5 := Tryz.zeroValue5
  t9 := Tryz.underlying9
  a9 := Tryz.isAgg9
  z9 := Tryz.sizeOf9
  v9 := Tryz.zeroValue9
  t28 := Tryz.underlying33
  a28 := Tryz.isAgg33
  z28 := Tryz.sizeOf33
  v28 := Tryz.zeroValue33
  t46 := Tryz.underlying89
  a46 := Tryz.isAgg89
  z46 := Tryz.sizeOf89
  v46 := Tryz.zeroValue89
  t51 := Tryz.underlying76
  a51 := Tryz.isAgg76
  z51 := Tryz.sizeOf76
  v51 := Tryz.zeroValue76
  t53 := Tryz.underlying84
  a53 := Tryz.isAgg84
  z53 := Tryz.sizeOf84
  v53 := Tryz.zeroValue84
  t131 := Tryz.underlying120
  a131 := Tryz.isAgg120
  z131 := Tryz.sizeOf120
  v131 := Tryz.zeroValue120
  t182 := Tryz.underlying115
  a182 := Tryz.isAgg115
  z182 := Tryz.sizeOf115
  v182 := Tryz.zeroValue115
  t183 := Tryz.underlying116
  a183 := Tryz.isAgg116
  z183 := Tryz.sizeOf116
  v183 := Tryz.zeroValue116
  t218 := Tryz.underlying132
  a218 := Tryz.isAgg132
  z218 := Tryz.sizeOf132
  v218 := Tryz.zeroValue132
  t222 := Tryz.underlying136
  a222 := Tryz.isAgg136
  z222 := Tryz.sizeOf136
  v222 := Tryz.zeroValue136
  t228 := Tryz.underlying151
  a228 := Tryz.isAgg151
  z228 := Tryz.sizeOf151
  v228 := Tryz.zeroValue151
  t229 := Tryz.underlying152
  a229 := Tryz.isAgg152
  z229 := Tryz.sizeOf152
  v229 := Tryz.zeroValue152 }
open Go.Sort Go.RowKit in
theorem Tryz.slices_Sort_int (blk off cap : Nat) (zs : List Int) (w : World) (hH : Holds (Value.int .i64) w blk off zs.toArray) (hblk : blk < w.heap.size) (hsz : zs.length < 4611686018427387904) :
    Calls Tryz.prog 45 #[.slice (some ⟨blk, off, none⟩) zs.length cap] w fun e w' =>
      e = .returned (.tuple #[]) ∧ ∃ n os, w' = grow (putRow (Value.int .i64) (Sort.ahead w n) blk off (zs.mergeSort fun x y => decide (x ≤ y)).toArray) os := Any.slices_Sort_int Tryz.lays189 blk off cap zs w hH hblk hsz
def Tryz.lays191_ren : Go.Shelf.Ren := ⟨fun | 191 => 32 | 189 => 45 | 125 => 61 | 257 => 60 | 128 => 86 | 129 => 65 | 294 => 77 | 295 => 78 | 296 => 79 | 297 => 80 | 298 => 81 | 299 => 82 | 216 => 83 | 300 => 84 | 301 => 85 | 328 => 94 | 329 => 95 | 330 => 96 | 331 => 97 | 332 => 98 | 215 => 99 | 343 => 107 | n => n, fun | 28 => 33 | 0 => 0 | 3 => 3 | 46 => 89 | 51 => 76 | 53 => 84 | 4 => 4 | 183 => 116 | 182 => 115 | 131 => 120 | 5 => 5 | 9 => 9 | 218 => 132 | 222 => 136 | 228 => 151 | 229 => 152 | n => n, fun | n => n⟩
theorem Tryz.lays191 : Go.Proofs.Lays.n191 Tryz.prog Tryz.lays191_ren := {
  mixed := by kernel_rfl
  f125 := Tryz.func61.trans (congrArg some (by kernel_rfl))
  f128 := Tryz.func86.trans (congrArg some (by kernel_rfl))
  f129 := Tryz.func65.trans (congrArg some (by kernel_rfl))
  f189 := Tryz.func45.trans (congrArg some (by kernel_rfl))
  f191 := Tryz.func32.trans (congrArg some (by kernel_rfl))
  f215 := Tryz.func99.trans (congrArg some (by kernel_rfl))
  f216 := Tryz.func83.trans (congrArg some (by kernel_rfl))
  f257 := Tryz.func60.trans (congrArg some (by kernel_rfl))
  f294 := Tryz.func77.trans (congrArg some (by kernel_rfl))
  f295 := Tryz.func78.trans (congrArg some (by kernel_rfl))
  f296 := Tryz.func79.trans (congrArg some (by kernel_rfl))
  f297 := Tryz.func80.trans (congrArg some (by kernel_rfl))
  f298 := Tryz.func81.trans (congrArg some (by kernel_rfl))
  f299 := Tryz.func82.trans (congrArg some (by kernel_rfl))
  f300 := Tryz.func84.trans (congrArg some (by kernel_rfl))
  f301 := Tryz.func85.trans (congrArg some (by kernel_rfl))
  f328 := Tryz.func94.trans (congrArg some (by kernel_rfl))
  f329 := Tryz.func95.trans (congrArg some (by kernel_rfl))
  f330 := Tryz.func96.trans (congrArg some (by kernel_rfl))
  f331 := Tryz.func97.trans (congrArg some (by kernel_rfl))
  f332 := Tryz.func98.trans (congrArg some (by kernel_rfl))
  f343 := Tryz.func107.trans (congrArg some (by kernel_rfl))
  t0 := Tryz.underlying0
  a0 := Tryz.isAgg0
  z0 := Tryz.sizeOf0
  v0 := Tryz.zeroValue0
  t3 := Tryz.underlying3
  a3 := Tryz.isAgg3
  z3 := Tryz.sizeOf3
  v3 := Tryz.zeroValue3
  t4 := Tryz.underlying4
  a4 := Tryz.isAgg4
  z4 := Tryz.sizeOf4
  v4 := Tryz.zeroValue4
  t5 := Tryz.underlying5
  a5 := Tryz.isAgg5
  z5 := Tryz.sizeOf5
  v5 := Tryz.zeroValue5
  t9 := Tryz.underlying9
  a9 := Tryz.isAgg9
  z9 := Tryz.sizeOf9
  v9 := Tryz.zeroValue9
  t28 := Tryz.underlying33
  a28 := Tryz.isAgg33
  z28 := Tryz.sizeOf33
  v28 := Tryz.zeroValue33
  t46 := Tryz.underlying89
  a46 := Tryz.isAgg89
  z46 := Tryz.sizeOf89
  v46 := Tryz.zeroValue89
  t51 := Tryz.underlying76
  a51 := Tryz.isAgg76
  z51 := Tryz.sizeOf76
  v51 := Tryz.zeroValue76
  t53 := Tryz.underlying84
  a53 := Tryz.isAgg84
  z53 := Tryz.sizeOf84
  v53 := Tryz.zeroValue84
  t131 := Tryz.underlying120
  a131 := Tryz.isAgg120
  z131 := Tryz.sizeOf120
  v131 := Tryz.zeroValue120
  t182 := Tryz.underlying115
  a182 := Tryz.isAgg115
  z182 := Tryz.sizeOf115
  v182 := Tryz.zeroValue115
  t183 := Tryz.underlying116
  a183 := Tryz.isAgg116
  z183 := Tryz.sizeOf116
  v183 := Tryz.zeroValue116
  t218 := Tryz.underlying132
  a218 := Tryz.isAgg132
  z218 := Tryz.sizeOf132
  v218 := Tryz.zeroValue132
  t222 := Tryz.underlying136
  a222 := Tryz.isAgg136
  z222 := Tryz.sizeOf136
  v222 := Tryz.zeroValue136
  t228 := Tryz.underlying151
  a228 := Tryz.isAgg151
  z228 := Tryz.sizeOf151
  v228 := Tryz.zeroValue151
  t229 := Tryz.underlying152
  a229 := Tryz.isAgg152
  z229 := Tryz.sizeOf152
  v229 := Tryz.zeroValue152 }
open Go.Sort Go.RowKit in
theorem Tryz.sort_Ints (blk off cap : Nat) (zs : List Int) (w : World) (hH : Holds (Value.int .i64) w blk off zs.toArray) (hblk : blk < w.heap.size) (hsz : zs.length < 4611686018427387904) :
    Calls Tryz.prog 32 #[.slice (some ⟨blk, off, none⟩) zs.length cap] w fun e w' =>
      e = .returned (.tuple #[]) ∧ ∃ n os, w' = grow (putRow (Value.int .i64) (Sort.ahead w n) blk off (zs.mergeSort fun x y => decide (x ≤ y)).toArray) os := Any.sort_Ints Tryz.lays191 blk off cap zs w hH hblk hsz
def Tryz.lays315_ren : Go.Shelf.Ren := ⟨fun | 315 => 100 | n => n, fun | 9 => 9 | 40 => 65 | 4 => 4 | 3 => 3 | 0 => 0 | 21 => 21 | n => n, fun | n => n⟩
theorem Tryz.lays315 : Go.Proofs.Lays.n315 Tryz.prog Tryz.lays315_ren := {
  mixed := by kernel_rfl
  f315 := Tryz.func100.trans (congrArg some (by kernel_rfl))
  t0 := Tryz.underlying0
  a0 := Tryz.isAgg0
  z0 := Tryz.sizeOf0
  v0 := Tryz.zeroValue0
  t3 := Tryz.underlying3
  a3 := Tryz.isAgg3
  z3 := Tryz.sizeOf3
  v3 := Tryz.zeroValue3
  t4 := Tryz.underlying4
  a4 := Tryz.isAgg4
  z4 := Tryz.sizeOf4
  v4 := Tryz.zeroValue4
  t9 := Tryz.underlying9
  a9 := Tryz.isAgg9
  z9 := Tryz.sizeOf9
  v9 := Tryz.zeroValue9
  t21 := Tryz.underlying21
  a21 := Tryz.isAgg21
  z21 := Tryz.sizeOf21
  v21 := Tryz.zeroValue21
  t40 := Tryz.underlying65
  a40 := Tryz.isAgg65
  z40 := Tryz.sizeOf65
  v40 := Tryz.zeroValue65 }
open Go.RowKit Go.Lib in
theorem Tryz.strings_indexFunc (g : Nat) (lb : Array Value) (eg : ∀ args w, (callFunc g args).run Tryz.prog w = .ok (.enter g args) w) (p : Nat → Bool) (truth : Bool) (s : ByteArray) (w : World) (hp : PredAt Tryz.prog g lb encR p w) :
    Calls Tryz.prog 100 #[.string s, .func (.func g) #[] lb, .bool truth] w fun e w' => e = .returned (.int .i64 (Lib.idxFunc p truth s)) ∧ Below w.heap.size w w' := Any.strings_indexFunc Tryz.lays315 g lb eg p truth s w hp
def Tryz.lays273_ren : Go.Shelf.Ren := ⟨fun | 273 => 91 | 271 => 103 | 120 => 108 | 197 => 92 | 260 => 104 | n => n, fun | 9 => 9 | 40 => 65 | 4 => 4 | 3 => 3 | 105 => 127 | 21 => 21 | 5 => 5 | 119 => 108 | 0 => 0 | 46 => 89 | 139 => 159 | 138 => 158 | n => n, fun | 3 => 5 | 4 => 6 | n => n⟩
theorem Tryz.lays273 : Go.Proofs.Lays.n273 Tryz.prog Tryz.lays273_ren := {
  mixed := by kernel_rfl
  f120 := Tryz.func108.trans (congrArg some (by kernel_rfl))
  f197 := Tryz.func92.trans (congrArg some (by kernel_rfl))
  f260 := Tryz.func104.trans (congrArg some (by kernel_rfl))
  f271 := Tryz.func103.trans (congrArg some (by kernel_rfl))
  f273 := Tryz.func91.trans (congrArg some (by kernel_rfl))
  t0 := Tryz.underlying0
  a0 := Tryz.isAgg0
  z0 := Tryz.sizeOf0
  v0 := Tryz.zeroValue0
  t3 := Tryz.underlying3
  a3 := Tryz.isAgg3
  z3 := Tryz.sizeOf3
  v3 := Tryz.zeroValue3
  t4 := Tryz.underlying4
  a4 := Tryz.isAgg4
  z4 := Tryz.sizeOf4
  v4 := Tryz.zeroValue4
  t5 := Tryz.underlying5
  a5 := Tryz.isAgg5
  z5 := Tryz.sizeOf5
  v5 := Tryz.zeroValue5
  t9 := Tryz.underlying9
  a9 := Tryz.isAgg9
  z9 := Tryz.sizeOf9
  v9 := Tryz.zeroValue9
  t21 := Tryz.underlying21
  a21 := Tryz.isAgg21
  z21 := Tryz.sizeOf21
  v21 := Tryz.zeroValue21
  t40 := Tryz.underlying65
  a40 := Tryz.isAgg65
  z40 := Tryz.sizeOf65
  v40 := Tryz.zeroValue65
  t46 := Tryz.underlying89
  a46 := Tryz.isAgg89
  z46 := Tryz.sizeOf89
  v46 := Tryz.zeroValue89
  t105 := Tryz.underlying127
  a105 := Tryz.isAgg127
  z105 := Tryz.sizeOf127
  v105 := Tryz.zeroValue127
  t119 := Tryz.underlying108
  a119 := Tryz.isAgg108
  z119 := Tryz.sizeOf108
  t138 := Tryz.underlying158
  a138 := Tryz.isAgg158
  z138 := Tryz.sizeOf158
  v138 := Tryz.zeroValue158
  t139 := Tryz.underlying159
  a139 := Tryz.isAgg159
  z139 := Tryz.sizeOf159
  v139 := Tryz.zeroValue159
  g3 := by kernel_rfl
  g4 := by kernel_rfl }
open Go.RowKit Go.Lib in
theorem Tryz.strings_lastIndexFunc (g : Nat) (lb : Array Value) (eg : ∀ args w, (callFunc g args).run Tryz.prog w = .ok (.enter g args) w) (p : Nat → Bool) (truth : Bool) (s : ByteArray) (w : World) (hs : s.size ≤ 9223372036854775807) (hT : Lib.Utf8Tabs 5 6 w) (hp : PredAt Tryz.prog g lb encR p w) :
    Calls Tryz.prog 91 #[.string s, .func (.func g) #[] lb, .bool truth] w fun e w' => e = .returned (.int .i64 (Lib.lastIdxFunc p truth s)) ∧ Below w.heap.size w w' := Any.strings_lastIndexFunc Tryz.lays273 g lb eg p truth s w hs hT hp
def Tryz.lays272_ren : Go.Shelf.Ren := ⟨fun | 272 => 89 | 315 => 100 | n => n, fun | 9 => 9 | 40 => 65 | 4 => 4 | 3 => 3 | 0 => 0 | 21 => 21 | n => n, fun | n => n⟩
theorem Tryz.lays272 : Go.Proofs.Lays.n272 Tryz.prog Tryz.lays272_ren := {
  mixed := by kernel_rfl
  f272 := Tryz.func89.trans (congrArg some (by kernel_rfl))
  f315 := Tryz.func100.trans (congrArg some (by kernel_rfl))
  t0 := Tryz.underlying0
  a0 := Tryz.isAgg0
  z0 := Tryz.sizeOf0
  v0 := Tryz.zeroValue0
  t3 := Tryz.underlying3
  a3 := Tryz.isAgg3
  z3 := Tryz.sizeOf3
  v3 := Tryz.zeroValue3
  t4 := Tryz.underlying4
  a4 := Tryz.isAgg4
  z4 := Tryz.sizeOf4
  v4 := Tryz.zeroValue4
  t9 := Tryz.underlying9
  a9 := Tryz.isAgg9
  z9 := Tryz.sizeOf9
  v9 := Tryz.zeroValue9
  t21 := Tryz.underlying21
  a21 := Tryz.isAgg21
  z21 := Tryz.sizeOf21
  v21 := Tryz.zeroValue21
  t40 := Tryz.underlying65
  a40 := Tryz.isAgg65
  z40 := Tryz.sizeOf65
  v40 := Tryz.zeroValue65 }
open Go.RowKit Go.Lib in
theorem Tryz.strings_TrimLeftFunc (g : Nat) (lb : Array Value) (eg : ∀ args w, (callFunc g args).run Tryz.prog w = .ok (.enter g args) w) (p : Nat → Bool) (s : ByteArray) (w : World) (hp : PredAt Tryz.prog g lb encR p w) :
    Calls Tryz.prog 89 #[.string s, .func (.func g) #[] lb] w fun e w' => e = .returned (.string (Lib.trimLeftF p s)) ∧ Below w.heap.size w w' := Any.strings_TrimLeftFunc Tryz.lays272 g lb eg p s w hp
def Tryz.lays238_ren : Go.Shelf.Ren := ⟨fun | 238 => 72 | 273 => 91 | 197 => 92 | 271 => 103 | 260 => 104 | 120 => 108 | n => n, fun | 9 => 9 | 40 => 65 | 4 => 4 | 3 => 3 | 105 => 127 | 21 => 21 | 5 => 5 | 119 => 108 | 0 => 0 | 46 => 89 | 139 => 159 | 138 => 158 | n => n, fun | 3 => 5 | 4 => 6 | n => n⟩
theorem Tryz.lays238 : Go.Proofs.Lays.n238 Tryz.prog Tryz.lays238_ren := {
  mixed := by kernel_rfl
  f120 := Tryz.func108.trans (congrArg some (by kernel_rfl))
  f197 := Tryz.func92.trans (congrArg some (by kernel_rfl))
  f238 := Tryz.func72.trans (congrArg some (by kernel_rfl))
  f260 := Tryz.func104.trans (congrArg some (by kernel_rfl))
  f271 := Tryz.func103.trans (congrArg some (by kernel_rfl))
  f273 := Tryz.func91.trans (congrArg some (by kernel_rfl))
  t0 := Tryz.underlying0
  a0 := Tryz.isAgg0
  z0 := Tryz.sizeOf0
  v0 := Tryz.zeroValue0
  t3 := Tryz.underlying3
  a3 := Tryz.isAgg3
  z3 := Tryz.sizeOf3
  v3 := Tryz.zeroValue3
  t4 := Tryz.underlying4
  a4 := Tryz.isAgg4
  z4 := Tryz.sizeOf4
  v4 := Tryz.zeroValue4
  t5 := Tryz.underlying5
  a5 := Tryz.isAgg5
  z5 := Tryz.sizeOf5
  v5 := Tryz.zeroValue5
  t9 := Tryz.underlying9
  a9 := Tryz.isAgg9
  z9 := Tryz.sizeOf9
  v9 := Tryz.zeroValue9
  t21 := Tryz.underlying21
  a21 := Tryz.isAgg21
  z21 := Tryz.sizeOf21
  v21 := Tryz.zeroValue21
  t40 := Tryz.underlying65
  a40 := Tryz.isAgg65
  z40 := Tryz.sizeOf65
  v40 := Tryz.zeroValue65
  t46 := Tryz.underlying89
  a46 := Tryz.isAgg89
  z46 := Tryz.sizeOf89
  v46 := Tryz.zeroValue89
  t105 := Tryz.underlying127
  a105 := Tryz.isAgg127
  z105 := Tryz.sizeOf127
  v105 := Tryz.zeroValue127
  t119 := Tryz.underlying108
  a119 := Tryz.isAgg108
  z119 := Tryz.sizeOf108
  t138 := Tryz.underlying158
  a138 := Tryz.isAgg158
  z138 := Tryz.sizeOf158
  v138 := Tryz.zeroValue158
  t139 := Tryz.underlying159
  a139 := Tryz.isAgg159
  z139 := Tryz.sizeOf159
  v139 := Tryz.zeroValue159
  g3 := by kernel_rfl
  g4 := by kernel_rfl }
open Go.RowKit Go.Lib in
theorem Tryz.strings_TrimRightFunc (g : Nat) (lb : Array Value) (eg : ∀ args w, (callFunc g args).run Tryz.prog w = .ok (.enter g args) w) (p : Nat → Bool) (s : ByteArray) (w : World) (hs : s.size ≤ 9223372036854775807) (hT : Lib.Utf8Tabs 5 6 w) (hp : PredAt Tryz.prog g lb encR p w) :
    Calls Tryz.prog 72 #[.string s, .func (.func g) #[] lb] w fun e w' => e = .returned (.string (Lib.trimRightF p s)) ∧ Below w.heap.size w w' := Any.strings_TrimRightFunc Tryz.lays238 g lb eg p s w hs hT hp
def Tryz.lays237_ren : Go.Shelf.Ren := ⟨fun | 237 => 70 | 272 => 89 | 238 => 72 | 315 => 100 | 273 => 91 | 197 => 92 | 271 => 103 | 260 => 104 | 120 => 108 | n => n, fun | 9 => 9 | 40 => 65 | 4 => 4 | 3 => 3 | 105 => 127 | 21 => 21 | 0 => 0 | 5 => 5 | 119 => 108 | 46 => 89 | 139 => 159 | 138 => 158 | n => n, fun | 3 => 5 | 4 => 6 | n => n⟩
theorem Tryz.lays237 : Go.Proofs.Lays.n237 Tryz.prog Tryz.lays237_ren := {
  mixed := by kernel_rfl
  f120 := Tryz.func108.trans (congrArg some (by kernel_rfl))
  f197 := Tryz.func92.trans (congrArg some (by kernel_rfl))
  f237 := Tryz.func70.trans (congrArg some (by kernel_rfl))
  f238 := Tryz.func72.trans (congrArg some (by kernel_rfl))
  f260 := Tryz.func104.trans (congrArg some (by kernel_rfl))
  f271 := Tryz.func103.trans (congrArg some (by kernel_rfl))
  f272 := Tryz.func89.trans (congrArg some (by kernel_rfl))
  f273 := Tryz.func91.trans (congrArg some (by kernel_rfl))
  f315 := Tryz.func100.trans (congrArg some (by kernel_rfl))
  t0 := Tryz.underlying0
  a0 := Tryz.isAgg0
  z0 := Tryz.sizeOf0
  v0 := Tryz.zeroValue0
  t3 := Tryz.underlying3
  a3 := Tryz.isAgg3
  z3 := Tryz.sizeOf3
  v3 := Tryz.zeroValue3
  t4 := Tryz.underlying4
  a4 := Tryz.isAgg4
  z4 := Tryz.sizeOf4
  v4 := Tryz.zeroValue4
  t5 := Tryz.underlying5
  a5 := Tryz.isAgg5
  z5 := Tryz.sizeOf5
  v5 := Tryz.zeroValue5
  t9 := Tryz.underlying9
  a9 := Tryz.isAgg9
  z9 := Tryz.sizeOf9
  v9 := Tryz.zeroValue9
  t21 := Tryz.underlying21
  a21 := Tryz.isAgg21
  z21 := Tryz.sizeOf21
  v21 := Tryz.zeroValue21
  t40 := Tryz.underlying65
  a40 := Tryz.isAgg65
  z40 := Tryz.sizeOf65
  v40 := Tryz.zeroValue65
  t46 := Tryz.underlying89
  a46 := Tryz.isAgg89
  z46 := Tryz.sizeOf89
  v46 := Tryz.zeroValue89
  t105 := Tryz.underlying127
  a105 := Tryz.isAgg127
  z105 := Tryz.sizeOf127
  v105 := Tryz.zeroValue127
  t119 := Tryz.underlying108
  a119 := Tryz.isAgg108
  z119 := Tryz.sizeOf108
  t138 := Tryz.underlying158
  a138 := Tryz.isAgg158
  z138 := Tryz.sizeOf158
  v138 := Tryz.zeroValue158
  t139 := Tryz.underlying159
  a139 := Tryz.isAgg159
  z139 := Tryz.sizeOf159
  v139 := Tryz.zeroValue159
  g3 := by kernel_rfl
  g4 := by kernel_rfl }
open Go.RowKit Go.Lib in
theorem Tryz.strings_TrimFunc (g : Nat) (lb : Array Value) (eg : ∀ args w, (callFunc g args).run Tryz.prog w = .ok (.enter g args) w) (p : Nat → Bool) (s : ByteArray) (w : World) (hs : s.size ≤ 9223372036854775807) (hT : Lib.Utf8Tabs 5 6 w) (hp : PredAt Tryz.prog g lb encR p w) :
    Calls Tryz.prog 70 #[.string s, .func (.func g) #[] lb] w fun e w' => e = .returned (.string (Lib.trimF p s)) ∧ Below w.heap.size w w' := Any.strings_TrimFunc Tryz.lays237 g lb eg p s w hs hT hp
open Go.RowKit Go.Lib in
theorem Tryz.strings_indexFunc_runes (g : Nat) (lb : Array Value) (eg : ∀ args w, (callFunc g args).run Tryz.prog w = .ok (.enter g args) w) (p : Nat → Bool) (truth : Bool) (s : ByteArray) (w : World) (hp : PredAtRunes Tryz.prog g lb p w) :
    Calls Tryz.prog 100 #[.string s, .func (.func g) #[] lb, .bool truth] w fun e w' => e = .returned (.int .i64 (Lib.idxFunc p truth s)) ∧ Below w.heap.size w w' := Any.strings_indexFunc_runes Tryz.lays315 g lb eg p truth s w hp
open Go.RowKit Go.Lib in
theorem Tryz.strings_lastIndexFunc_runes (g : Nat) (lb : Array Value) (eg : ∀ args w, (callFunc g args).run Tryz.prog w = .ok (.enter g args) w) (p : Nat → Bool) (truth : Bool) (s : ByteArray) (w : World) (hs : s.size ≤ 9223372036854775807) (hT : Lib.Utf8Tabs 5 6 w) (hp : PredAtRunes Tryz.prog g lb p w) :
    Calls Tryz.prog 91 #[.string s, .func (.func g) #[] lb, .bool truth] w fun e w' => e = .returned (.int .i64 (Lib.lastIdxFunc p truth s)) ∧ Below w.heap.size w w' := Any.strings_lastIndexFunc_runes Tryz.lays273 g lb eg p truth s w hs hT hp
open Go.RowKit Go.Lib in
theorem Tryz.strings_TrimLeftFunc_runes (g : Nat) (lb : Array Value) (eg : ∀ args w, (callFunc g args).run Tryz.prog w = .ok (.enter g args) w) (p : Nat → Bool) (s : ByteArray) (w : World) (hp : PredAtRunes Tryz.prog g lb p w) :
    Calls Tryz.prog 89 #[.string s, .func (.func g) #[] lb] w fun e w' => e = .returned (.string (Lib.trimLeftF p s)) ∧ Below w.heap.size w w' := Any.strings_TrimLeftFunc_runes Tryz.lays272 g lb eg p s w hp
open Go.RowKit Go.Lib in
theorem Tryz.strings_TrimRightFunc_runes (g : Nat) (lb : Array Value) (eg : ∀ args w, (callFunc g args).run Tryz.prog w = .ok (.enter g args) w) (p : Nat → Bool) (s : ByteArray) (w : World) (hs : s.size ≤ 9223372036854775807) (hT : Lib.Utf8Tabs 5 6 w) (hp : PredAtRunes Tryz.prog g lb p w) :
    Calls Tryz.prog 72 #[.string s, .func (.func g) #[] lb] w fun e w' => e = .returned (.string (Lib.trimRightF p s)) ∧ Below w.heap.size w w' := Any.strings_TrimRightFunc_runes Tryz.lays238 g lb eg p s w hs hT hp
open Go.RowKit Go.Lib in
theorem Tryz.strings_TrimFunc_runes (g : Nat) (lb : Array Value) (eg : ∀ args w, (callFunc g args).run Tryz.prog w = .ok (.enter g args) w) (p : Nat → Bool) (s : ByteArray) (w : World) (hs : s.size ≤ 9223372036854775807) (hT : Lib.Utf8Tabs 5 6 w) (hp : PredAtRunes Tryz.prog g lb p w) :
    Calls Tryz.prog 70 #[.string s, .func (.func g) #[] lb] w fun e w' => e = .returned (.string (Lib.trimF p s)) ∧ Below w.heap.size w w' := Any.strings_TrimFunc_runes Tryz.lays237 g lb eg p s w hs hT hp
def Tryz.lays199_ren : Go.Shelf.Ren := ⟨fun | 199 => 71 | 261 => 90 | 311 => 101 | 312 => 102 | n => n, fun | 21 => 21 | 4 => 4 | 51 => 76 | 141 => 125 | 0 => 0 | 196 => 142 | 193 => 139 | 3 => 3 | 198 => 145 | 49 => 143 | 194 => 140 | 201 => 148 | 226 => 154 | 46 => 89 | 227 => 155 | n => n, fun | 6 => 2 | n => n⟩
theorem Tryz.lays199 : Go.Proofs.Lays.n199 Tryz.prog Tryz.lays199_ren := {
  mixed := by kernel_rfl
  f199 := Tryz.func71.trans (congrArg some (by kernel_rfl))
  f261 := Tryz.func90.trans (congrArg some (by kernel_rfl))
  f311 := Tryz.func101.trans (congrArg some (by kernel_rfl))
  f312 := Tryz.func102.trans (congrArg some (by kernel_rfl))
  t0 := Tryz.underlying0
  a0 := Tryz.isAgg0
  z0 := Tryz.sizeOf0
  v0 := Tryz.zeroValue0
  t3 := Tryz.underlying3
  a3 := Tryz.isAgg3
  z3 := Tryz.sizeOf3
  v3 := Tryz.zeroValue3
  t4 := Tryz.underlying4
  a4 := Tryz.isAgg4
  z4 := Tryz.sizeOf4
  v4 := Tryz.zeroValue4
  t21 := Tryz.underlying21
  a21 := Tryz.isAgg21
  z21 := Tryz.sizeOf21
  v21 := Tryz.zeroValue21
  t46 := Tryz.underlying89
  a46 := Tryz.isAgg89
  z46 := Tryz.sizeOf89
  v46 := Tryz.zeroValue89
  t49 := Tryz.underlying143
  a49 := Tryz.isAgg143
  z49 := Tryz.sizeOf143
  v49 := Tryz.zeroValue143
  t51 := Tryz.underlying76
  a51 := Tryz.isAgg76
  z51 := Tryz.sizeOf76
  v51 := Tryz.zeroValue76
  t141 := Tryz.underlying125
  a141 := Tryz.isAgg125
  z141 := Tryz.sizeOf125
  v141 := Tryz.zeroValue125
  t193 := Tryz.underlying139
  a193 := Tryz.isAgg139
  z193 := Tryz.sizeOf139
  v193 := Tryz.zeroValue139
  t194 := Tryz.underlying140
  a194 := Tryz.isAgg140
  z194 := Tryz.sizeOf140
  v194 := Tryz.zeroValue140
  t196 := Tryz.underlying142
  a196 := Tryz.isAgg142
  z196 := Tryz.sizeOf142
  v196 := Tryz.zeroValue142
  t198 := Tryz.underlying145
  a198 := Tryz.isAgg145
  z198 := Tryz.sizeOf145
  v198 := Tryz.zeroValue145
  t201 := Tryz.underlying148
  a201 := Tryz.isAgg148
  z201 := Tryz.sizeOf148
  v201 := Tryz.zeroValue148
  t226 := Tryz.underlying154
  a226 := Tryz.isAgg154
  z226 := Tryz.sizeOf154
  v226 := Tryz.zeroValue154
  t227 := Tryz.underlying155
  a227 := Tryz.isAgg155
  z227 := Tryz.sizeOf155
  v227 := Tryz.zeroValue155
  g6 := by kernel_rfl }
open Go.RowKit Go.Lib in
theorem Tryz.unicode_IsSpace (r : Int) (w : World) (h0 : 0 ≤ r) (h : r ≤ 255) :
    Calls Tryz.prog 71 #[.int .i32 r] w fun e w' => e = .returned (.bool (Lib.isSpaceL r)) ∧ w' = w := Any.unicode_IsSpace Tryz.lays199 r w h0 h
def Tryz.lays197_ren : Go.Shelf.Ren := ⟨fun | 197 => 92 | 260 => 104 | n => n, fun | 9 => 9 | 21 => 21 | 3 => 3 | 4 => 4 | 5 => 5 | 105 => 127 | 119 => 108 | 0 => 0 | 46 => 89 | 139 => 159 | 138 => 158 | n => n, fun | 3 => 5 | 4 => 6 | n => n⟩
theorem Tryz.lays197 : Go.Proofs.Lays.n197 Tryz.prog Tryz.lays197_ren := {
  mixed := by kernel_rfl
  f197 := Tryz.func92.trans (congrArg some (by kernel_rfl))
  f260 := Tryz.func104.trans (congrArg some (by kernel_rfl))
  t0 := Tryz.underlying0
  a0 := Tryz.isAgg0
  z0 := Tryz.sizeOf0
  v0 := Tryz.zeroValue0
  t3 := Tryz.underlying3
  a3 := Tryz.isAgg3
  z3 := Tryz.sizeOf3
  v3 := Tryz.zeroValue3
  t4 := Tryz.underlying4
  a4 := Tryz.isAgg4
  z4 := Tryz.sizeOf4
  v4 := Tryz.zeroValue4
  t5 := Tryz.underlying5
  a5 := Tryz.isAgg5
  z5 := Tryz.sizeOf5
  v5 := Tryz.zeroValue5
  t9 := Tryz.underlying9
  a9 := Tryz.isAgg9
  z9 := Tryz.sizeOf9
  v9 := Tryz.zeroValue9
  t21 := Tryz.underlying21
  a21 := Tryz.isAgg21
  z21 := Tryz.sizeOf21
  v21 := Tryz.zeroValue21
  t46 := Tryz.underlying89
  a46 := Tryz.isAgg89
  z46 := Tryz.sizeOf89
  v46 := Tryz.zeroValue89
  t105 := Tryz.underlying127
  a105 := Tryz.isAgg127
  z105 := Tryz.sizeOf127
  v105 := Tryz.zeroValue127
  t119 := Tryz.underlying108
  a119 := Tryz.isAgg108
  z119 := Tryz.sizeOf108
  t138 := Tryz.underlying158
  a138 := Tryz.isAgg158
  z138 := Tryz.sizeOf158
  v138 := Tryz.zeroValue158
  t139 := Tryz.underlying159
  a139 := Tryz.isAgg159
  z139 := Tryz.sizeOf159
  v139 := Tryz.zeroValue159
  g3 := by kernel_rfl
  g4 := by kernel_rfl }
open Go.RowKit Go.Lib in
theorem Tryz.utf8_DecodeRuneInString_ascii (s : ByteArray) (x : UInt8) (w : World) (h0 : s.data.toList[0]? = some x) (hx : x.toNat < 128) :
    Calls Tryz.prog 92 #[.string s] w fun e w' => e = .returned (.tuple #[.int .i32 x.toNat, .int .i64 1]) ∧ w' = w := Any.utf8_DecodeRuneInString_ascii Tryz.lays197 s x w h0 hx
def Tryz.lays260_ren : Go.Shelf.Ren := ⟨fun | 260 => 104 | n => n, fun | 9 => 9 | 21 => 21 | 3 => 3 | 4 => 4 | 5 => 5 | 119 => 108 | 0 => 0 | 46 => 89 | 139 => 159 | 138 => 158 | n => n, fun | 3 => 5 | 4 => 6 | n => n⟩
theorem Tryz.lays260 : Go.Proofs.Lays.n260 Tryz.prog Tryz.lays260_ren := {
  mixed := by kernel_rfl
  f260 := Tryz.func104.trans (congrArg some (by kernel_rfl))
  t0 := Tryz.underlying0
  a0 := Tryz.isAgg0
  z0 := Tryz.sizeOf0
  v0 := Tryz.zeroValue0
  t3 := Tryz.underlying3
  a3 := Tryz.isAgg3
  z3 := Tryz.sizeOf3
  v3 := Tryz.zeroValue3
  t4 := Tryz.underlying4
  a4 := Tryz.isAgg4
  z4 := Tryz.sizeOf4
  v4 := Tryz.zeroValue4
  t5 := Tryz.underlying5
  a5 := Tryz.isAgg5
  z5 := Tryz.sizeOf5
  v5 := Tryz.zeroValue5
  t9 := Tryz.underlying9
  a9 := Tryz.isAgg9
  z9 := Tryz.sizeOf9
  v9 := Tryz.zeroValue9
  t21 := Tryz.underlying21
  a21 := Tryz.isAgg21
  z21 := Tryz.sizeOf21
  v21 := Tryz.zeroValue21
  t46 := Tryz.underlying89
  a46 := Tryz.isAgg89
  z46 := Tryz.sizeOf89
  v46 := Tryz.zeroValue89
  t119 := Tryz.underlying108
  a119 := Tryz.isAgg108
  z119 := Tryz.sizeOf108
  t138 := Tryz.underlying158
  a138 := Tryz.isAgg158
  z138 := Tryz.sizeOf158
  v138 := Tryz.zeroValue158
  t139 := Tryz.underlying159
  a139 := Tryz.isAgg159
  z139 := Tryz.sizeOf159
  v139 := Tryz.zeroValue159
  g3 := by kernel_rfl
  g4 := by kernel_rfl }
open Go.RowKit Go.Lib in
theorem Tryz.utf8_decodeRuneInStringSlow (s : ByteArray) (w : World) (hT : Lib.Utf8Tabs 5 6 w) :
    Calls Tryz.prog 104 #[.string s] w fun e w' => e = .returned (.tuple #[.int .i32 (Lib.decodeGo s).1, .int .i64 (Lib.decodeGo s).2]) ∧ Below w.heap.size w w' := Any.utf8_decodeRuneInStringSlow Tryz.lays260 s w hT
open Go.RowKit Go.Lib in
theorem Tryz.utf8_DecodeRuneInString (s : ByteArray) (w : World) (hT : Lib.Utf8Tabs 5 6 w) :
    Calls Tryz.prog 92 #[.string s] w fun e w' => e = .returned (.tuple #[.int .i32 (Lib.decodeGo s).1, .int .i64 (Lib.decodeGo s).2]) ∧ Below w.heap.size w w' := Any.utf8_DecodeRuneInString Tryz.lays197 s w hT
def Tryz.lays311_ren : Go.Shelf.Ren := ⟨fun | 311 => 101 | n => n, fun | 193 => 139 | 49 => 143 | 4 => 4 | 3 => 3 | 0 => 0 | 226 => 154 | 198 => 145 | 46 => 89 | n => n, fun | n => n⟩
theorem Tryz.lays311 : Go.Proofs.Lays.n311 Tryz.prog Tryz.lays311_ren := {
  mixed := by kernel_rfl
  f311 := Tryz.func101.trans (congrArg some (by kernel_rfl))
  t0 := Tryz.underlying0
  a0 := Tryz.isAgg0
  z0 := Tryz.sizeOf0
  v0 := Tryz.zeroValue0
  t3 := Tryz.underlying3
  a3 := Tryz.isAgg3
  z3 := Tryz.sizeOf3
  v3 := Tryz.zeroValue3
  t4 := Tryz.underlying4
  a4 := Tryz.isAgg4
  z4 := Tryz.sizeOf4
  v4 := Tryz.zeroValue4
  t46 := Tryz.underlying89
  a46 := Tryz.isAgg89
  z46 := Tryz.sizeOf89
  v46 := Tryz.zeroValue89
  t49 := Tryz.underlying143
  a49 := Tryz.isAgg143
  z49 := Tryz.sizeOf143
  v49 := Tryz.zeroValue143
  t193 := Tryz.underlying139
  a193 := Tryz.isAgg139
  z193 := Tryz.sizeOf139
  v193 := Tryz.zeroValue139
  t198 := Tryz.underlying145
  a198 := Tryz.isAgg145
  z198 := Tryz.sizeOf145
  v198 := Tryz.zeroValue145
  t226 := Tryz.underlying154
  a226 := Tryz.isAgg154
  z226 := Tryz.sizeOf154
  v226 := Tryz.zeroValue154 }
open Go.RowKit Go.Lib in
theorem Tryz.unicode_is16_white (R oR : Nat) (z : Nat) (w : World) (hz : z < 65536) (hz0 : 255 < z) (c6 : w.cell? ⟨R, oR + 6, none⟩ = some (.int .u16 160)) (c7 : w.cell? ⟨R, oR + 7, none⟩ = some (.int .u16 5760)) (c8 : w.cell? ⟨R, oR + 8, none⟩ = some (.int .u16 5600)) (c9 : w.cell? ⟨R, oR + 9, none⟩ = some (.int .u16 8192)) (c10 : w.cell? ⟨R, oR + 10, none⟩ = some (.int .u16 8202)) (c11 : w.cell? ⟨R, oR + 11, none⟩ = some (.int .u16 1)) (c12 : w.cell? ⟨R, oR + 12, none⟩ = some (.int .u16 8232)) (c13 : w.cell? ⟨R, oR + 13, none⟩ = some (.int .u16 8233)) (c14 : w.cell? ⟨R, oR + 14, none⟩ = some (.int .u16 1)) (c15 : w.cell? ⟨R, oR + 15, none⟩ = some (.int .u16 8239)) (c16 : w.cell? ⟨R, oR + 16, none⟩ = some (.int .u16 8287)) (c17 : w.cell? ⟨R, oR + 17, none⟩ = some (.int .u16 48)) (c18 : w.cell? ⟨R, oR + 18, none⟩ = some (.int .u16 12288)) (c19 : w.cell? ⟨R, oR + 19, none⟩ = some (.int .u16 12288)) (c20 : w.cell? ⟨R, oR + 20, none⟩ = some (.int .u16 1)) :
    Calls Tryz.prog 101 #[.slice (some ⟨R, oR + 6, none⟩) 5 5, .int .u16 z] w fun e w' => e = .returned (.bool (Lib.isSpaceR z)) ∧ Below w.heap.size w w' := Any.unicode_is16_white Tryz.lays311 R oR z w hz hz0 c6 c7 c8 c9 c10 c11 c12 c13 c14 c15 c16 c17 c18 c19 c20
def Tryz.lays261_ren : Go.Shelf.Ren := ⟨fun | 261 => 90 | 311 => 101 | 312 => 102 | n => n, fun | 141 => 125 | 21 => 21 | 4 => 4 | 0 => 0 | 196 => 142 | 193 => 139 | 3 => 3 | 51 => 76 | 198 => 145 | 49 => 143 | 194 => 140 | 201 => 148 | 226 => 154 | 46 => 89 | 227 => 155 | n => n, fun | n => n⟩
theorem Tryz.lays261 : Go.Proofs.Lays.n261 Tryz.prog Tryz.lays261_ren := {
  mixed := by kernel_rfl
  f261 := Tryz.func90.trans (congrArg some (by kernel_rfl))
  f311 := Tryz.func101.trans (congrArg some (by kernel_rfl))
  f312 := Tryz.func102.trans (congrArg some (by kernel_rfl))
  t0 := Tryz.underlying0
  a0 := Tryz.isAgg0
  z0 := Tryz.sizeOf0
  v0 := Tryz.zeroValue0
  t3 := Tryz.underlying3
  a3 := Tryz.isAgg3
  z3 := Tryz.sizeOf3
  v3 := Tryz.zeroValue3
  t4 := Tryz.underlying4
  a4 := Tryz.isAgg4
  z4 := Tryz.sizeOf4
  v4 := Tryz.zeroValue4
  t21 := Tryz.underlying21
  a21 := Tryz.isAgg21
  z21 := Tryz.sizeOf21
  v21 := Tryz.zeroValue21
  t46 := Tryz.underlying89
  a46 := Tryz.isAgg89
  z46 := Tryz.sizeOf89
  v46 := Tryz.zeroValue89
  t49 := Tryz.underlying143
  a49 := Tryz.isAgg143
  z49 := Tryz.sizeOf143
  v49 := Tryz.zeroValue143
  t51 := Tryz.underlying76
  a51 := Tryz.isAgg76
  z51 := Tryz.sizeOf76
  v51 := Tryz.zeroValue76
  t141 := Tryz.underlying125
  a141 := Tryz.isAgg125
  z141 := Tryz.sizeOf125
  v141 := Tryz.zeroValue125
  t193 := Tryz.underlying139
  a193 := Tryz.isAgg139
  z193 := Tryz.sizeOf139
  v193 := Tryz.zeroValue139
  t194 := Tryz.underlying140
  a194 := Tryz.isAgg140
  z194 := Tryz.sizeOf140
  v194 := Tryz.zeroValue140
  t196 := Tryz.underlying142
  a196 := Tryz.isAgg142
  z196 := Tryz.sizeOf142
  v196 := Tryz.zeroValue142
  t198 := Tryz.underlying145
  a198 := Tryz.isAgg145
  z198 := Tryz.sizeOf145
  v198 := Tryz.zeroValue145
  t201 := Tryz.underlying148
  a201 := Tryz.isAgg148
  z201 := Tryz.sizeOf148
  v201 := Tryz.zeroValue148
  t226 := Tryz.underlying154
  a226 := Tryz.isAgg154
  z226 := Tryz.sizeOf154
  v226 := Tryz.zeroValue154
  t227 := Tryz.underlying155
  a227 := Tryz.isAgg155
  z227 := Tryz.sizeOf155
  v227 := Tryz.zeroValue155 }
open Go.RowKit Go.Lib in
theorem Tryz.unicode_isExcludingLatin_white (T oT R oR : Nat) (r : Int) (w : World) (hlo : -2147483648 ≤ r) (hhi : r ≤ 2147483647) (hr : r < 0 ∨ 255 < r) (h2 : w.cell? ⟨T, oT, none⟩ = some (.slice (some ⟨R, oR, none⟩) 7 7)) (h3 : w.cell? ⟨T, oT + 1, none⟩ = some (.slice none 0 0)) (h4 : w.cell? ⟨T, oT + 2, none⟩ = some (.int .i64 2)) (h5 : ∀ i, i < 21 → w.cell? ⟨R, oR + i, none⟩ = some (.int .u16 (whiteT.getD i 0))) :
    Calls Tryz.prog 90 #[.pointer (some ⟨T, oT, none⟩), .int .i32 r] w fun e w' => e = .returned (.bool (Lib.isSpaceZ r)) ∧ Below w.heap.size w w' := Any.unicode_isExcludingLatin_white Tryz.lays261 T oT R oR r w hlo hhi hr h2 h3 h4 h5
open Go.RowKit Go.Lib in
theorem Tryz.unicode_IsSpace_any (r : Int) (w : World) (hlo : -2147483648 ≤ r) (hhi : r ≤ 2147483647) (hW : Lib.WhiteTab 2 w) :
    Calls Tryz.prog 71 #[.int .i32 r] w fun e w' => e = .returned (.bool (Lib.isSpaceZ r)) ∧ Below w.heap.size w w' := Any.unicode_IsSpace_any Tryz.lays199 r w hlo hhi hW
def Tryz.lays271_ren : Go.Shelf.Ren := ⟨fun | 271 => 103 | 120 => 108 | 197 => 92 | 260 => 104 | n => n, fun | 9 => 9 | 21 => 21 | 3 => 3 | 4 => 4 | 5 => 5 | 105 => 127 | 119 => 108 | 0 => 0 | 46 => 89 | 139 => 159 | 138 => 158 | n => n, fun | 3 => 5 | 4 => 6 | n => n⟩
theorem Tryz.lays271 : Go.Proofs.Lays.n271 Tryz.prog Tryz.lays271_ren := {
  mixed := by kernel_rfl
  f120 := Tryz.func108.trans (congrArg some (by kernel_rfl))
  f197 := Tryz.func92.trans (congrArg some (by kernel_rfl))
  f260 := Tryz.func104.trans (congrArg some (by kernel_rfl))
  f271 := Tryz.func103.trans (congrArg some (by kernel_rfl))
  t0 := Tryz.underlying0
  a0 := Tryz.isAgg0
  z0 := Tryz.sizeOf0
  v0 := Tryz.zeroValue0
  t3 := Tryz.underlying3
  a3 := Tryz.isAgg3
  z3 := Tryz.sizeOf3
  v3 := Tryz.zeroValue3
  t4 := Tryz.underlying4
  a4 := Tryz.isAgg4
  z4 := Tryz.sizeOf4
  v4 := Tryz.zeroValue4
  t5 := Tryz.underlying5
  a5 := Tryz.isAgg5
  z5 := Tryz.sizeOf5
  v5 := Tryz.zeroValue5
  t9 := Tryz.underlying9
  a9 := Tryz.isAgg9
  z9 := Tryz.sizeOf9
  v9 := Tryz.zeroValue9
  t21 := Tryz.underlying21
  a21 := Tryz.isAgg21
  z21 := Tryz.sizeOf21
  v21 := Tryz.zeroValue21
  t46 := Tryz.underlying89
  a46 := Tryz.isAgg89
  z46 := Tryz.sizeOf89
  v46 := Tryz.zeroValue89
  t105 := Tryz.underlying127
  a105 := Tryz.isAgg127
  z105 := Tryz.sizeOf127
  v105 := Tryz.zeroValue127
  t119 := Tryz.underlying108
  a119 := Tryz.isAgg108
  z119 := Tryz.sizeOf108
  t138 := Tryz.underlying158
  a138 := Tryz.isAgg158
  z138 := Tryz.sizeOf158
  v138 := Tryz.zeroValue158
  t139 := Tryz.underlying159
  a139 := Tryz.isAgg159
  z139 := Tryz.sizeOf159
  v139 := Tryz.zeroValue159
  g3 := by kernel_rfl
  g4 := by kernel_rfl }
open Go.RowKit Go.Lib in
theorem Tryz.utf8_DecodeLastRuneInString (s : ByteArray) (w : World) (hs : s.size ≤ 9223372036854775807) (hT : Lib.Utf8Tabs 5 6 w) :
    Calls Tryz.prog 103 #[.string s] w fun e w' => e = .returned (.tuple #[.int .i32 (Lib.decodeLastL s.data.toList).1, .int .i64 (Lib.decodeLastL s.data.toList).2]) ∧ Below w.heap.size w w' := Any.utf8_DecodeLastRuneInString Tryz.lays271 s w hs hT
open Go.RowKit in
theorem Tryz.strings_TrimSpace_any (s : ByteArray) (w : World) (hs : s.size ≤ 9223372036854775807) (htab : Lib.TabIs Tryz.prog w "strings.asciiSpace" .u8 Lib.asciiSpaceTab) (hU8 : Lib.Utf8Tabs 5 6 w) (hWS : Lib.WhiteTab 2 w) :
    Calls Tryz.prog 54 #[.string s] w fun e w' => e = .returned (.string ⟨(Lib.trimSpaceD s.data.toList).toArray⟩) ∧ Below w.heap.size w w' := Any.strings_TrimSpace_any Tryz.lays163 Tryz.Space_Extra_163 s w hs htab hU8 hWS
open Go.RowKit Go.Lib in
theorem Tryz.unicode_is16_white_d (R oR : Nat) (z : Nat) (w : World) (hz : z < 65536) (hz0 : 255 < z) (c6 : w.cell? ⟨R, oR + 6, none⟩ = some (.int .u16 160)) (c7 : w.cell? ⟨R, oR + 7, none⟩ = some (.int .u16 5760)) (c8 : w.cell? ⟨R, oR + 8, none⟩ = some (.int .u16 5600)) (c9 : w.cell? ⟨R, oR + 9, none⟩ = some (.int .u16 8192)) (c10 : w.cell? ⟨R, oR + 10, none⟩ = some (.int .u16 8202)) (c11 : w.cell? ⟨R, oR + 11, none⟩ = some (.int .u16 1)) (c12 : w.cell? ⟨R, oR + 12, none⟩ = some (.int .u16 8232)) (c13 : w.cell? ⟨R, oR + 13, none⟩ = some (.int .u16 8233)) (c14 : w.cell? ⟨R, oR + 14, none⟩ = some (.int .u16 1)) (c15 : w.cell? ⟨R, oR + 15, none⟩ = some (.int .u16 8239)) (c16 : w.cell? ⟨R, oR + 16, none⟩ = some (.int .u16 8287)) (c17 : w.cell? ⟨R, oR + 17, none⟩ = some (.int .u16 48)) (c18 : w.cell? ⟨R, oR + 18, none⟩ = some (.int .u16 12288)) (c19 : w.cell? ⟨R, oR + 19, none⟩ = some (.int .u16 12288)) (c20 : w.cell? ⟨R, oR + 20, none⟩ = some (.int .u16 1)) :
    Calls Tryz.prog 101 #[.slice (some ⟨R, oR + 6, none⟩) 5 5, .int .u16 z] w fun e w' => e = .returned (.bool (Lib.isSpaceR z)) ∧ ∃ q, w' = w.drewN q := Any.unicode_is16_white_d Tryz.lays311 R oR z w hz hz0 c6 c7 c8 c9 c10 c11 c12 c13 c14 c15 c16 c17 c18 c19 c20
open Go.RowKit Go.Lib in
theorem Tryz.unicode_isExcludingLatin_white_d (T oT R oR : Nat) (r : Int) (w : World) (hlo : -2147483648 ≤ r) (hhi : r ≤ 2147483647) (hr : r < 0 ∨ 255 < r) (h2 : w.cell? ⟨T, oT, none⟩ = some (.slice (some ⟨R, oR, none⟩) 7 7)) (h3 : w.cell? ⟨T, oT + 1, none⟩ = some (.slice none 0 0)) (h4 : w.cell? ⟨T, oT + 2, none⟩ = some (.int .i64 2)) (h5 : ∀ i, i < 21 → w.cell? ⟨R, oR + i, none⟩ = some (.int .u16 (whiteT.getD i 0))) :
    Calls Tryz.prog 90 #[.pointer (some ⟨T, oT, none⟩), .int .i32 r] w fun e w' => e = .returned (.bool (Lib.isSpaceZ r)) ∧ ∃ q, w' = w.drewN q := Any.unicode_isExcludingLatin_white_d Tryz.lays261 T oT R oR r w hlo hhi hr h2 h3 h4 h5
open Go.RowKit Go.Lib in
theorem Tryz.unicode_IsSpace_any_d (r : Int) (w : World) (hlo : -2147483648 ≤ r) (hhi : r ≤ 2147483647) (hW : Lib.WhiteTab 2 w) :
    Calls Tryz.prog 71 #[.int .i32 r] w fun e w' => e = .returned (.bool (Lib.isSpaceZ r)) ∧ ∃ q, w' = w.drewN q := Any.unicode_IsSpace_any_d Tryz.lays199 r w hlo hhi hW
open Go.RowKit Go.Lib in
theorem Tryz.unicode_is16_any (T : Array Rg) (R oR cap : Nat) (z : Nat) (w : World) (hz : z < 65536) (hT : RgTab .u16 R oR T w) (hok : RgOk 65536 T) (hn : T.size ≤ 1000000000) :
    Calls Tryz.prog 101 #[.slice (some ⟨R, oR, none⟩) T.size cap, .int .u16 z] w fun e w' => e = .returned (.bool (is16Go T z)) ∧ ∃ q, w' = w.drewN q := Any.unicode_is16_any Tryz.lays311 T R oR cap z w hz hT hok hn
def Tryz.lays312_ren : Go.Shelf.Ren := ⟨fun | 312 => 102 | n => n, fun | 194 => 140 | 51 => 76 | 4 => 4 | 3 => 3 | 0 => 0 | 227 => 155 | 201 => 148 | 46 => 89 | n => n, fun | n => n⟩
theorem Tryz.lays312 : Go.Proofs.Lays.n312 Tryz.prog Tryz.lays312_ren := {
  mixed := by kernel_rfl
  f312 := Tryz.func102.trans (congrArg some (by kernel_rfl))
  t0 := Tryz.underlying0
  a0 := Tryz.isAgg0
  z0 := Tryz.sizeOf0
  v0 := Tryz.zeroValue0
  t3 := Tryz.underlying3
  a3 := Tryz.isAgg3
  z3 := Tryz.sizeOf3
  v3 := Tryz.zeroValue3
  t4 := Tryz.underlying4
  a4 := Tryz.isAgg4
  z4 := Tryz.sizeOf4
  v4 := Tryz.zeroValue4
  t46 := Tryz.underlying89
  a46 := Tryz.isAgg89
  z46 := Tryz.sizeOf89
  v46 := Tryz.zeroValue89
  t51 := Tryz.underlying76
  a51 := Tryz.isAgg76
  z51 := Tryz.sizeOf76
  v51 := Tryz.zeroValue76
  t194 := Tryz.underlying140
  a194 := Tryz.isAgg140
  z194 := Tryz.sizeOf140
  v194 := Tryz.zeroValue140
  t201 := Tryz.underlying148
  a201 := Tryz.isAgg148
  z201 := Tryz.sizeOf148
  v201 := Tryz.zeroValue148
  t227 := Tryz.underlying155
  a227 := Tryz.isAgg155
  z227 := Tryz.sizeOf155
  v227 := Tryz.zeroValue155 }
open Go.RowKit Go.Lib in
theorem Tryz.unicode_is32_any (T : Array Rg) (R oR cap : Nat) (z : Nat) (w : World) (hz : z < 4294967296) (hT : RgTab .u32 R oR T w) (hok : RgOk 4294967296 T) (hn : T.size ≤ 1000000000) :
    Calls Tryz.prog 102 #[.slice (some ⟨R, oR, none⟩) T.size cap, .int .u32 z] w fun e w' => e = .returned (.bool (is32Go T z)) ∧ Below w.heap.size w w' := Any.unicode_is32_any Tryz.lays312 T R oR cap z w hz hT hok hn
open Go.RowKit Go.Lib in
theorem Tryz.unicode_isExcludingLatin_any (Tb oT : Nat) (T : RTab) (r : Int) (w : World) (hlo : -2147483648 ≤ r) (hhi : r ≤ 2147483647) (hA : RTabAt Tb oT T w) (hok : RTabOk T) :
    Calls Tryz.prog 90 #[.pointer (some ⟨Tb, oT, none⟩), .int .i32 r] w fun e w' => e = .returned (.bool (exclGo T r)) ∧ Below w.heap.size w w' := Any.unicode_isExcludingLatin_any Tryz.lays261 Tb oT T r w hlo hhi hA hok
open Go.RowKit Go.Lib in
theorem Tryz.strings_indexFunc_grows (g : Nat) (lb : Array Value) (eg : ∀ args w, (callFunc g args).run Tryz.prog w = .ok (.enter g args) w) (p : Nat → Bool) (truth : Bool) (s : ByteArray) (w : World) (hp : PredGrows Tryz.prog g lb p w) :
    Calls Tryz.prog 100 #[.string s, .func (.func g) #[] lb, .bool truth] w fun e w' => e = .returned (.int .i64 (Lib.idxFunc p truth s)) ∧ Below w.heap.size w w' := Any.strings_indexFunc_grows Tryz.lays315 g lb eg p truth s w hp
open Go.RowKit Go.Lib in
theorem Tryz.strings_lastIndexFunc_grows (g : Nat) (lb : Array Value) (eg : ∀ args w, (callFunc g args).run Tryz.prog w = .ok (.enter g args) w) (p : Nat → Bool) (truth : Bool) (s : ByteArray) (w : World) (hs : s.size ≤ 9223372036854775807) (hT : Lib.Utf8Tabs 5 6 w) (hp : PredGrows Tryz.prog g lb p w) :
    Calls Tryz.prog 91 #[.string s, .func (.func g) #[] lb, .bool truth] w fun e w' => e = .returned (.int .i64 (Lib.lastIdxFunc p truth s)) ∧ Below w.heap.size w w' := Any.strings_lastIndexFunc_grows Tryz.lays273 g lb eg p truth s w hs hT hp
open Go.RowKit Go.Lib in
theorem Tryz.strings_TrimLeftFunc_grows (g : Nat) (lb : Array Value) (eg : ∀ args w, (callFunc g args).run Tryz.prog w = .ok (.enter g args) w) (p : Nat → Bool) (s : ByteArray) (w : World) (hp : PredGrows Tryz.prog g lb p w) :
    Calls Tryz.prog 89 #[.string s, .func (.func g) #[] lb] w fun e w' => e = .returned (.string (Lib.trimLeftF p s)) ∧ Below w.heap.size w w' := Any.strings_TrimLeftFunc_grows Tryz.lays272 g lb eg p s w hp
open Go.RowKit Go.Lib in
theorem Tryz.strings_TrimRightFunc_grows (g : Nat) (lb : Array Value) (eg : ∀ args w, (callFunc g args).run Tryz.prog w = .ok (.enter g args) w) (p : Nat → Bool) (s : ByteArray) (w : World) (hs : s.size ≤ 9223372036854775807) (hT : Lib.Utf8Tabs 5 6 w) (hp : PredGrows Tryz.prog g lb p w) :
    Calls Tryz.prog 72 #[.string s, .func (.func g) #[] lb] w fun e w' => e = .returned (.string (Lib.trimRightF p s)) ∧ Below w.heap.size w w' := Any.strings_TrimRightFunc_grows Tryz.lays238 g lb eg p s w hs hT hp
open Go.RowKit Go.Lib in
theorem Tryz.strings_TrimFunc_grows (g : Nat) (lb : Array Value) (eg : ∀ args w, (callFunc g args).run Tryz.prog w = .ok (.enter g args) w) (p : Nat → Bool) (s : ByteArray) (w : World) (hs : s.size ≤ 9223372036854775807) (hT : Lib.Utf8Tabs 5 6 w) (hp : PredGrows Tryz.prog g lb p w) :
    Calls Tryz.prog 70 #[.string s, .func (.func g) #[] lb] w fun e w' => e = .returned (.string (Lib.trimF p s)) ∧ Below w.heap.size w w' := Any.strings_TrimFunc_grows Tryz.lays237 g lb eg p s w hs hT hp
def Tryz.laysNm237_ren : Go.Shelf.Ren := ⟨fun | 37 => 99 | n => n, fun | 3 => 3 | 4 => 4 | n => n, fun | n => n⟩
theorem Tryz.laysNm237 : Go.Proofs.Lays2.n37 Tryz.prog Tryz.laysNm237_ren := {
  mixed := by kernel_rfl
  f37 := Tryz.func99.trans (congrArg some (by kernel_rfl))
  t3 := Tryz.underlying3
  a3 := Tryz.isAgg3
  z3 := Tryz.sizeOf3
  v3 := Tryz.zeroValue3
  t4 := Tryz.underlying4
  a4 := Tryz.isAgg4
  z4 := Tryz.sizeOf4
  v4 := Tryz.zeroValue4 }
open Go.RowKit Go.Lib in
theorem Tryz.cmp_isNaN_int2 (x : Int) (w : World) :
    Calls Tryz.prog 99 #[.int .i64 x] w fun e w' => e = .returned (.bool false) ∧ w' = w := Any.cmp_isNaN_int2 Tryz.laysNm237 x w
def Tryz.laysNm231_ren : Go.Shelf.Ren := ⟨fun | 31 => 83 | 37 => 99 | n => n, fun | 3 => 3 | 4 => 4 | n => n, fun | n => n⟩
theorem Tryz.laysNm231 : Go.Proofs.Lays2.n31 Tryz.prog Tryz.laysNm231_ren := {
  mixed := by kernel_rfl
  f31 := Tryz.func83.trans (congrArg some (by kernel_rfl))
  f37 := Tryz.func99.trans (congrArg some (by kernel_rfl))
  t3 := Tryz.underlying3
  a3 := Tryz.isAgg3
  z3 := Tryz.sizeOf3
  v3 := Tryz.zeroValue3
  t4 := Tryz.underlying4
  a4 := Tryz.isAgg4
  z4 := Tryz.sizeOf4
  v4 := Tryz.zeroValue4 }
open Go.RowKit Go.Lib in
theorem Tryz.cmp_Less_int2 (x y : Int) (w : World) :
    Calls Tryz.prog 83 #[.int .i64 x, .int .i64 y] w fun e w' => e = .returned (.bool (decide (x < y))) ∧ w' = w := Any.cmp_Less_int2 Tryz.laysNm231 x y w
open Go.RowKit Go.Sort in
theorem Tryz.slices_Sort_int_none (p : Option Addr) (cap : Nat) (w : World) :
    Calls Tryz.prog 45 #[.slice p 0 cap] w fun e w' => e = .returned (.tuple #[]) ∧ w' = w := Any.slices_Sort_int_none Tryz.lays189 p cap w
open Go.RowKit Go.Sort in
theorem Tryz.sort_Ints_none (p : Option Addr) (cap : Nat) (w : World) :
    Calls Tryz.prog 32 #[.slice p 0 cap] w fun e w' => e = .returned (.tuple #[]) ∧ w' = w := Any.sort_Ints_none Tryz.lays191 p cap w
def Tryz.lays115_ren : Go.Shelf.Ren := ⟨fun | 115 => 39 | n => n, fun | 37 => 49 | 4 => 4 | 9 => 9 | 5 => 5 | n => n, fun | n => n⟩
theorem Tryz.lays115 : Go.Proofs.Lays.n115 Tryz.prog Tryz.lays115_ren := {
  mixed := by kernel_rfl
  f115 := Tryz.func39.trans (congrArg some (by kernel_rfl))
  t4 := Tryz.underlying4
  a4 := Tryz.isAgg4
  z4 := Tryz.sizeOf4
  v4 := Tryz.zeroValue4
  t9 := Tryz.underlying9
  a9 := Tryz.isAgg9
  z9 := Tryz.sizeOf9
  v9 := Tryz.zeroValue9
  t37 := Tryz.underlying49
  a37 := Tryz.isAgg49
  z37 := Tryz.sizeOf49
  v37 := Tryz.zeroValue49 }
open Go.Proofs Go.RowKit Go.Lib in
theorem Tryz.bytes_Equal_strs (v1 v2 : Value) (t1 t2 : ByteArray) (w : World) (h1 : (convert 49 9 v1).run Tryz.prog w = .ok (.string t1) w) (h2 : (convert 49 9 v2).run Tryz.prog w = .ok (.string t2) w) :
    Calls Tryz.prog 39 #[v1, v2] w fun e w' => e = .returned (.bool (t1.toList == t2.toList)) ∧ w' = w := Any.bytes_Equal_strs Tryz.lays115 v1 v2 t1 t2 w h1 h2
def Tryz.laysnb116_ren : Go.Shelf.Ren := ⟨fun | 116 => 29 | 115 => 39 | n => n, fun | 37 => 49 | 4 => 4 | 3 => 3 | 9 => 9 | 5 => 5 | n => n, fun | n => n⟩
theorem Tryz.laysnb116 : Go.Proofs.Lays.nb116 Tryz.prog Tryz.laysnb116_ren := {
  mixed := by kernel_rfl
  f115 := Tryz.func39.trans (congrArg some (by kernel_rfl))
  f116 := Tryz.func29.trans (congrArg some (by kernel_rfl))
  t3 := Tryz.underlying3
  a3 := Tryz.isAgg3
  z3 := Tryz.sizeOf3
  v3 := Tryz.zeroValue3
  t4 := Tryz.underlying4
  a4 := Tryz.isAgg4
  z4 := Tryz.sizeOf4
  v4 := Tryz.zeroValue4
  t9 := Tryz.underlying9
  a9 := Tryz.isAgg9
  z9 := Tryz.sizeOf9
  v9 := Tryz.zeroValue9
  t37 := Tryz.underlying49
  a37 := Tryz.isAgg49
  z37 := Tryz.sizeOf49
  v37 := Tryz.zeroValue49
  t5 := Tryz.underlying5
  a5 := Tryz.isAgg5
  z5 := Tryz.sizeOf5
  v5 := Tryz.zeroValue5 }
theorem Tryz.bytes_HasPrefix_e2 (p1 p2 : Option Addr) (n c d : Nat) (w : World) :
    Calls Tryz.prog 29 #[.slice p1 n c, .slice p2 0 d] w fun e w' => e = .returned (.bool true) ∧ w' = w := Any.bytes_HasPrefix_e2 Tryz.laysnb116 p1 p2 n c d w
theorem Tryz.bytes_HasPrefix_e1 (p1 p2 : Option Addr) (c m d : Nat) (hm : 0 < m) (w : World) :
    Calls Tryz.prog 29 #[.slice p1 0 c, .slice p2 m d] w fun e w' => e = .returned (.bool false) ∧ w' = w := Any.bytes_HasPrefix_e1 Tryz.laysnb116 p1 p2 c m d hm w
def Tryz.laysnb117_ren : Go.Shelf.Ren := ⟨fun | 117 => 44 | 115 => 39 | n => n, fun | 37 => 49 | 4 => 4 | 3 => 3 | 9 => 9 | 5 => 5 | n => n, fun | n => n⟩
theorem Tryz.laysnb117 : Go.Proofs.Lays.nb117 Tryz.prog Tryz.laysnb117_ren := {
  mixed := by kernel_rfl
  f115 := Tryz.func39.trans (congrArg some (by kernel_rfl))
  f117 := Tryz.func44.trans (congrArg some (by kernel_rfl))
  t3 := Tryz.underlying3
  a3 := Tryz.isAgg3
  z3 := Tryz.sizeOf3
  v3 := Tryz.zeroValue3
  t4 := Tryz.underlying4
  a4 := Tryz.isAgg4
  z4 := Tryz.sizeOf4
  v4 := Tryz.zeroValue4
  t9 := Tryz.underlying9
  a9 := Tryz.isAgg9
  z9 := Tryz.sizeOf9
  v9 := Tryz.zeroValue9
  t37 := Tryz.underlying49
  a37 := Tryz.isAgg49
  z37 := Tryz.sizeOf49
  v37 := Tryz.zeroValue49
  t5 := Tryz.underlying5
  a5 := Tryz.isAgg5
  z5 := Tryz.sizeOf5
  v5 := Tryz.zeroValue5 }
theorem Tryz.bytes_HasSuffix_e2 (p1 p2 : Option Addr) (n c d : Nat) (_hnc : n ≤ c) (hbig : n ≤ 9223372036854775807) (w : World) :
    Calls Tryz.prog 44 #[.slice p1 n c, .slice p2 0 d] w fun e w' => e = .returned (.bool true) ∧ w' = w := Any.bytes_HasSuffix_e2 Tryz.laysnb117 p1 p2 n c d _hnc hbig w
theorem Tryz.bytes_HasSuffix_e1 (p1 p2 : Option Addr) (c m d : Nat) (hm : 0 < m) (w : World) :
    Calls Tryz.prog 44 #[.slice p1 0 c, .slice p2 m d] w fun e w' => e = .returned (.bool false) ∧ w' = w := Any.bytes_HasSuffix_e1 Tryz.laysnb117 p1 p2 c m d hm w
theorem Tryz.bytes_HasPrefix_all (p1 p2 : Option Addr) (n c m d : Nat) (xs ys : List Int) (w : World) (hx : xs.length = n) (hy : ys.length = m) (hnc : n ≤ c) (h1 : Lib.BytesIn w p1 n xs) (h2 : Lib.BytesIn w p2 m ys) :
    Calls Tryz.prog 29 #[.slice p1 n c, .slice p2 m d] w fun e w' => e = .returned (.bool (Lib.hasPrefix (Lib.bytesOf xs) (Lib.bytesOf ys))) ∧ w' = w := Any.bytes_HasPrefix_all Tryz.laysnb116 p1 p2 n c m d xs ys w hx hy hnc h1 h2
theorem Tryz.bytes_HasSuffix_all (p1 p2 : Option Addr) (n c m d : Nat) (xs ys : List Int) (w : World) (hx : xs.length = n) (hy : ys.length = m) (hnc : n ≤ c) (hbig : n ≤ 9223372036854775807) (h1 : Lib.BytesIn w p1 n xs) (h2 : Lib.BytesIn w p2 m ys) :
    Calls Tryz.prog 44 #[.slice p1 n c, .slice p2 m d] w fun e w' => e = .returned (.bool (Lib.hasSuffix (Lib.bytesOf xs) (Lib.bytesOf ys))) ∧ w' = w := Any.bytes_HasSuffix_all Tryz.laysnb117 p1 p2 n c m d xs ys w hx hy hnc hbig h1 h2
def Tryz.laysnb115_ren : Go.Shelf.Ren := ⟨fun | 115 => 39 | n => n, fun | 37 => 49 | 4 => 4 | 9 => 9 | 5 => 5 | n => n, fun | n => n⟩
theorem Tryz.laysnb115 : Go.Proofs.Lays.nb115 Tryz.prog Tryz.laysnb115_ren := {
  mixed := by kernel_rfl
  f115 := Tryz.func39.trans (congrArg some (by kernel_rfl))
  t4 := Tryz.underlying4
  a4 := Tryz.isAgg4
  z4 := Tryz.sizeOf4
  v4 := Tryz.zeroValue4
  t9 := Tryz.underlying9
  a9 := Tryz.isAgg9
  z9 := Tryz.sizeOf9
  v9 := Tryz.zeroValue9
  t37 := Tryz.underlying49
  a37 := Tryz.isAgg49
  z37 := Tryz.sizeOf49
  v37 := Tryz.zeroValue49
  t5 := Tryz.underlying5
  a5 := Tryz.isAgg5
  z5 := Tryz.sizeOf5
  v5 := Tryz.zeroValue5 }
theorem Tryz.bytes_Equal_all (p1 p2 : Option Addr) (n c m d : Nat) (xs ys : List Int) (w : World) (hx : xs.length = n) (hy : ys.length = m) (h1 : Lib.BytesIn w p1 n xs) (h2 : Lib.BytesIn w p2 m ys) :
    Calls Tryz.prog 39 #[.slice p1 n c, .slice p2 m d] w fun e w' => e = .returned (.bool (Lib.bytesOf xs == Lib.bytesOf ys)) ∧ w' = w := Any.bytes_Equal_all Tryz.laysnb115 p1 p2 n c m d xs ys w hx hy h1 h2
theorem Tryz.bytes_Equal (v1 v2 : Value) (xs ys : List Int) (w : World) (h1 : (convert 49 9 v1).run Tryz.prog w = .ok (.string (strOfNums xs)) w) (h2 : (convert 49 9 v2).run Tryz.prog w = .ok (.string (strOfNums ys)) w) :
    Calls Tryz.prog 39 #[v1, v2] w fun e w' => e = .returned (.bool (Lib.bytesOf xs == Lib.bytesOf ys)) ∧ w' = w := Any.bytes_Equal Tryz.lays115 v1 v2 xs ys w h1 h2
theorem Tryz.bytes_HasPrefix (b1 o1 n c b2 o2 m d : Nat) (xs ys : List Int) (w : World) (hx : xs.length = n) (hy : ys.length = m) (hnc : n ≤ c) (hc1 : ∀ i, i < n → w.cell? ⟨b1, o1 + i, none⟩ = some (.int .u8 (xs.getD i 0))) (hc2 : ∀ i, i < m → w.cell? ⟨b2, o2 + i, none⟩ = some (.int .u8 (ys.getD i 0))) :
    Calls Tryz.prog 29 #[.slice (some ⟨b1, o1, none⟩) n c, .slice (some ⟨b2, o2, none⟩) m d] w fun e w' => e = .returned (.bool (Lib.hasPrefix (Lib.bytesOf xs) (Lib.bytesOf ys))) ∧ w' = w := Any.bytes_HasPrefix Tryz.laysnb116 b1 o1 n c b2 o2 m d xs ys w hx hy hnc hc1 hc2
theorem Tryz.bytes_HasSuffix (b1 o1 n c b2 o2 m d : Nat) (xs ys : List Int) (w : World) (hx : xs.length = n) (hy : ys.length = m) (hnc : n ≤ c) (hbig : n ≤ 9223372036854775807) (hc1 : ∀ i, i < n → w.cell? ⟨b1, o1 + i, none⟩ = some (.int .u8 (xs.getD i 0))) (hc2 : ∀ i, i < m → w.cell? ⟨b2, o2 + i, none⟩ = some (.int .u8 (ys.getD i 0))) :
    Calls Tryz.prog 44 #[.slice (some ⟨b1, o1, none⟩) n c, .slice (some ⟨b2, o2, none⟩) m d] w fun e w' => e = .returned (.bool (Lib.hasSuffix (Lib.bytesOf xs) (Lib.bytesOf ys))) ∧ w' = w := Any.bytes_HasSuffix Tryz.laysnb117 b1 o1 n c b2 o2 m d xs ys w hx hy hnc hbig hc1 hc2
end Go.Proofs
