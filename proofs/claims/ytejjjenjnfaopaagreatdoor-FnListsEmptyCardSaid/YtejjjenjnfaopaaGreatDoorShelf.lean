import Derived.Shelf.Strings.Builder1
import Derived.Shelf.Strings.Builder2
import Derived.Shelf.Strings.OnBuilder
import Derived.Shelf.Small.Utf8
import Derived.Shelf.Strings.BuilderF
import Derived.Shelf.Strings.BuilderK
import Derived.Shelf.Strings.BuilderRune
import Derived.Shelf.Utf8.AppendRune
import Derived.Shelf.Utf8.AppendRunePlain
import Derived.Shelf.Utf8.RuneCount
import Derived.Shelf.Strings.Builder2Cap
import Derived.Shelf.Strings.Prefix
import Derived.Shelf.Unicode.Latin
import Derived.Shelf.Unicode.Props
import Derived.Shelf.LaysM
import Derived.Shelf.Unicode.PropsLaid
import Derived.Shelf.Unicode.Decode
import Derived.Shelf.Strings.RuneCount
import Derived.Shelf.Bits.Mul64
import Derived.Shelf.Strings.Repeat
import Derived.Shelf.Unicode.DecodeSlow
import Derived.Shelf.Unicode.DecodeAny
import Derived.Shelf.Unicode.Is16White
import Derived.Shelf.Unicode.IsSpaceAny
import Derived.Shelf.Unicode.Is16WhiteD
import Derived.Shelf.Unicode.IsSpaceAnyD
import Derived.Shelf.Unicode.CaseLookup
import Derived.Shelf.Unicode.CaseConvert
import Derived.Shelf.Unicode.CaseTo
import Derived.Shelf.Unicode.CaseLaid
import Derived.Shelf.Strings.MapAny
import Derived.Shelf.Strings.CaseAny
import Derived.Shelf.Unicode.Is16Any
import Derived.Shelf.Unicode.Is32Any
import Derived.Shelf.Unicode.ExclAny
import Derived.Shelf.Unicode.PredsAny
import Derived.Shelf.Unicode.PredsPay
import Derived.Shelf.Strings.BuilderCap
import Derived.Shelf.Strings.MapGrows
import Derived.Test.YtejjjenjnfaopaaGreatDoorProg
namespace Go.Proofs
open Go.Shelf
def Tryz.lays170_ren : Go.Shelf.Ren := ⟨fun | 170 => 100 | n => n, fun | 70 => 84 | 3 => 3 | 0 => 0 | 72 => 86 | 37 => 75 | 5 => 5 | n => n, fun | n => n⟩
theorem Tryz.lays170 : Go.Proofs.Lays.n170 Tryz.prog Tryz.lays170_ren := {
  mixed := by kernel_rfl
  f170 := Tryz.func100.trans (congrArg some (by kernel_rfl))
  t0 := Tryz.underlying0
  a0 := Tryz.isAgg0
  z0 := Tryz.sizeOf0
  v0 := Tryz.zeroValue0
  t3 := Tryz.underlying3
  a3 := Tryz.isAgg3
  z3 := Tryz.sizeOf3
  v3 := Tryz.zeroValue3
  t37 := Tryz.underlying75
  a37 := Tryz.isAgg75
  z37 := Tryz.sizeOf75
  v37 := Tryz.zeroValue75
  t70 := Tryz.underlying84
  a70 := Tryz.isAgg84
  z70 := Tryz.sizeOf84
  v70 := Tryz.zeroValue84
  t72 := Tryz.underlying86
  a72 := Tryz.isAgg86
  z72 := Tryz.sizeOf86
  v72 := Tryz.zeroValue86 }
open Go.RowKit in
theorem Tryz.Builder_Len (B b : Nat) (bs : List Value) (w : World) (h : Lib.IsBuilder 86 5 B b bs w) :
    Calls Tryz.prog 100 #[.pointer (some ⟨b, 0, none⟩)] w fun e w' => e = .returned (.int .i64 bs.length) ∧ w' = w := Any.Builder_Len Tryz.lays170 B b bs w h
def Tryz.lays169_ren : Go.Shelf.Ren := ⟨fun | 169 => 92 | n => n, fun | 70 => 84 | 9 => 9 | 0 => 0 | 72 => 86 | 37 => 75 | 127 => 124 | 3 => 3 | 5 => 5 | n => n, fun | n => n⟩
theorem Tryz.lays169 : Go.Proofs.Lays.n169 Tryz.prog Tryz.lays169_ren := {
  mixed := by kernel_rfl
  f169 := Tryz.func92.trans (congrArg some (by kernel_rfl))
  t0 := Tryz.underlying0
  a0 := Tryz.isAgg0
  z0 := Tryz.sizeOf0
  v0 := Tryz.zeroValue0
  t3 := Tryz.underlying3
  a3 := Tryz.isAgg3
  z3 := Tryz.sizeOf3
  v3 := Tryz.zeroValue3
  t9 := Tryz.underlying9
  a9 := Tryz.isAgg9
  z9 := Tryz.sizeOf9
  v9 := Tryz.zeroValue9
  t37 := Tryz.underlying75
  a37 := Tryz.isAgg75
  z37 := Tryz.sizeOf75
  v37 := Tryz.zeroValue75
  t70 := Tryz.underlying84
  a70 := Tryz.isAgg84
  z70 := Tryz.sizeOf84
  v70 := Tryz.zeroValue84
  t72 := Tryz.underlying86
  a72 := Tryz.isAgg86
  z72 := Tryz.sizeOf86
  v72 := Tryz.zeroValue86
  t127 := Tryz.underlying124
  a127 := Tryz.isAgg124
  z127 := Tryz.sizeOf124
  v127 := Tryz.zeroValue124 }
theorem Tryz.Builder_Extra_169 : Builder.Extra Tryz.prog Tryz.lays169_ren := {
  sizeBuilder := by kernel_rfl
  liesBuilder := by kernel_rfl
  t5 := Tryz.underlying5
  a5 := Tryz.isAgg5
  z5 := Tryz.sizeOf5
  v5 := Tryz.zeroValue5
  infoByte := by kernel_rfl
  cellsByte := by kernel_rfl
  sizeByte := by kernel_rfl
  neB5 := by decide }
open Go.RowKit in
theorem Tryz.Builder_String (B b : Nat) (l : List UInt8) (w : World) (h : Lib.IsBuilder 86 5 B b (Lib.byteCells l) w) (h0 : l ≠ []) :
    Calls Tryz.prog 92 #[.pointer (some ⟨b, 0, none⟩)] w fun e w' => e = .returned (.string ⟨l.toArray⟩) ∧ Below B w w' := Any.Builder_String Tryz.lays169 Tryz.Builder_Extra_169 B b l w h h0
open Go.RowKit in
theorem Tryz.Builder_String_empty (B b : Nat) (w : World) (h : Lib.IsBuilder 86 5 B b [] w) (hBw : B ≤ w.heap.size) :
    Calls Tryz.prog 92 #[.pointer (some ⟨b, 0, none⟩)] w fun e w' => e = .returned (.string ⟨#[]⟩) ∧ Below B w w' := Any.Builder_String_empty Tryz.lays169 Tryz.Builder_Extra_169 B b w h hBw
open Go.RowKit in
theorem Tryz.Builder_String_any (B b : Nat) (l : List UInt8) (w : World) (h : Lib.IsBuilder 86 5 B b (Lib.byteCells l) w) (hBw : B ≤ w.heap.size) :
    Calls Tryz.prog 92 #[.pointer (some ⟨b, 0, none⟩)] w fun e w' => e = .returned (.string ⟨l.toArray⟩) ∧ Below B w w' := Any.Builder_String_any Tryz.lays169 Tryz.Builder_Extra_169 B b l w h hBw
def Tryz.lays241_ren : Go.Shelf.Ren := ⟨fun | 241 => 83 | 277 => 102 | n => n, fun | 70 => 84 | 3 => 3 | 0 => 0 | 72 => 86 | 37 => 75 | 5 => 5 | n => n, fun | n => n⟩
theorem Tryz.lays241 : Go.Proofs.Lays.n241 Tryz.prog Tryz.lays241_ren := {
  mixed := by kernel_rfl
  f241 := Tryz.func83.trans (congrArg some (by kernel_rfl))
  f277 := Tryz.func102.trans (congrArg some (by kernel_rfl))
  t0 := Tryz.underlying0
  a0 := Tryz.isAgg0
  z0 := Tryz.sizeOf0
  v0 := Tryz.zeroValue0
  t3 := Tryz.underlying3
  a3 := Tryz.isAgg3
  z3 := Tryz.sizeOf3
  v3 := Tryz.zeroValue3
  t37 := Tryz.underlying75
  a37 := Tryz.isAgg75
  z37 := Tryz.sizeOf75
  v37 := Tryz.zeroValue75
  t70 := Tryz.underlying84
  a70 := Tryz.isAgg84
  z70 := Tryz.sizeOf84
  v70 := Tryz.zeroValue84
  t72 := Tryz.underlying86
  a72 := Tryz.isAgg86
  z72 := Tryz.sizeOf86
  v72 := Tryz.zeroValue86 }
theorem Tryz.Builder_Extra_241 : Builder.Extra Tryz.prog Tryz.lays241_ren := {
  sizeBuilder := by kernel_rfl
  liesBuilder := by kernel_rfl
  t5 := Tryz.underlying5
  a5 := Tryz.isAgg5
  z5 := Tryz.sizeOf5
  v5 := Tryz.zeroValue5
  infoByte := by kernel_rfl
  cellsByte := by kernel_rfl
  sizeByte := by kernel_rfl
  neB5 := by decide }
open Go.RowKit in
theorem Tryz.Builder_grow_fresh (B b n : Nat) (w : World) (hB : B ≤ b) (hbk : w.heap[b]? = some (.cells #[.pointer (some ⟨b, 0, none⟩), .slice none 0 0] 86 (0, 0))) (hBw : B ≤ w.heap.size) (hn : n ≤ 281474976710656) :
    Calls Tryz.prog 83 #[.pointer (some ⟨b, 0, none⟩), .int .i64 n] w fun e w' => e = .returned (.tuple #[]) ∧ (Lib.BuilderAt 86 5 B b (.pointer (some ⟨b, 0, none⟩)) [] w' ∧ Below B w w') := Any.Builder_grow_fresh Tryz.lays241 Tryz.Builder_Extra_241 B b n w hB hbk hBw hn
def Tryz.lays165_ren : Go.Shelf.Ren := ⟨fun | 165 => 68 | 240 => 82 | 241 => 83 | 276 => 101 | 277 => 102 | n => n, fun | 70 => 84 | 3 => 3 | 0 => 0 | 4 => 4 | 9 => 9 | 20 => 20 | 72 => 86 | 37 => 75 | 164 => 118 | 5 => 5 | n => n, fun | n => n⟩
theorem Tryz.lays165 : Go.Proofs.Lays.n165 Tryz.prog Tryz.lays165_ren := {
  mixed := by kernel_rfl
  f165 := Tryz.func68.trans (congrArg some (by kernel_rfl))
  f240 := Tryz.func82.trans (congrArg some (by kernel_rfl))
  f241 := Tryz.func83.trans (congrArg some (by kernel_rfl))
  f276 := Tryz.func101.trans (congrArg some (by kernel_rfl))
  f277 := Tryz.func102.trans (congrArg some (by kernel_rfl))
  t0 := Tryz.underlying0
  a0 := Tryz.isAgg0
  z0 := Tryz.sizeOf0
  v0 := Tryz.zeroValue0
  t3 := Tryz.underlying3
  a3 := Tryz.isAgg3
  z3 := Tryz.sizeOf3
  v3 := Tryz.zeroValue3
  t4 := Tryz.underlying4
  a4 := Tryz.isAgg4
  z4 := Tryz.sizeOf4
  v4 := Tryz.zeroValue4
  t9 := Tryz.underlying9
  a9 := Tryz.isAgg9
  z9 := Tryz.sizeOf9
  v9 := Tryz.zeroValue9
  t20 := Tryz.underlying20
  a20 := Tryz.isAgg20
  z20 := Tryz.sizeOf20
  v20 := Tryz.zeroValue20
  t37 := Tryz.underlying75
  a37 := Tryz.isAgg75
  z37 := Tryz.sizeOf75
  v37 := Tryz.zeroValue75
  t70 := Tryz.underlying84
  a70 := Tryz.isAgg84
  z70 := Tryz.sizeOf84
  v70 := Tryz.zeroValue84
  t72 := Tryz.underlying86
  a72 := Tryz.isAgg86
  z72 := Tryz.sizeOf86
  v72 := Tryz.zeroValue86
  t164 := Tryz.underlying118
  a164 := Tryz.isAgg118
  z164 := Tryz.sizeOf118
  v164 := Tryz.zeroValue118 }
theorem Tryz.Builder_Extra_165 : Builder.Extra Tryz.prog Tryz.lays165_ren := {
  sizeBuilder := by kernel_rfl
  liesBuilder := by kernel_rfl
  t5 := Tryz.underlying5
  a5 := Tryz.isAgg5
  z5 := Tryz.sizeOf5
  v5 := Tryz.zeroValue5
  infoByte := by kernel_rfl
  cellsByte := by kernel_rfl
  sizeByte := by kernel_rfl
  neB5 := by decide }
open Go.RowKit in
theorem Tryz.Builder_Grow_fresh (B b n : Nat) (w : World) (hB : B ≤ b) (hbk : w.heap[b]? = some (.cells #[.pointer none, .slice none 0 0] 86 (0, 0))) (hBw : B ≤ w.heap.size) (hn : n ≤ 281474976710656) :
    Calls Tryz.prog 68 #[.pointer (some ⟨b, 0, none⟩), .int .i64 n] w fun e w' => e = .returned (.tuple #[]) ∧ (Lib.BuilderAt 86 5 B b (.pointer (some ⟨b, 0, none⟩)) [] w' ∧ Below B w w') := Any.Builder_Grow_fresh Tryz.lays165 Tryz.Builder_Extra_165 B b n w hB hbk hBw hn
def Tryz.lays159_ren : Go.Shelf.Ren := ⟨fun | 159 => 104 | 165 => 68 | 166 => 91 | 167 => 118 | 169 => 92 | 230 => 119 | 204 => 120 | 240 => 82 | 241 => 83 | 197 => 127 | 118 => 128 | 168 => 84 | 270 => 129 | 262 => 130 | 276 => 101 | 277 => 102 | 260 => 134 | 242 => 103 | 313 => 135 | 278 => 117 | 274 => 137 | 275 => 138 | n => n, fun | 9 => 9 | 4 => 4 | 3 => 3 | 5 => 5 | 72 => 86 | 0 => 0 | 76 => 103 | 75 => 102 | 107 => 136 | 70 => 84 | 20 => 20 | 37 => 75 | 127 => 124 | 21 => 21 | 105 => 138 | 164 => 118 | 162 => 144 | 203 => 142 | 119 => 145 | 46 => 115 | 139 => 150 | 138 => 149 | 51 => 128 | 160 => 151 | 208 => 168 | 206 => 166 | 80 => 66 | n => n, fun | 13 => 1 | 3 => 6 | 4 => 7 | n => n⟩
theorem Tryz.lays159 : Go.Proofs.Lays.n159 Tryz.prog Tryz.lays159_ren := {
  mixed := by kernel_rfl
  f118 := Tryz.func128.trans (congrArg some (by kernel_rfl))
  f159 := Tryz.func104.trans (congrArg some (by kernel_rfl))
  f165 := Tryz.func68.trans (congrArg some (by kernel_rfl))
  f166 := Tryz.func91.trans (congrArg some (by kernel_rfl))
  f167 := Tryz.func118.trans (congrArg some (by kernel_rfl))
  f168 := Tryz.func84.trans (congrArg some (by kernel_rfl))
  f169 := Tryz.func92.trans (congrArg some (by kernel_rfl))
  f197 := Tryz.func127.trans (congrArg some (by kernel_rfl))
  f204 := Tryz.func120.trans (congrArg some (by kernel_rfl))
  f230 := Tryz.func119.trans (congrArg some (by kernel_rfl))
  f240 := Tryz.func82.trans (congrArg some (by kernel_rfl))
  f241 := Tryz.func83.trans (congrArg some (by kernel_rfl))
  f242 := Tryz.func103.trans (congrArg some (by kernel_rfl))
  f260 := Tryz.func134.trans (congrArg some (by kernel_rfl))
  f262 := Tryz.func130.trans (congrArg some (by kernel_rfl))
  f270 := Tryz.func129.trans (congrArg some (by kernel_rfl))
  f274 := Tryz.func137.trans (congrArg some (by kernel_rfl))
  f275 := Tryz.func138.trans (congrArg some (by kernel_rfl))
  f276 := Tryz.func101.trans (congrArg some (by kernel_rfl))
  f277 := Tryz.func102.trans (congrArg some (by kernel_rfl))
  f278 := Tryz.func117.trans (congrArg some (by kernel_rfl))
  f313 := Tryz.func135.trans (congrArg some (by kernel_rfl))
  t0 := Tryz.underlying0
  a0 := Tryz.isAgg0
  z0 := Tryz.sizeOf0
  v0 := Tryz.zeroValue0
  t3 := Tryz.underlying3
  a3 := Tryz.isAgg3
  z3 := Tryz.sizeOf3
  v3 := Tryz.zeroValue3
  t4 := Tryz.underlying4
  a4 := Tryz.isAgg4
  z4 := Tryz.sizeOf4
  v4 := Tryz.zeroValue4
  t5 := Tryz.underlying5
  a5 := Tryz.isAgg5
  z5 := Tryz.sizeOf5
  v5 := Tryz.zeroValue5
  t9 := Tryz.underlying9
  a9 := Tryz.isAgg9
  z9 := Tryz.sizeOf9
  v9 := Tryz.zeroValue9
  t20 := Tryz.underlying20
  a20 := Tryz.isAgg20
  z20 := Tryz.sizeOf20
  v20 := Tryz.zeroValue20
  t21 := Tryz.underlying21
  a21 := Tryz.isAgg21
  z21 := Tryz.sizeOf21
  v21 := Tryz.zeroValue21
  t37 := Tryz.underlying75
  a37 := Tryz.isAgg75
  z37 := Tryz.sizeOf75
  v37 := Tryz.zeroValue75
  t46 := Tryz.underlying115
  a46 := Tryz.isAgg115
  z46 := Tryz.sizeOf115
  v46 := Tryz.zeroValue115
  t51 := Tryz.underlying128
  a51 := Tryz.isAgg128
  z51 := Tryz.sizeOf128
  v51 := Tryz.zeroValue128
  t70 := Tryz.underlying84
  a70 := Tryz.isAgg84
  z70 := Tryz.sizeOf84
  v70 := Tryz.zeroValue84
  t72 := Tryz.underlying86
  a72 := Tryz.isAgg86
  z72 := Tryz.sizeOf86
  v72 := Tryz.zeroValue86
  t75 := Tryz.underlying102
  a75 := Tryz.isAgg102
  z75 := Tryz.sizeOf102
  v75 := Tryz.zeroValue102
  t76 := Tryz.underlying103
  a76 := Tryz.isAgg103
  z76 := Tryz.sizeOf103
  v76 := Tryz.zeroValue103
  t105 := Tryz.underlying138
  a105 := Tryz.isAgg138
  z105 := Tryz.sizeOf138
  v105 := Tryz.zeroValue138
  t107 := Tryz.underlying136
  a107 := Tryz.isAgg136
  z107 := Tryz.sizeOf136
  v107 := Tryz.zeroValue136
  t119 := Tryz.underlying145
  a119 := Tryz.isAgg145
  z119 := Tryz.sizeOf145
  t127 := Tryz.underlying124
  a127 := Tryz.isAgg124
  z127 := Tryz.sizeOf124
  v127 := Tryz.zeroValue124
  t138 := Tryz.underlying149
  a138 := Tryz.isAgg149
  z138 := Tryz.sizeOf149
  v138 := Tryz.zeroValue149
  t139 := Tryz.underlying150
  a139 := Tryz.isAgg150
  z139 := Tryz.sizeOf150
  v139 := Tryz.zeroValue150
  t160 := Tryz.underlying151
  a160 := Tryz.isAgg151
  z160 := Tryz.sizeOf151
  v160 := Tryz.zeroValue151
  t162 := Tryz.underlying144
  a162 := Tryz.isAgg144
  z162 := Tryz.sizeOf144
  v162 := Tryz.zeroValue144
  t164 := Tryz.underlying118
  a164 := Tryz.isAgg118
  z164 := Tryz.sizeOf118
  v164 := Tryz.zeroValue118
  t203 := Tryz.underlying142
  a203 := Tryz.isAgg142
  z203 := Tryz.sizeOf142
  v203 := Tryz.zeroValue142
  t206 := Tryz.underlying166
  a206 := Tryz.isAgg166
  z206 := Tryz.sizeOf166
  v206 := Tryz.zeroValue166
  t208 := Tryz.underlying168
  a208 := Tryz.isAgg168
  z208 := Tryz.sizeOf168
  v208 := Tryz.zeroValue168
  g3 := by kernel_rfl
  g4 := by kernel_rfl
  g13 := by kernel_rfl }
theorem Tryz.Builder_Extra_159 : Builder.Extra Tryz.prog Tryz.lays159_ren := {
  sizeBuilder := by kernel_rfl
  liesBuilder := by kernel_rfl
  t5 := Tryz.underlying5
  a5 := Tryz.isAgg5
  z5 := Tryz.sizeOf5
  v5 := Tryz.zeroValue5
  infoByte := by kernel_rfl
  cellsByte := by kernel_rfl
  sizeByte := by kernel_rfl
  neB5 := by decide }
open Go.RowKit in
theorem Tryz.strings_ToLower_ascii (s : ByteArray) (w : World) (hs : s.size ≤ 140737488355328) (hascii : ∀ (j : Nat) (b : UInt8), s.data.toList[j]? = some b → b.toNat < 128) :
    Calls Tryz.prog 104 #[.string s] w fun e w' => e = .returned (.string ⟨(Lib.toLowerA s.data.toList).toArray⟩) ∧ Below w.heap.size w w' := Any.strings_ToLower_ascii Tryz.lays159 Tryz.Builder_Extra_159 s w hs hascii
def Tryz.lays156_ren : Go.Shelf.Ren := ⟨fun | 156 => 113 | 165 => 68 | 166 => 91 | 169 => 92 | 240 => 82 | 241 => 83 | 276 => 101 | 277 => 102 | n => n, fun | 31 => 48 | 9 => 9 | 3 => 3 | 4 => 4 | 0 => 0 | 20 => 20 | 72 => 86 | 76 => 103 | 70 => 84 | 37 => 75 | 75 => 102 | 127 => 124 | 164 => 118 | 5 => 5 | 80 => 66 | n => n, fun | n => n⟩
theorem Tryz.lays156 : Go.Proofs.Lays.n156 Tryz.prog Tryz.lays156_ren := {
  mixed := by kernel_rfl
  f156 := Tryz.func113.trans (congrArg some (by kernel_rfl))
  f165 := Tryz.func68.trans (congrArg some (by kernel_rfl))
  f166 := Tryz.func91.trans (congrArg some (by kernel_rfl))
  f169 := Tryz.func92.trans (congrArg some (by kernel_rfl))
  f240 := Tryz.func82.trans (congrArg some (by kernel_rfl))
  f241 := Tryz.func83.trans (congrArg some (by kernel_rfl))
  f276 := Tryz.func101.trans (congrArg some (by kernel_rfl))
  f277 := Tryz.func102.trans (congrArg some (by kernel_rfl))
  t0 := Tryz.underlying0
  a0 := Tryz.isAgg0
  z0 := Tryz.sizeOf0
  v0 := Tryz.zeroValue0
  t3 := Tryz.underlying3
  a3 := Tryz.isAgg3
  z3 := Tryz.sizeOf3
  v3 := Tryz.zeroValue3
  t4 := Tryz.underlying4
  a4 := Tryz.isAgg4
  z4 := Tryz.sizeOf4
  v4 := Tryz.zeroValue4
  t9 := Tryz.underlying9
  a9 := Tryz.isAgg9
  z9 := Tryz.sizeOf9
  v9 := Tryz.zeroValue9
  t20 := Tryz.underlying20
  a20 := Tryz.isAgg20
  z20 := Tryz.sizeOf20
  v20 := Tryz.zeroValue20
  t31 := Tryz.underlying48
  a31 := Tryz.isAgg48
  z31 := Tryz.sizeOf48
  v31 := Tryz.zeroValue48
  t37 := Tryz.underlying75
  a37 := Tryz.isAgg75
  z37 := Tryz.sizeOf75
  v37 := Tryz.zeroValue75
  t70 := Tryz.underlying84
  a70 := Tryz.isAgg84
  z70 := Tryz.sizeOf84
  v70 := Tryz.zeroValue84
  t72 := Tryz.underlying86
  a72 := Tryz.isAgg86
  z72 := Tryz.sizeOf86
  v72 := Tryz.zeroValue86
  t75 := Tryz.underlying102
  a75 := Tryz.isAgg102
  z75 := Tryz.sizeOf102
  v75 := Tryz.zeroValue102
  t76 := Tryz.underlying103
  a76 := Tryz.isAgg103
  z76 := Tryz.sizeOf103
  v76 := Tryz.zeroValue103
  t127 := Tryz.underlying124
  a127 := Tryz.isAgg124
  z127 := Tryz.sizeOf124
  v127 := Tryz.zeroValue124
  t164 := Tryz.underlying118
  a164 := Tryz.isAgg118
  z164 := Tryz.sizeOf118
  v164 := Tryz.zeroValue118 }
theorem Tryz.Builder_Extra_156 : Builder.Extra Tryz.prog Tryz.lays156_ren := {
  sizeBuilder := by kernel_rfl
  liesBuilder := by kernel_rfl
  t5 := Tryz.underlying5
  a5 := Tryz.isAgg5
  z5 := Tryz.sizeOf5
  v5 := Tryz.zeroValue5
  infoByte := by kernel_rfl
  cellsByte := by kernel_rfl
  sizeByte := by kernel_rfl
  neB5 := by decide }
open Go.RowKit in
theorem Tryz.strings_Join_none (a : Option Addr) (c : Nat) (sep : ByteArray) (w : World) :
    Calls Tryz.prog 113 #[.slice a 0 c, .string sep] w fun e w' => e = .returned (.string ⟨#[]⟩) ∧ w' = w := Any.strings_Join_none Tryz.lays156 Tryz.Builder_Extra_156 a c sep w
open Go.RowKit in
theorem Tryz.strings_Join (bk o c : Nat) (xs : List ByteArray) (sep : ByteArray) (w : World) (hcells : ∀ (j : Nat) x, xs[j]? = some x → w.cell? ⟨bk, o + j, none⟩ = some (.string x)) (hbk : bk < w.heap.size) (hN : xs.length ≤ 140737488355328) (hcap : xs.length ≤ c) (hlen : (Lib.join (xs.map (·.data.toList)) sep.data.toList).length ≤ 140737488355328) :
    Calls Tryz.prog 113 #[.slice (some ⟨bk, o, none⟩) xs.length c, .string sep] w fun e w' => e = .returned (.string ⟨(Lib.join (xs.map (·.data.toList)) sep.data.toList).toArray⟩) ∧ Below w.heap.size w w' := Any.strings_Join Tryz.lays156 Tryz.Builder_Extra_156 bk o c xs sep w hcells hbk hN hcap hlen
def Tryz.lays118_ren : Go.Shelf.Ren := ⟨fun | 118 => 128 | n => n, fun | 21 => 21 | 3 => 3 | 4 => 4 | n => n, fun | n => n⟩
theorem Tryz.lays118 : Go.Proofs.Lays.n118 Tryz.prog Tryz.lays118_ren := {
  mixed := by kernel_rfl
  f118 := Tryz.func128.trans (congrArg some (by kernel_rfl))
  t3 := Tryz.underlying3
  a3 := Tryz.isAgg3
  z3 := Tryz.sizeOf3
  v3 := Tryz.zeroValue3
  t4 := Tryz.underlying4
  a4 := Tryz.isAgg4
  z4 := Tryz.sizeOf4
  v4 := Tryz.zeroValue4
  t21 := Tryz.underlying21
  a21 := Tryz.isAgg21
  z21 := Tryz.sizeOf21
  v21 := Tryz.zeroValue21 }
theorem Tryz.utf8_RuneLen (r : Int) (w : World) :
    Calls Tryz.prog 128 #[.int .i32 r] w fun e w' => e = .returned (.int .i64 (Lib.runeLen r)) ∧ w' = w := Any.utf8_RuneLen Tryz.lays118 r w
open Go.RowKit in
theorem Tryz.Builder_Len_f (B b : Nat) (bs : List Value) (w : World) (h : Lib.IsBuilderF 86 5 B b bs w) :
    Calls Tryz.prog 100 #[.pointer (some ⟨b, 0, none⟩)] w fun e w' => e = .returned (.int .i64 bs.length) ∧ w' = w := Any.Builder_Len_f Tryz.lays170 B b bs w h
open Go.RowKit in
theorem Tryz.Builder_String_f (B b : Nat) (l : List UInt8) (w : World) (h : Lib.IsBuilderF 86 5 B b (Lib.byteCells l) w) (h0 : l ≠ []) :
    Calls Tryz.prog 92 #[.pointer (some ⟨b, 0, none⟩)] w fun e w' => e = .returned (.string ⟨l.toArray⟩) ∧ (Lib.IsBuilderF 86 5 B b (Lib.byteCells l) w' ∧ Below B w w') := Any.Builder_String_f Tryz.lays169 Tryz.Builder_Extra_169 B b l w h h0
open Go.RowKit in
theorem Tryz.Builder_String_empty_f (B b : Nat) (w : World) (h : Lib.IsBuilderF 86 5 B b [] w) (hBw : B ≤ w.heap.size) :
    Calls Tryz.prog 92 #[.pointer (some ⟨b, 0, none⟩)] w fun e w' => e = .returned (.string ⟨#[]⟩) ∧ (Lib.IsBuilderF 86 5 B b [] w' ∧ Below B w w') := Any.Builder_String_empty_f Tryz.lays169 Tryz.Builder_Extra_169 B b w h hBw
open Go.RowKit in
theorem Tryz.Builder_String_any_f (B b : Nat) (l : List UInt8) (w : World) (h : Lib.IsBuilderF 86 5 B b (Lib.byteCells l) w) (hBw : B ≤ w.heap.size) :
    Calls Tryz.prog 92 #[.pointer (some ⟨b, 0, none⟩)] w fun e w' => e = .returned (.string ⟨l.toArray⟩) ∧ (Lib.IsBuilderF 86 5 B b (Lib.byteCells l) w' ∧ Below B w w') := Any.Builder_String_any_f Tryz.lays169 Tryz.Builder_Extra_169 B b l w h hBw
open Go.RowKit in
theorem Tryz.Builder_String_k (B b : Nat) (l : List UInt8) (w : World) (h : Lib.IsBuilderF 86 5 B b (Lib.byteCells l) w) (h0 : l ≠ []) :
    Calls Tryz.prog 92 #[.pointer (some ⟨b, 0, none⟩)] w fun e w' => e = .returned (.string ⟨l.toArray⟩) ∧ (Lib.IsBuilderF 86 5 B b (Lib.byteCells l) w' ∧ Below B w w' ∧ Lib.OthersKept 5 (some b) w w') := Any.Builder_String_k Tryz.lays169 Tryz.Builder_Extra_169 B b l w h h0
open Go.RowKit in
theorem Tryz.Builder_String_empty_k (B b : Nat) (w : World) (h : Lib.IsBuilderF 86 5 B b [] w) (hBw : B ≤ w.heap.size) :
    Calls Tryz.prog 92 #[.pointer (some ⟨b, 0, none⟩)] w fun e w' => e = .returned (.string ⟨#[]⟩) ∧ (Lib.IsBuilderF 86 5 B b [] w' ∧ Below B w w' ∧ Lib.OthersKept 5 (some b) w w') := Any.Builder_String_empty_k Tryz.lays169 Tryz.Builder_Extra_169 B b w h hBw
open Go.RowKit in
theorem Tryz.Builder_String_any_k (B b : Nat) (l : List UInt8) (w : World) (h : Lib.IsBuilderF 86 5 B b (Lib.byteCells l) w) (hBw : B ≤ w.heap.size) :
    Calls Tryz.prog 92 #[.pointer (some ⟨b, 0, none⟩)] w fun e w' => e = .returned (.string ⟨l.toArray⟩) ∧ (Lib.IsBuilderF 86 5 B b (Lib.byteCells l) w' ∧ Below B w w' ∧ Lib.OthersKept 5 (some b) w w') := Any.Builder_String_any_k Tryz.lays169 Tryz.Builder_Extra_169 B b l w h hBw
def Tryz.lays278_ren : Go.Shelf.Ren := ⟨fun | 278 => 117 | n => n, fun | 37 => 75 | 21 => 21 | 51 => 128 | 4 => 4 | 46 => 115 | 5 => 5 | n => n, fun | n => n⟩
theorem Tryz.lays278 : Go.Proofs.Lays.n278 Tryz.prog Tryz.lays278_ren := {
  mixed := by kernel_rfl
  f278 := Tryz.func117.trans (congrArg some (by kernel_rfl))
  t4 := Tryz.underlying4
  a4 := Tryz.isAgg4
  z4 := Tryz.sizeOf4
  v4 := Tryz.zeroValue4
  t5 := Tryz.underlying5
  a5 := Tryz.isAgg5
  z5 := Tryz.sizeOf5
  v5 := Tryz.zeroValue5
  t21 := Tryz.underlying21
  a21 := Tryz.isAgg21
  z21 := Tryz.sizeOf21
  v21 := Tryz.zeroValue21
  t37 := Tryz.underlying75
  a37 := Tryz.isAgg75
  z37 := Tryz.sizeOf75
  v37 := Tryz.zeroValue75
  t46 := Tryz.underlying115
  a46 := Tryz.isAgg115
  z46 := Tryz.sizeOf115
  v46 := Tryz.zeroValue115
  t51 := Tryz.underlying128
  a51 := Tryz.isAgg128
  z51 := Tryz.sizeOf128
  v51 := Tryz.zeroValue128 }
open Go.RowKit in
theorem Tryz.utf8_appendRuneNonASCII_row (B : Nat) (v : Value) (n : Nat) (xs : List Value) (r : Int) (hr0 : -2147483648 ≤ r) (hr1 : r ≤ 2147483647) (hna : r < 0 ∨ 128 ≤ r) (w : World) (hown : w.ownsRowF B 5 1 v n xs) (hlen : n + 4 ≤ 140737488355328) (hBw : B ≤ w.heap.size) :
    Calls Tryz.prog 117 #[v, .int .i32 r] w fun e w' => ∃ v', e = .returned v' ∧ w'.ownsRowF B 5 1 v' (n + (Lib.runeCells r).length) (xs ++ Lib.runeCells r) ∧ ∃ o, (w.alloc o).grownBy w' v.ownBlock := Any.utf8_appendRuneNonASCII_row Tryz.lays278 (by kernel_rfl) B v n xs r hr0 hr1 hna w hown hlen hBw
def Tryz.lays242_ren : Go.Shelf.Ren := ⟨fun | 242 => 103 | 278 => 117 | n => n, fun | 37 => 75 | 21 => 21 | 51 => 128 | 4 => 4 | 5 => 5 | 46 => 115 | n => n, fun | n => n⟩
theorem Tryz.lays242 : Go.Proofs.Lays.n242 Tryz.prog Tryz.lays242_ren := {
  mixed := by kernel_rfl
  f242 := Tryz.func103.trans (congrArg some (by kernel_rfl))
  f278 := Tryz.func117.trans (congrArg some (by kernel_rfl))
  t4 := Tryz.underlying4
  a4 := Tryz.isAgg4
  z4 := Tryz.sizeOf4
  v4 := Tryz.zeroValue4
  t5 := Tryz.underlying5
  a5 := Tryz.isAgg5
  z5 := Tryz.sizeOf5
  v5 := Tryz.zeroValue5
  t21 := Tryz.underlying21
  a21 := Tryz.isAgg21
  z21 := Tryz.sizeOf21
  v21 := Tryz.zeroValue21
  t37 := Tryz.underlying75
  a37 := Tryz.isAgg75
  z37 := Tryz.sizeOf75
  v37 := Tryz.zeroValue75
  t46 := Tryz.underlying115
  a46 := Tryz.isAgg115
  z46 := Tryz.sizeOf115
  v46 := Tryz.zeroValue115
  t51 := Tryz.underlying128
  a51 := Tryz.isAgg128
  z51 := Tryz.sizeOf128
  v51 := Tryz.zeroValue128 }
open Go.RowKit in
theorem Tryz.utf8_AppendRune_row (B : Nat) (v : Value) (n : Nat) (xs : List Value) (r : Int) (hr0 : -2147483648 ≤ r) (hr1 : r ≤ 2147483647) (w : World) (hown : w.ownsRowF B 5 1 v n xs) (hlen : n + 4 ≤ 140737488355328) (hBw : B ≤ w.heap.size) :
    Calls Tryz.prog 103 #[v, .int .i32 r] w fun e w' => ∃ v', e = .returned v' ∧ w'.ownsRowF B 5 1 v' (n + (Lib.runeCells r).length) (xs ++ Lib.runeCells r) ∧ ∃ o, (w.alloc o).grownBy w' v.ownBlock := Any.utf8_AppendRune_row Tryz.lays242 (by kernel_rfl) B v n xs r hr0 hr1 w hown hlen hBw
open Go.RowKit in
theorem Tryz.utf8_appendRuneNonASCII_plain (B : Nat) (v : Value) (n : Nat) (xs : List Value) (r : Int) (hr0 : -2147483648 ≤ r) (hr1 : r ≤ 2147483647) (hna : r < 0 ∨ 128 ≤ r) (w : World) (hown : w.ownsRow B 5 1 v n xs) (hlen : n + 4 ≤ 140737488355328) (hBw : B ≤ w.heap.size) :
    Calls Tryz.prog 117 #[v, .int .i32 r] w fun e w' => ∃ v', e = .returned v' ∧ w'.ownsRow B 5 1 v' (n + (Lib.runeCells r).length) (xs ++ Lib.runeCells r) ∧ ∃ o, (w.alloc o).grownBy w' v.ownBlock := Any.utf8_appendRuneNonASCII_plain Tryz.lays278 (by kernel_rfl) B v n xs r hr0 hr1 hna w hown hlen hBw
open Go.RowKit in
theorem Tryz.utf8_AppendRune_plain (B : Nat) (v : Value) (n : Nat) (xs : List Value) (r : Int) (hr0 : -2147483648 ≤ r) (hr1 : r ≤ 2147483647) (w : World) (hown : w.ownsRow B 5 1 v n xs) (hlen : n + 4 ≤ 140737488355328) (hBw : B ≤ w.heap.size) :
    Calls Tryz.prog 103 #[v, .int .i32 r] w fun e w' => ∃ v', e = .returned v' ∧ w'.ownsRow B 5 1 v' (n + (Lib.runeCells r).length) (xs ++ Lib.runeCells r) ∧ ∃ o, (w.alloc o).grownBy w' v.ownBlock := Any.utf8_AppendRune_plain Tryz.lays242 (by kernel_rfl) B v n xs r hr0 hr1 w hown hlen hBw
def Tryz.lays195_ren : Go.Shelf.Ren := ⟨fun | 195 => 81 | n => n, fun | 9 => 9 | 3 => 3 | 0 => 0 | 4 => 4 | n => n, fun | n => n⟩
theorem Tryz.lays195 : Go.Proofs.Lays.n195 Tryz.prog Tryz.lays195_ren := {
  mixed := by kernel_rfl
  f195 := Tryz.func81.trans (congrArg some (by kernel_rfl))
  t0 := Tryz.underlying0
  a0 := Tryz.isAgg0
  z0 := Tryz.sizeOf0
  v0 := Tryz.zeroValue0
  t3 := Tryz.underlying3
  a3 := Tryz.isAgg3
  z3 := Tryz.sizeOf3
  v3 := Tryz.zeroValue3
  t4 := Tryz.underlying4
  a4 := Tryz.isAgg4
  z4 := Tryz.sizeOf4
  v4 := Tryz.zeroValue4
  t9 := Tryz.underlying9
  a9 := Tryz.isAgg9
  z9 := Tryz.sizeOf9
  v9 := Tryz.zeroValue9 }
open Go.RowKit in
theorem Tryz.utf8_RuneCountInString (s : ByteArray) (w : World) (hs : s.size < 9223372036854775807) :
    Calls Tryz.prog 81 #[.string s] w fun e w' => e = .returned (.int .i64 (Lib.runeCount s)) ∧ ∃ pos, w' = w.iter s pos := Any.utf8_RuneCountInString Tryz.lays195 s w hs
open Go.RowKit in
theorem Tryz.Builder_grow_fresh_cap (B b n : Nat) (w : World) (hB : B ≤ b) (hbk : w.heap[b]? = some (.cells #[.pointer (some ⟨b, 0, none⟩), .slice none 0 0] 86 (0, 0))) (hBw : B ≤ w.heap.size) (hn : n ≤ 281474976710656) :
    Calls Tryz.prog 83 #[.pointer (some ⟨b, 0, none⟩), .int .i64 n] w fun e w' => e = .returned (.tuple #[]) ∧ (Lib.BuilderAt 86 5 B b (.pointer (some ⟨b, 0, none⟩)) [] w' ∧ Below B w w') ∧ ∃ p cap, w'.cell? ⟨b, 1, none⟩ = some (.slice p 0 cap) ∧ n ≤ cap := Any.Builder_grow_fresh_cap Tryz.lays241 Tryz.Builder_Extra_241 B b n w hB hbk hBw hn
open Go.RowKit in
theorem Tryz.Builder_Grow_fresh_cap (B b n : Nat) (w : World) (hB : B ≤ b) (hbk : w.heap[b]? = some (.cells #[.pointer none, .slice none 0 0] 86 (0, 0))) (hBw : B ≤ w.heap.size) (hn : n ≤ 281474976710656) :
    Calls Tryz.prog 68 #[.pointer (some ⟨b, 0, none⟩), .int .i64 n] w fun e w' => e = .returned (.tuple #[]) ∧ (Lib.BuilderAt 86 5 B b (.pointer (some ⟨b, 0, none⟩)) [] w' ∧ Below B w w') ∧ ∃ p cap, w'.cell? ⟨b, 1, none⟩ = some (.slice p 0 cap) ∧ n ≤ cap := Any.Builder_Grow_fresh_cap Tryz.lays165 Tryz.Builder_Extra_165 B b n w hB hbk hBw hn
def Tryz.lays206_ren : Go.Shelf.Ren := ⟨fun | 206 => 116 | n => n, fun | 9 => 9 | 4 => 4 | 3 => 3 | n => n, fun | n => n⟩
theorem Tryz.lays206 : Go.Proofs.Lays.n206 Tryz.prog Tryz.lays206_ren := {
  mixed := by kernel_rfl
  f206 := Tryz.func116.trans (congrArg some (by kernel_rfl))
  t3 := Tryz.underlying3
  a3 := Tryz.isAgg3
  z3 := Tryz.sizeOf3
  v3 := Tryz.zeroValue3
  t4 := Tryz.underlying4
  a4 := Tryz.isAgg4
  z4 := Tryz.sizeOf4
  v4 := Tryz.zeroValue4
  t9 := Tryz.underlying9
  a9 := Tryz.isAgg9
  z9 := Tryz.sizeOf9
  v9 := Tryz.zeroValue9 }
open Go.RowKit Go.Lib in
theorem Tryz.stringslite_HasPrefix (s p : ByteArray) (w : World) :
    Calls Tryz.prog 116 #[.string s, .string p] w fun e w' => e = .returned (.bool (Lib.hasPrefix s.data.toList p.data.toList)) ∧ w' = w := Any.stringslite_HasPrefix Tryz.lays206 s p w
def Tryz.lays99_ren : Go.Shelf.Ren := ⟨fun | 99 => 99 | 206 => 116 | n => n, fun | 9 => 9 | 4 => 4 | 3 => 3 | n => n, fun | n => n⟩
theorem Tryz.lays99 : Go.Proofs.Lays.n99 Tryz.prog Tryz.lays99_ren := {
  mixed := by kernel_rfl
  f99 := Tryz.func99.trans (congrArg some (by kernel_rfl))
  f206 := Tryz.func116.trans (congrArg some (by kernel_rfl))
  t3 := Tryz.underlying3
  a3 := Tryz.isAgg3
  z3 := Tryz.sizeOf3
  v3 := Tryz.zeroValue3
  t4 := Tryz.underlying4
  a4 := Tryz.isAgg4
  z4 := Tryz.sizeOf4
  v4 := Tryz.zeroValue4
  t9 := Tryz.underlying9
  a9 := Tryz.isAgg9
  z9 := Tryz.sizeOf9
  v9 := Tryz.zeroValue9 }
open Go.RowKit Go.Lib in
theorem Tryz.strings_HasPrefix (s p : ByteArray) (w : World) :
    Calls Tryz.prog 99 #[.string s, .string p] w fun e w' => e = .returned (.bool (Lib.hasPrefix s.data.toList p.data.toList)) ∧ w' = w := Any.strings_HasPrefix Tryz.lays99 s p w
def Tryz.lays198_ren : Go.Shelf.Ren := ⟨fun | 198 => 132 | 261 => 136 | 311 => 139 | 312 => 140 | n => n, fun | 21 => 21 | 4 => 4 | 141 => 147 | 0 => 0 | 196 => 157 | 193 => 154 | 3 => 3 | 51 => 128 | 198 => 160 | 49 => 158 | 194 => 155 | 201 => 163 | 226 => 169 | 46 => 115 | 227 => 170 | n => n, fun | 5 => 4 | n => n⟩
theorem Tryz.lays198 : Go.Proofs.Lays.n198 Tryz.prog Tryz.lays198_ren := {
  mixed := by kernel_rfl
  f198 := Tryz.func132.trans (congrArg some (by kernel_rfl))
  f261 := Tryz.func136.trans (congrArg some (by kernel_rfl))
  f311 := Tryz.func139.trans (congrArg some (by kernel_rfl))
  f312 := Tryz.func140.trans (congrArg some (by kernel_rfl))
  t0 := Tryz.underlying0
  a0 := Tryz.isAgg0
  z0 := Tryz.sizeOf0
  v0 := Tryz.zeroValue0
  t3 := Tryz.underlying3
  a3 := Tryz.isAgg3
  z3 := Tryz.sizeOf3
  v3 := Tryz.zeroValue3
  t4 := Tryz.underlying4
  a4 := Tryz.isAgg4
  z4 := Tryz.sizeOf4
  v4 := Tryz.zeroValue4
  t21 := Tryz.underlying21
  a21 := Tryz.isAgg21
  z21 := Tryz.sizeOf21
  v21 := Tryz.zeroValue21
  t46 := Tryz.underlying115
  a46 := Tryz.isAgg115
  z46 := Tryz.sizeOf115
  v46 := Tryz.zeroValue115
  t49 := Tryz.underlying158
  a49 := Tryz.isAgg158
  z49 := Tryz.sizeOf158
  v49 := Tryz.zeroValue158
  t51 := Tryz.underlying128
  a51 := Tryz.isAgg128
  z51 := Tryz.sizeOf128
  v51 := Tryz.zeroValue128
  t141 := Tryz.underlying147
  a141 := Tryz.isAgg147
  z141 := Tryz.sizeOf147
  v141 := Tryz.zeroValue147
  t193 := Tryz.underlying154
  a193 := Tryz.isAgg154
  z193 := Tryz.sizeOf154
  v193 := Tryz.zeroValue154
  t194 := Tryz.underlying155
  a194 := Tryz.isAgg155
  z194 := Tryz.sizeOf155
  v194 := Tryz.zeroValue155
  t196 := Tryz.underlying157
  a196 := Tryz.isAgg157
  z196 := Tryz.sizeOf157
  v196 := Tryz.zeroValue157
  t198 := Tryz.underlying160
  a198 := Tryz.isAgg160
  z198 := Tryz.sizeOf160
  v198 := Tryz.zeroValue160
  t201 := Tryz.underlying163
  a201 := Tryz.isAgg163
  z201 := Tryz.sizeOf163
  v201 := Tryz.zeroValue163
  t226 := Tryz.underlying169
  a226 := Tryz.isAgg169
  z226 := Tryz.sizeOf169
  v226 := Tryz.zeroValue169
  t227 := Tryz.underlying170
  a227 := Tryz.isAgg170
  z227 := Tryz.sizeOf170
  v227 := Tryz.zeroValue170
  g5 := by kernel_rfl }
open Go.RowKit Go.Lib in
theorem Tryz.unicode_IsDigit (r : Int) (w : World) (h : r ≤ 255) :
    Calls Tryz.prog 132 #[.int .i32 r] w fun e w' => e = .returned (.bool (Lib.isDigitL r)) ∧ w' = w := Any.unicode_IsDigit Tryz.lays198 r w h
def Tryz.lays199_ren : Go.Shelf.Ren := ⟨fun | 199 => 133 | 261 => 136 | 311 => 139 | 312 => 140 | n => n, fun | 21 => 21 | 4 => 4 | 51 => 128 | 141 => 147 | 0 => 0 | 196 => 157 | 193 => 154 | 3 => 3 | 198 => 160 | 49 => 158 | 194 => 155 | 201 => 163 | 226 => 169 | 46 => 115 | 227 => 170 | n => n, fun | 6 => 5 | n => n⟩
theorem Tryz.lays199 : Go.Proofs.Lays.n199 Tryz.prog Tryz.lays199_ren := {
  mixed := by kernel_rfl
  f199 := Tryz.func133.trans (congrArg some (by kernel_rfl))
  f261 := Tryz.func136.trans (congrArg some (by kernel_rfl))
  f311 := Tryz.func139.trans (congrArg some (by kernel_rfl))
  f312 := Tryz.func140.trans (congrArg some (by kernel_rfl))
  t0 := Tryz.underlying0
  a0 := Tryz.isAgg0
  z0 := Tryz.sizeOf0
  v0 := Tryz.zeroValue0
  t3 := Tryz.underlying3
  a3 := Tryz.isAgg3
  z3 := Tryz.sizeOf3
  v3 := Tryz.zeroValue3
  t4 := Tryz.underlying4
  a4 := Tryz.isAgg4
  z4 := Tryz.sizeOf4
  v4 := Tryz.zeroValue4
  t21 := Tryz.underlying21
  a21 := Tryz.isAgg21
  z21 := Tryz.sizeOf21
  v21 := Tryz.zeroValue21
  t46 := Tryz.underlying115
  a46 := Tryz.isAgg115
  z46 := Tryz.sizeOf115
  v46 := Tryz.zeroValue115
  t49 := Tryz.underlying158
  a49 := Tryz.isAgg158
  z49 := Tryz.sizeOf158
  v49 := Tryz.zeroValue158
  t51 := Tryz.underlying128
  a51 := Tryz.isAgg128
  z51 := Tryz.sizeOf128
  v51 := Tryz.zeroValue128
  t141 := Tryz.underlying147
  a141 := Tryz.isAgg147
  z141 := Tryz.sizeOf147
  v141 := Tryz.zeroValue147
  t193 := Tryz.underlying154
  a193 := Tryz.isAgg154
  z193 := Tryz.sizeOf154
  v193 := Tryz.zeroValue154
  t194 := Tryz.underlying155
  a194 := Tryz.isAgg155
  z194 := Tryz.sizeOf155
  v194 := Tryz.zeroValue155
  t196 := Tryz.underlying157
  a196 := Tryz.isAgg157
  z196 := Tryz.sizeOf157
  v196 := Tryz.zeroValue157
  t198 := Tryz.underlying160
  a198 := Tryz.isAgg160
  z198 := Tryz.sizeOf160
  v198 := Tryz.zeroValue160
  t201 := Tryz.underlying163
  a201 := Tryz.isAgg163
  z201 := Tryz.sizeOf163
  v201 := Tryz.zeroValue163
  t226 := Tryz.underlying169
  a226 := Tryz.isAgg169
  z226 := Tryz.sizeOf169
  v226 := Tryz.zeroValue169
  t227 := Tryz.underlying170
  a227 := Tryz.isAgg170
  z227 := Tryz.sizeOf170
  v227 := Tryz.zeroValue170
  g6 := by kernel_rfl }
open Go.RowKit Go.Lib in
theorem Tryz.unicode_IsSpace (r : Int) (w : World) (h0 : 0 ≤ r) (h : r ≤ 255) :
    Calls Tryz.prog 133 #[.int .i32 r] w fun e w' => e = .returned (.bool (Lib.isSpaceL r)) ∧ w' = w := Any.unicode_IsSpace Tryz.lays199 r w h0 h
def Tryz.lays203_ren : Go.Shelf.Ren := ⟨fun | 203 => 123 | 262 => 130 | 313 => 135 | 274 => 137 | 275 => 138 | n => n, fun | 21 => 21 | 4 => 4 | 3 => 3 | 162 => 144 | 203 => 142 | 160 => 151 | 46 => 115 | 0 => 0 | 208 => 168 | 51 => 128 | 206 => 166 | n => n, fun | 13 => 1 | n => n⟩
theorem Tryz.lays203 : Go.Proofs.Lays.n203 Tryz.prog Tryz.lays203_ren := {
  mixed := by kernel_rfl
  f203 := Tryz.func123.trans (congrArg some (by kernel_rfl))
  f262 := Tryz.func130.trans (congrArg some (by kernel_rfl))
  f274 := Tryz.func137.trans (congrArg some (by kernel_rfl))
  f275 := Tryz.func138.trans (congrArg some (by kernel_rfl))
  f313 := Tryz.func135.trans (congrArg some (by kernel_rfl))
  t0 := Tryz.underlying0
  a0 := Tryz.isAgg0
  z0 := Tryz.sizeOf0
  v0 := Tryz.zeroValue0
  t3 := Tryz.underlying3
  a3 := Tryz.isAgg3
  z3 := Tryz.sizeOf3
  v3 := Tryz.zeroValue3
  t4 := Tryz.underlying4
  a4 := Tryz.isAgg4
  z4 := Tryz.sizeOf4
  v4 := Tryz.zeroValue4
  t21 := Tryz.underlying21
  a21 := Tryz.isAgg21
  z21 := Tryz.sizeOf21
  v21 := Tryz.zeroValue21
  t46 := Tryz.underlying115
  a46 := Tryz.isAgg115
  z46 := Tryz.sizeOf115
  v46 := Tryz.zeroValue115
  t51 := Tryz.underlying128
  a51 := Tryz.isAgg128
  z51 := Tryz.sizeOf128
  v51 := Tryz.zeroValue128
  t160 := Tryz.underlying151
  a160 := Tryz.isAgg151
  z160 := Tryz.sizeOf151
  v160 := Tryz.zeroValue151
  t162 := Tryz.underlying144
  a162 := Tryz.isAgg144
  z162 := Tryz.sizeOf144
  v162 := Tryz.zeroValue144
  t203 := Tryz.underlying142
  a203 := Tryz.isAgg142
  z203 := Tryz.sizeOf142
  v203 := Tryz.zeroValue142
  t206 := Tryz.underlying166
  a206 := Tryz.isAgg166
  z206 := Tryz.sizeOf166
  v206 := Tryz.zeroValue166
  t208 := Tryz.underlying168
  a208 := Tryz.isAgg168
  z208 := Tryz.sizeOf168
  v208 := Tryz.zeroValue168
  g13 := by kernel_rfl }
open Go.RowKit Go.Lib in
theorem Tryz.unicode_ToUpper (r : Int) (w : World) (h : r ≤ 127) :
    Calls Tryz.prog 123 #[.int .i32 r] w fun e w' => e = .returned (.int .i32 (Lib.toUpperR r)) ∧ w' = w := Any.unicode_ToUpper Tryz.lays203 r w h
def Tryz.lays204_ren : Go.Shelf.Ren := ⟨fun | 204 => 120 | 262 => 130 | 313 => 135 | 274 => 137 | 275 => 138 | n => n, fun | 21 => 21 | 4 => 4 | 3 => 3 | 162 => 144 | 203 => 142 | 160 => 151 | 46 => 115 | 0 => 0 | 208 => 168 | 51 => 128 | 206 => 166 | n => n, fun | 13 => 1 | n => n⟩
theorem Tryz.lays204 : Go.Proofs.Lays.n204 Tryz.prog Tryz.lays204_ren := {
  mixed := by kernel_rfl
  f204 := Tryz.func120.trans (congrArg some (by kernel_rfl))
  f262 := Tryz.func130.trans (congrArg some (by kernel_rfl))
  f274 := Tryz.func137.trans (congrArg some (by kernel_rfl))
  f275 := Tryz.func138.trans (congrArg some (by kernel_rfl))
  f313 := Tryz.func135.trans (congrArg some (by kernel_rfl))
  t0 := Tryz.underlying0
  a0 := Tryz.isAgg0
  z0 := Tryz.sizeOf0
  v0 := Tryz.zeroValue0
  t3 := Tryz.underlying3
  a3 := Tryz.isAgg3
  z3 := Tryz.sizeOf3
  v3 := Tryz.zeroValue3
  t4 := Tryz.underlying4
  a4 := Tryz.isAgg4
  z4 := Tryz.sizeOf4
  v4 := Tryz.zeroValue4
  t21 := Tryz.underlying21
  a21 := Tryz.isAgg21
  z21 := Tryz.sizeOf21
  v21 := Tryz.zeroValue21
  t46 := Tryz.underlying115
  a46 := Tryz.isAgg115
  z46 := Tryz.sizeOf115
  v46 := Tryz.zeroValue115
  t51 := Tryz.underlying128
  a51 := Tryz.isAgg128
  z51 := Tryz.sizeOf128
  v51 := Tryz.zeroValue128
  t160 := Tryz.underlying151
  a160 := Tryz.isAgg151
  z160 := Tryz.sizeOf151
  v160 := Tryz.zeroValue151
  t162 := Tryz.underlying144
  a162 := Tryz.isAgg144
  z162 := Tryz.sizeOf144
  v162 := Tryz.zeroValue144
  t203 := Tryz.underlying142
  a203 := Tryz.isAgg142
  z203 := Tryz.sizeOf142
  v203 := Tryz.zeroValue142
  t206 := Tryz.underlying166
  a206 := Tryz.isAgg166
  z206 := Tryz.sizeOf166
  v206 := Tryz.zeroValue166
  t208 := Tryz.underlying168
  a208 := Tryz.isAgg168
  z208 := Tryz.sizeOf168
  v208 := Tryz.zeroValue168
  g13 := by kernel_rfl }
open Go.RowKit Go.Lib in
theorem Tryz.unicode_ToLower (r : Int) (w : World) (h : r ≤ 127) :
    Calls Tryz.prog 120 #[.int .i32 r] w fun e w' => e = .returned (.int .i32 (Lib.toLowerR r)) ∧ w' = w := Any.unicode_ToLower Tryz.lays204 r w h
def Tryz.lays200_ren : Go.Shelf.Ren := ⟨fun | 200 => 131 | 261 => 136 | 311 => 139 | 312 => 140 | n => n, fun | 21 => 21 | 4 => 4 | 51 => 128 | 5 => 5 | 119 => 145 | 0 => 0 | 141 => 147 | 196 => 157 | 193 => 154 | 3 => 3 | 198 => 160 | 49 => 158 | 194 => 155 | 201 => 163 | 226 => 169 | 46 => 115 | 227 => 170 | n => n, fun | 7 => 2 | 8 => 3 | n => n⟩
theorem Tryz.lays200 : Go.Proofs.Lays.n200 Tryz.prog Tryz.lays200_ren := {
  mixed := by kernel_rfl
  f200 := Tryz.func131.trans (congrArg some (by kernel_rfl))
  f261 := Tryz.func136.trans (congrArg some (by kernel_rfl))
  f311 := Tryz.func139.trans (congrArg some (by kernel_rfl))
  f312 := Tryz.func140.trans (congrArg some (by kernel_rfl))
  t0 := Tryz.underlying0
  a0 := Tryz.isAgg0
  z0 := Tryz.sizeOf0
  v0 := Tryz.zeroValue0
  t3 := Tryz.underlying3
  a3 := Tryz.isAgg3
  z3 := Tryz.sizeOf3
  v3 := Tryz.zeroValue3
  t4 := Tryz.underlying4
  a4 := Tryz.isAgg4
  z4 := Tryz.sizeOf4
  v4 := Tryz.zeroValue4
  t5 := Tryz.underlying5
  a5 := Tryz.isAgg5
  z5 := Tryz.sizeOf5
  v5 := Tryz.zeroValue5
  t21 := Tryz.underlying21
  a21 := Tryz.isAgg21
  z21 := Tryz.sizeOf21
  v21 := Tryz.zeroValue21
  t46 := Tryz.underlying115
  a46 := Tryz.isAgg115
  z46 := Tryz.sizeOf115
  v46 := Tryz.zeroValue115
  t49 := Tryz.underlying158
  a49 := Tryz.isAgg158
  z49 := Tryz.sizeOf158
  v49 := Tryz.zeroValue158
  t51 := Tryz.underlying128
  a51 := Tryz.isAgg128
  z51 := Tryz.sizeOf128
  v51 := Tryz.zeroValue128
  t119 := Tryz.underlying145
  a119 := Tryz.isAgg145
  z119 := Tryz.sizeOf145
  t141 := Tryz.underlying147
  a141 := Tryz.isAgg147
  z141 := Tryz.sizeOf147
  v141 := Tryz.zeroValue147
  t193 := Tryz.underlying154
  a193 := Tryz.isAgg154
  z193 := Tryz.sizeOf154
  v193 := Tryz.zeroValue154
  t194 := Tryz.underlying155
  a194 := Tryz.isAgg155
  z194 := Tryz.sizeOf155
  v194 := Tryz.zeroValue155
  t196 := Tryz.underlying157
  a196 := Tryz.isAgg157
  z196 := Tryz.sizeOf157
  v196 := Tryz.zeroValue157
  t198 := Tryz.underlying160
  a198 := Tryz.isAgg160
  z198 := Tryz.sizeOf160
  v198 := Tryz.zeroValue160
  t201 := Tryz.underlying163
  a201 := Tryz.isAgg163
  z201 := Tryz.sizeOf163
  v201 := Tryz.zeroValue163
  t226 := Tryz.underlying169
  a226 := Tryz.isAgg169
  z226 := Tryz.sizeOf169
  v226 := Tryz.zeroValue169
  t227 := Tryz.underlying170
  a227 := Tryz.isAgg170
  z227 := Tryz.sizeOf170
  v227 := Tryz.zeroValue170
  g7 := by kernel_rfl
  g8 := by kernel_rfl }
open Go.RowKit Go.Lib in
theorem Tryz.unicode_IsLetter (c : Nat) (w : World) (hc : c < 256) (htab : Lib.TabIs Tryz.prog w "unicode.properties" .u8 Lib.propertiesTab) :
    Calls Tryz.prog 131 #[.int .i32 c] w fun e w' => e = .returned (.bool (Lib.isLetterL c)) ∧ w' = w := Any.unicode_IsLetter Tryz.lays200 (by kernel_rfl) c w hc htab
def Tryz.laysM200_ren : Go.Shelf.Ren := ⟨fun | 200 => 131 | 261 => 136 | 311 => 139 | 312 => 140 | n => n, fun | 21 => 21 | 4 => 4 | 51 => 128 | 5 => 5 | 119 => 145 | 0 => 0 | 141 => 147 | 196 => 157 | 193 => 154 | 3 => 3 | 198 => 160 | 49 => 158 | 194 => 155 | 201 => 163 | 226 => 169 | 46 => 115 | 227 => 170 | n => n, fun | 7 => 2 | 8 => 3 | n => n⟩
theorem Tryz.laysM200 : Go.Proofs.LaysM.n200 Tryz.prog Tryz.laysM200_ren := {
  mixed := by kernel_rfl
  f200 := Tryz.func131.trans (congrArg some (by kernel_rfl))
  f261 := Tryz.func136.trans (congrArg some (by kernel_rfl))
  f311 := Tryz.func139.trans (congrArg some (by kernel_rfl))
  f312 := Tryz.func140.trans (congrArg some (by kernel_rfl))
  t0 := Tryz.underlying0
  a0 := Tryz.isAgg0
  z0 := Tryz.sizeOf0
  v0 := Tryz.zeroValue0
  t3 := Tryz.underlying3
  a3 := Tryz.isAgg3
  z3 := Tryz.sizeOf3
  v3 := Tryz.zeroValue3
  t4 := Tryz.underlying4
  a4 := Tryz.isAgg4
  z4 := Tryz.sizeOf4
  v4 := Tryz.zeroValue4
  t5 := Tryz.underlying5
  a5 := Tryz.isAgg5
  z5 := Tryz.sizeOf5
  v5 := Tryz.zeroValue5
  t21 := Tryz.underlying21
  a21 := Tryz.isAgg21
  z21 := Tryz.sizeOf21
  v21 := Tryz.zeroValue21
  t46 := Tryz.underlying115
  a46 := Tryz.isAgg115
  z46 := Tryz.sizeOf115
  v46 := Tryz.zeroValue115
  t49 := Tryz.underlying158
  a49 := Tryz.isAgg158
  z49 := Tryz.sizeOf158
  v49 := Tryz.zeroValue158
  t51 := Tryz.underlying128
  a51 := Tryz.isAgg128
  z51 := Tryz.sizeOf128
  v51 := Tryz.zeroValue128
  t119 := Tryz.underlying145
  a119 := Tryz.isAgg145
  z119 := Tryz.sizeOf145
  t141 := Tryz.underlying147
  a141 := Tryz.isAgg147
  z141 := Tryz.sizeOf147
  v141 := Tryz.zeroValue147
  t193 := Tryz.underlying154
  a193 := Tryz.isAgg154
  z193 := Tryz.sizeOf154
  v193 := Tryz.zeroValue154
  t194 := Tryz.underlying155
  a194 := Tryz.isAgg155
  z194 := Tryz.sizeOf155
  v194 := Tryz.zeroValue155
  t196 := Tryz.underlying157
  a196 := Tryz.isAgg157
  z196 := Tryz.sizeOf157
  v196 := Tryz.zeroValue157
  t198 := Tryz.underlying160
  a198 := Tryz.isAgg160
  z198 := Tryz.sizeOf160
  v198 := Tryz.zeroValue160
  t201 := Tryz.underlying163
  a201 := Tryz.isAgg163
  z201 := Tryz.sizeOf163
  v201 := Tryz.zeroValue163
  t226 := Tryz.underlying169
  a226 := Tryz.isAgg169
  z226 := Tryz.sizeOf169
  v226 := Tryz.zeroValue169
  t227 := Tryz.underlying170
  a227 := Tryz.isAgg170
  z227 := Tryz.sizeOf170
  v227 := Tryz.zeroValue170
  g7 := by kernel_rfl
  g8 := by kernel_rfl
  i0 := by kernel_rfl
  i3 := by kernel_rfl
  i4 := by kernel_rfl
  i5 := by kernel_rfl
  i21 := by kernel_rfl
  i46 := by kernel_rfl
  i49 := by kernel_rfl
  i51 := by kernel_rfl
  i141 := by kernel_rfl
  i193 := by kernel_rfl
  i194 := by kernel_rfl
  i196 := by kernel_rfl
  i198 := by kernel_rfl
  i201 := by kernel_rfl
  i226 := by kernel_rfl
  i227 := by kernel_rfl
  m7 := by kernel_rfl
  m8 := by kernel_rfl }
open Go.RowKit Go.Lib in
theorem Tryz.unicode_IsLetter_laid (c : Nat) (w : World) (hc : c < 256) (htab : Lib.TabIs Tryz.prog w "unicode.properties" .u8 Lib.propertiesTab) :
    Calls Tryz.prog 131 #[.int .i32 c] w fun e w' => e = .returned (.bool (Lib.isLetterL c)) ∧ w' = w := Any.unicode_IsLetter_laid Tryz.laysM200 c w hc htab
def Tryz.lays197_ren : Go.Shelf.Ren := ⟨fun | 197 => 127 | 260 => 134 | n => n, fun | 9 => 9 | 21 => 21 | 3 => 3 | 4 => 4 | 5 => 5 | 105 => 138 | 119 => 145 | 0 => 0 | 46 => 115 | 139 => 150 | 138 => 149 | n => n, fun | 3 => 6 | 4 => 7 | n => n⟩
theorem Tryz.lays197 : Go.Proofs.Lays.n197 Tryz.prog Tryz.lays197_ren := {
  mixed := by kernel_rfl
  f197 := Tryz.func127.trans (congrArg some (by kernel_rfl))
  f260 := Tryz.func134.trans (congrArg some (by kernel_rfl))
  t0 := Tryz.underlying0
  a0 := Tryz.isAgg0
  z0 := Tryz.sizeOf0
  v0 := Tryz.zeroValue0
  t3 := Tryz.underlying3
  a3 := Tryz.isAgg3
  z3 := Tryz.sizeOf3
  v3 := Tryz.zeroValue3
  t4 := Tryz.underlying4
  a4 := Tryz.isAgg4
  z4 := Tryz.sizeOf4
  v4 := Tryz.zeroValue4
  t5 := Tryz.underlying5
  a5 := Tryz.isAgg5
  z5 := Tryz.sizeOf5
  v5 := Tryz.zeroValue5
  t9 := Tryz.underlying9
  a9 := Tryz.isAgg9
  z9 := Tryz.sizeOf9
  v9 := Tryz.zeroValue9
  t21 := Tryz.underlying21
  a21 := Tryz.isAgg21
  z21 := Tryz.sizeOf21
  v21 := Tryz.zeroValue21
  t46 := Tryz.underlying115
  a46 := Tryz.isAgg115
  z46 := Tryz.sizeOf115
  v46 := Tryz.zeroValue115
  t105 := Tryz.underlying138
  a105 := Tryz.isAgg138
  z105 := Tryz.sizeOf138
  v105 := Tryz.zeroValue138
  t119 := Tryz.underlying145
  a119 := Tryz.isAgg145
  z119 := Tryz.sizeOf145
  t138 := Tryz.underlying149
  a138 := Tryz.isAgg149
  z138 := Tryz.sizeOf149
  v138 := Tryz.zeroValue149
  t139 := Tryz.underlying150
  a139 := Tryz.isAgg150
  z139 := Tryz.sizeOf150
  v139 := Tryz.zeroValue150
  g3 := by kernel_rfl
  g4 := by kernel_rfl }
open Go.RowKit Go.Lib in
theorem Tryz.utf8_DecodeRuneInString_ascii (s : ByteArray) (x : UInt8) (w : World) (h0 : s.data.toList[0]? = some x) (hx : x.toNat < 128) :
    Calls Tryz.prog 127 #[.string s] w fun e w' => e = .returned (.tuple #[.int .i32 x.toNat, .int .i64 1]) ∧ w' = w := Any.utf8_DecodeRuneInString_ascii Tryz.lays197 s x w h0 hx
open Go.RowKit Go.Lib in
theorem Tryz.utf8_RuneCountInString_ascii (s : ByteArray) (w : World) (hs : s.size < 4294967281) (hascii : ∀ (j : Nat) b, s.data.toList[j]? = some b → b.toNat < 128) :
    Calls Tryz.prog 81 #[.string s] w fun e w' => e = .returned (.int .i64 s.size) ∧ w' = w.iter s s.size := Any.utf8_RuneCountInString_ascii Tryz.lays195 s w hs hascii
def Tryz.lays264_ren : Go.Shelf.Ren := ⟨fun | 264 => 115 | n => n, fun | 53 => 131 | 46 => 115 | n => n, fun | n => n⟩
theorem Tryz.lays264 : Go.Proofs.Lays.n264 Tryz.prog Tryz.lays264_ren := {
  mixed := by kernel_rfl
  f264 := Tryz.func115.trans (congrArg some (by kernel_rfl))
  t46 := Tryz.underlying115
  a46 := Tryz.isAgg115
  z46 := Tryz.sizeOf115
  v46 := Tryz.zeroValue115
  t53 := Tryz.underlying131
  a53 := Tryz.isAgg131
  z53 := Tryz.sizeOf131
  v53 := Tryz.zeroValue131 }
open Go.RowKit Go.Lib in
theorem Tryz.bits_Mul64 (x y : Nat) (hx : x < 18446744073709551616) (hy : y < 18446744073709551616) (w : World) :
    Calls Tryz.prog 115 #[.int .u64 x, .int .u64 y] w fun e w' => e = .returned (.tuple #[.int .u64 ((x * y / 18446744073709551616 : Nat) : Int), .int .u64 ((x * y % 18446744073709551616 : Nat) : Int)]) ∧ w' = w := Any.bits_Mul64 Tryz.lays264 x y hx hy w
def Tryz.lays212_ren : Go.Shelf.Ren := ⟨fun | 212 => 98 | 263 => 114 | 264 => 115 | n => n, fun | 46 => 115 | 51 => 128 | 146 => 129 | 53 => 131 | 148 => 132 | n => n, fun | n => n⟩
theorem Tryz.lays212 : Go.Proofs.Lays.n212 Tryz.prog Tryz.lays212_ren := {
  mixed := by kernel_rfl
  f212 := Tryz.func98.trans (congrArg some (by kernel_rfl))
  f263 := Tryz.func114.trans (congrArg some (by kernel_rfl))
  f264 := Tryz.func115.trans (congrArg some (by kernel_rfl))
  t46 := Tryz.underlying115
  a46 := Tryz.isAgg115
  z46 := Tryz.sizeOf115
  v46 := Tryz.zeroValue115
  t51 := Tryz.underlying128
  a51 := Tryz.isAgg128
  z51 := Tryz.sizeOf128
  v51 := Tryz.zeroValue128
  t53 := Tryz.underlying131
  a53 := Tryz.isAgg131
  z53 := Tryz.sizeOf131
  v53 := Tryz.zeroValue131
  t146 := Tryz.underlying129
  a146 := Tryz.isAgg129
  z146 := Tryz.sizeOf129
  v146 := Tryz.zeroValue129
  t148 := Tryz.underlying132
  a148 := Tryz.isAgg132
  z148 := Tryz.sizeOf132
  v148 := Tryz.zeroValue132 }
open Go.RowKit Go.Lib in
theorem Tryz.bits_Mul (x y : Nat) (hx : x < 18446744073709551616) (hy : y < 18446744073709551616) (w : World) :
    Calls Tryz.prog 98 #[.int .u64 x, .int .u64 y] w fun e w' => e = .returned (.tuple #[.int .u64 ((x * y / 18446744073709551616 : Nat) : Int), .int .u64 ((x * y % 18446744073709551616 : Nat) : Int)]) ∧ w' = w := Any.bits_Mul Tryz.lays212 x y hx hy w
def Tryz.lays105_ren : Go.Shelf.Ren := ⟨fun | 105 => 80 | 212 => 98 | 99 => 99 | 165 => 68 | 166 => 91 | 170 => 100 | 169 => 92 | 263 => 114 | 264 => 115 | 206 => 116 | 240 => 82 | 241 => 83 | 276 => 101 | 277 => 102 | n => n, fun | 9 => 9 | 3 => 3 | 4 => 4 | 20 => 20 | 0 => 0 | 46 => 115 | 109 => 116 | 5 => 5 | 72 => 86 | 76 => 103 | 51 => 128 | 146 => 129 | 53 => 131 | 148 => 132 | 70 => 84 | 37 => 75 | 75 => 102 | 127 => 124 | 164 => 118 | 80 => 66 | n => n, fun | n => n⟩
theorem Tryz.lays105 : Go.Proofs.Lays.n105 Tryz.prog Tryz.lays105_ren := {
  mixed := by kernel_rfl
  f99 := Tryz.func99.trans (congrArg some (by kernel_rfl))
  f105 := Tryz.func80.trans (congrArg some (by kernel_rfl))
  f165 := Tryz.func68.trans (congrArg some (by kernel_rfl))
  f166 := Tryz.func91.trans (congrArg some (by kernel_rfl))
  f169 := Tryz.func92.trans (congrArg some (by kernel_rfl))
  f170 := Tryz.func100.trans (congrArg some (by kernel_rfl))
  f206 := Tryz.func116.trans (congrArg some (by kernel_rfl))
  f212 := Tryz.func98.trans (congrArg some (by kernel_rfl))
  f240 := Tryz.func82.trans (congrArg some (by kernel_rfl))
  f241 := Tryz.func83.trans (congrArg some (by kernel_rfl))
  f263 := Tryz.func114.trans (congrArg some (by kernel_rfl))
  f264 := Tryz.func115.trans (congrArg some (by kernel_rfl))
  f276 := Tryz.func101.trans (congrArg some (by kernel_rfl))
  f277 := Tryz.func102.trans (congrArg some (by kernel_rfl))
  t0 := Tryz.underlying0
  a0 := Tryz.isAgg0
  z0 := Tryz.sizeOf0
  v0 := Tryz.zeroValue0
  t3 := Tryz.underlying3
  a3 := Tryz.isAgg3
  z3 := Tryz.sizeOf3
  v3 := Tryz.zeroValue3
  t4 := Tryz.underlying4
  a4 := Tryz.isAgg4
  z4 := Tryz.sizeOf4
  v4 := Tryz.zeroValue4
  t5 := Tryz.underlying5
  a5 := Tryz.isAgg5
  z5 := Tryz.sizeOf5
  v5 := Tryz.zeroValue5
  t9 := Tryz.underlying9
  a9 := Tryz.isAgg9
  z9 := Tryz.sizeOf9
  v9 := Tryz.zeroValue9
  t20 := Tryz.underlying20
  a20 := Tryz.isAgg20
  z20 := Tryz.sizeOf20
  v20 := Tryz.zeroValue20
  t37 := Tryz.underlying75
  a37 := Tryz.isAgg75
  z37 := Tryz.sizeOf75
  v37 := Tryz.zeroValue75
  t46 := Tryz.underlying115
  a46 := Tryz.isAgg115
  z46 := Tryz.sizeOf115
  v46 := Tryz.zeroValue115
  t51 := Tryz.underlying128
  a51 := Tryz.isAgg128
  z51 := Tryz.sizeOf128
  v51 := Tryz.zeroValue128
  t53 := Tryz.underlying131
  a53 := Tryz.isAgg131
  z53 := Tryz.sizeOf131
  v53 := Tryz.zeroValue131
  t70 := Tryz.underlying84
  a70 := Tryz.isAgg84
  z70 := Tryz.sizeOf84
  v70 := Tryz.zeroValue84
  t72 := Tryz.underlying86
  a72 := Tryz.isAgg86
  z72 := Tryz.sizeOf86
  v72 := Tryz.zeroValue86
  t75 := Tryz.underlying102
  a75 := Tryz.isAgg102
  z75 := Tryz.sizeOf102
  v75 := Tryz.zeroValue102
  t76 := Tryz.underlying103
  a76 := Tryz.isAgg103
  z76 := Tryz.sizeOf103
  v76 := Tryz.zeroValue103
  t109 := Tryz.underlying116
  a109 := Tryz.isAgg116
  z109 := Tryz.sizeOf116
  v109 := Tryz.zeroValue116
  t127 := Tryz.underlying124
  a127 := Tryz.isAgg124
  z127 := Tryz.sizeOf124
  v127 := Tryz.zeroValue124
  t146 := Tryz.underlying129
  a146 := Tryz.isAgg129
  z146 := Tryz.sizeOf129
  v146 := Tryz.zeroValue129
  t148 := Tryz.underlying132
  a148 := Tryz.isAgg132
  z148 := Tryz.sizeOf132
  v148 := Tryz.zeroValue132
  t164 := Tryz.underlying118
  a164 := Tryz.isAgg118
  z164 := Tryz.sizeOf118
  v164 := Tryz.zeroValue118 }
theorem Tryz.Builder_Extra_105 : Builder.Extra Tryz.prog Tryz.lays105_ren := {
  sizeBuilder := by kernel_rfl
  liesBuilder := by kernel_rfl
  t5 := Tryz.underlying5
  a5 := Tryz.isAgg5
  z5 := Tryz.sizeOf5
  v5 := Tryz.zeroValue5
  infoByte := by kernel_rfl
  cellsByte := by kernel_rfl
  sizeByte := by kernel_rfl
  neB5 := by decide }
open Go.RowKit Go.Lib in
theorem Tryz.strings_Repeat_main (s : ByteArray) (c : Nat) (w : World) (hc2 : 2 ≤ c) (hc : c ≤ 9223372036854775807) (hlen : s.size * c ≤ 140737488355328) (h0 : 0 < s.size) :
    Calls Tryz.prog 80 #[.string s, .int .i64 c] w fun e w' => e = .returned (.string ⟨(Lib.repeatL s.data.toList c).toArray⟩) ∧ Below w.heap.size w w' := Any.strings_Repeat_main Tryz.lays105 Tryz.Builder_Extra_105 s c w hc2 hc hlen h0
open Go.RowKit Go.Lib in
theorem Tryz.strings_Repeat_zero (s : ByteArray) (w : World) :
    Calls Tryz.prog 80 #[.string s, .int .i64 0] w fun e w' => e = .returned (.string ⟨#[]⟩) ∧ w' = w := Any.strings_Repeat_zero Tryz.lays105 s w
open Go.RowKit Go.Lib in
theorem Tryz.strings_Repeat_one (s : ByteArray) (w : World) :
    Calls Tryz.prog 80 #[.string s, .int .i64 1] w fun e w' => e = .returned (.string s) ∧ w' = w := Any.strings_Repeat_one Tryz.lays105 s w
open Go.RowKit Go.Lib in
theorem Tryz.strings_Repeat_empty (s : ByteArray) (c : Nat) (w : World) (hc2 : 2 ≤ c) (hc : c ≤ 9223372036854775807) (h0 : s.size = 0) :
    Calls Tryz.prog 80 #[.string s, .int .i64 c] w fun e w' => e = .returned (.string ⟨#[]⟩) ∧ w' = w := Any.strings_Repeat_empty Tryz.lays105 s c w hc2 hc h0
open Go.RowKit Go.Lib in
theorem Tryz.strings_Repeat_negative (s : ByteArray) (c : Int) (w : World) (hc : c < 0) :
    Calls Tryz.prog 80 #[.string s, .int .i64 c] w fun e w' => e = .panicked [{ v := repeatPanic Tryz.lays105_ren "strings: negative Repeat count", recovered := false }] ∧ w' = w := Any.strings_Repeat_negative Tryz.lays105 s c w hc
open Go.RowKit Go.Lib in
theorem Tryz.strings_Repeat_overflow (s : ByteArray) (c : Nat) (w : World) (hc : c ≤ 9223372036854775807) (hs : s.size ≤ 9223372036854775807) (hbig : 9223372036854775807 < s.size * c) :
    Calls Tryz.prog 80 #[.string s, .int .i64 c] w fun e w' => e = .panicked [{ v := repeatPanic Tryz.lays105_ren "strings: Repeat output length overflow", recovered := false }] ∧ w' = w := Any.strings_Repeat_overflow Tryz.lays105 s c w hc hs hbig
open Go.RowKit Go.Lib in
theorem Tryz.strings_Repeat (s : ByteArray) (c : Nat) (w : World) (hc : c ≤ 9223372036854775807) (hlen : s.size * c ≤ 140737488355328) :
    Calls Tryz.prog 80 #[.string s, .int .i64 c] w fun e w' => e = .returned (.string ⟨(Lib.repeatL s.data.toList c).toArray⟩) ∧ Below w.heap.size w w' := Any.strings_Repeat Tryz.lays105 Tryz.Builder_Extra_105 s c w hc hlen
def Tryz.lays260_ren : Go.Shelf.Ren := ⟨fun | 260 => 134 | n => n, fun | 9 => 9 | 21 => 21 | 3 => 3 | 4 => 4 | 5 => 5 | 119 => 145 | 0 => 0 | 46 => 115 | 139 => 150 | 138 => 149 | n => n, fun | 3 => 6 | 4 => 7 | n => n⟩
theorem Tryz.lays260 : Go.Proofs.Lays.n260 Tryz.prog Tryz.lays260_ren := {
  mixed := by kernel_rfl
  f260 := Tryz.func134.trans (congrArg some (by kernel_rfl))
  t0 := Tryz.underlying0
  a0 := Tryz.isAgg0
  z0 := Tryz.sizeOf0
  v0 := Tryz.zeroValue0
  t3 := Tryz.underlying3
  a3 := Tryz.isAgg3
  z3 := Tryz.sizeOf3
  v3 := Tryz.zeroValue3
  t4 := Tryz.underlying4
  a4 := Tryz.isAgg4
  z4 := Tryz.sizeOf4
  v4 := Tryz.zeroValue4
  t5 := Tryz.underlying5
  a5 := Tryz.isAgg5
  z5 := Tryz.sizeOf5
  v5 := Tryz.zeroValue5
  t9 := Tryz.underlying9
  a9 := Tryz.isAgg9
  z9 := Tryz.sizeOf9
  v9 := Tryz.zeroValue9
  t21 := Tryz.underlying21
  a21 := Tryz.isAgg21
  z21 := Tryz.sizeOf21
  v21 := Tryz.zeroValue21
  t46 := Tryz.underlying115
  a46 := Tryz.isAgg115
  z46 := Tryz.sizeOf115
  v46 := Tryz.zeroValue115
  t119 := Tryz.underlying145
  a119 := Tryz.isAgg145
  z119 := Tryz.sizeOf145
  t138 := Tryz.underlying149
  a138 := Tryz.isAgg149
  z138 := Tryz.sizeOf149
  v138 := Tryz.zeroValue149
  t139 := Tryz.underlying150
  a139 := Tryz.isAgg150
  z139 := Tryz.sizeOf150
  v139 := Tryz.zeroValue150
  g3 := by kernel_rfl
  g4 := by kernel_rfl }
open Go.RowKit Go.Lib in
theorem Tryz.utf8_decodeRuneInStringSlow (s : ByteArray) (w : World) (hT : Lib.Utf8Tabs 6 7 w) :
    Calls Tryz.prog 134 #[.string s] w fun e w' => e = .returned (.tuple #[.int .i32 (Lib.decodeGo s).1, .int .i64 (Lib.decodeGo s).2]) ∧ Below w.heap.size w w' := Any.utf8_decodeRuneInStringSlow Tryz.lays260 s w hT
open Go.RowKit Go.Lib in
theorem Tryz.utf8_DecodeRuneInString (s : ByteArray) (w : World) (hT : Lib.Utf8Tabs 6 7 w) :
    Calls Tryz.prog 127 #[.string s] w fun e w' => e = .returned (.tuple #[.int .i32 (Lib.decodeGo s).1, .int .i64 (Lib.decodeGo s).2]) ∧ Below w.heap.size w w' := Any.utf8_DecodeRuneInString Tryz.lays197 s w hT
def Tryz.lays311_ren : Go.Shelf.Ren := ⟨fun | 311 => 139 | n => n, fun | 193 => 154 | 49 => 158 | 4 => 4 | 3 => 3 | 0 => 0 | 226 => 169 | 198 => 160 | 46 => 115 | n => n, fun | n => n⟩
theorem Tryz.lays311 : Go.Proofs.Lays.n311 Tryz.prog Tryz.lays311_ren := {
  mixed := by kernel_rfl
  f311 := Tryz.func139.trans (congrArg some (by kernel_rfl))
  t0 := Tryz.underlying0
  a0 := Tryz.isAgg0
  z0 := Tryz.sizeOf0
  v0 := Tryz.zeroValue0
  t3 := Tryz.underlying3
  a3 := Tryz.isAgg3
  z3 := Tryz.sizeOf3
  v3 := Tryz.zeroValue3
  t4 := Tryz.underlying4
  a4 := Tryz.isAgg4
  z4 := Tryz.sizeOf4
  v4 := Tryz.zeroValue4
  t46 := Tryz.underlying115
  a46 := Tryz.isAgg115
  z46 := Tryz.sizeOf115
  v46 := Tryz.zeroValue115
  t49 := Tryz.underlying158
  a49 := Tryz.isAgg158
  z49 := Tryz.sizeOf158
  v49 := Tryz.zeroValue158
  t193 := Tryz.underlying154
  a193 := Tryz.isAgg154
  z193 := Tryz.sizeOf154
  v193 := Tryz.zeroValue154
  t198 := Tryz.underlying160
  a198 := Tryz.isAgg160
  z198 := Tryz.sizeOf160
  v198 := Tryz.zeroValue160
  t226 := Tryz.underlying169
  a226 := Tryz.isAgg169
  z226 := Tryz.sizeOf169
  v226 := Tryz.zeroValue169 }
open Go.RowKit Go.Lib in
theorem Tryz.unicode_is16_white (R oR : Nat) (z : Nat) (w : World) (hz : z < 65536) (hz0 : 255 < z) (c6 : w.cell? ⟨R, oR + 6, none⟩ = some (.int .u16 160)) (c7 : w.cell? ⟨R, oR + 7, none⟩ = some (.int .u16 5760)) (c8 : w.cell? ⟨R, oR + 8, none⟩ = some (.int .u16 5600)) (c9 : w.cell? ⟨R, oR + 9, none⟩ = some (.int .u16 8192)) (c10 : w.cell? ⟨R, oR + 10, none⟩ = some (.int .u16 8202)) (c11 : w.cell? ⟨R, oR + 11, none⟩ = some (.int .u16 1)) (c12 : w.cell? ⟨R, oR + 12, none⟩ = some (.int .u16 8232)) (c13 : w.cell? ⟨R, oR + 13, none⟩ = some (.int .u16 8233)) (c14 : w.cell? ⟨R, oR + 14, none⟩ = some (.int .u16 1)) (c15 : w.cell? ⟨R, oR + 15, none⟩ = some (.int .u16 8239)) (c16 : w.cell? ⟨R, oR + 16, none⟩ = some (.int .u16 8287)) (c17 : w.cell? ⟨R, oR + 17, none⟩ = some (.int .u16 48)) (c18 : w.cell? ⟨R, oR + 18, none⟩ = some (.int .u16 12288)) (c19 : w.cell? ⟨R, oR + 19, none⟩ = some (.int .u16 12288)) (c20 : w.cell? ⟨R, oR + 20, none⟩ = some (.int .u16 1)) :
    Calls Tryz.prog 139 #[.slice (some ⟨R, oR + 6, none⟩) 5 5, .int .u16 z] w fun e w' => e = .returned (.bool (Lib.isSpaceR z)) ∧ Below w.heap.size w w' := Any.unicode_is16_white Tryz.lays311 R oR z w hz hz0 c6 c7 c8 c9 c10 c11 c12 c13 c14 c15 c16 c17 c18 c19 c20
def Tryz.lays261_ren : Go.Shelf.Ren := ⟨fun | 261 => 136 | 311 => 139 | 312 => 140 | n => n, fun | 141 => 147 | 21 => 21 | 4 => 4 | 0 => 0 | 196 => 157 | 193 => 154 | 3 => 3 | 51 => 128 | 198 => 160 | 49 => 158 | 194 => 155 | 201 => 163 | 226 => 169 | 46 => 115 | 227 => 170 | n => n, fun | n => n⟩
theorem Tryz.lays261 : Go.Proofs.Lays.n261 Tryz.prog Tryz.lays261_ren := {
  mixed := by kernel_rfl
  f261 := Tryz.func136.trans (congrArg some (by kernel_rfl))
  f311 := Tryz.func139.trans (congrArg some (by kernel_rfl))
  f312 := Tryz.func140.trans (congrArg some (by kernel_rfl))
  t0 := Tryz.underlying0
  a0 := Tryz.isAgg0
  z0 := Tryz.sizeOf0
  v0 := Tryz.zeroValue0
  t3 := Tryz.underlying3
  a3 := Tryz.isAgg3
  z3 := Tryz.sizeOf3
  v3 := Tryz.zeroValue3
  t4 := Tryz.underlying4
  a4 := Tryz.isAgg4
  z4 := Tryz.sizeOf4
  v4 := Tryz.zeroValue4
  t21 := Tryz.underlying21
  a21 := Tryz.isAgg21
  z21 := Tryz.sizeOf21
  v21 := Tryz.zeroValue21
  t46 := Tryz.underlying115
  a46 := Tryz.isAgg115
  z46 := Tryz.sizeOf115
  v46 := Tryz.zeroValue115
  t49 := Tryz.underlying158
  a49 := Tryz.isAgg158
  z49 := Tryz.sizeOf158
  v49 := Tryz.zeroValue158
  t51 := Tryz.underlying128
  a51 := Tryz.isAgg128
  z51 := Tryz.sizeOf128
  v51 := Tryz.zeroValue128
  t141 := Tryz.underlying147
  a141 := Tryz.isAgg147
  z141 := Tryz.sizeOf147
  v141 := Tryz.zeroValue147
  t193 := Tryz.underlying154
  a193 := Tryz.isAgg154
  z193 := Tryz.sizeOf154
  v193 := Tryz.zeroValue154
  t194 := Tryz.underlying155
  a194 := Tryz.isAgg155
  z194 := Tryz.sizeOf155
  v194 := Tryz.zeroValue155
  t196 := Tryz.underlying157
  a196 := Tryz.isAgg157
  z196 := Tryz.sizeOf157
  v196 := Tryz.zeroValue157
  t198 := Tryz.underlying160
  a198 := Tryz.isAgg160
  z198 := Tryz.sizeOf160
  v198 := Tryz.zeroValue160
  t201 := Tryz.underlying163
  a201 := Tryz.isAgg163
  z201 := Tryz.sizeOf163
  v201 := Tryz.zeroValue163
  t226 := Tryz.underlying169
  a226 := Tryz.isAgg169
  z226 := Tryz.sizeOf169
  v226 := Tryz.zeroValue169
  t227 := Tryz.underlying170
  a227 := Tryz.isAgg170
  z227 := Tryz.sizeOf170
  v227 := Tryz.zeroValue170 }
open Go.RowKit Go.Lib in
theorem Tryz.unicode_isExcludingLatin_white (T oT R oR : Nat) (r : Int) (w : World) (hlo : -2147483648 ≤ r) (hhi : r ≤ 2147483647) (hr : r < 0 ∨ 255 < r) (h2 : w.cell? ⟨T, oT, none⟩ = some (.slice (some ⟨R, oR, none⟩) 7 7)) (h3 : w.cell? ⟨T, oT + 1, none⟩ = some (.slice none 0 0)) (h4 : w.cell? ⟨T, oT + 2, none⟩ = some (.int .i64 2)) (h5 : ∀ i, i < 21 → w.cell? ⟨R, oR + i, none⟩ = some (.int .u16 (whiteT.getD i 0))) :
    Calls Tryz.prog 136 #[.pointer (some ⟨T, oT, none⟩), .int .i32 r] w fun e w' => e = .returned (.bool (Lib.isSpaceZ r)) ∧ Below w.heap.size w w' := Any.unicode_isExcludingLatin_white Tryz.lays261 T oT R oR r w hlo hhi hr h2 h3 h4 h5
open Go.RowKit Go.Lib in
theorem Tryz.unicode_IsSpace_any (r : Int) (w : World) (hlo : -2147483648 ≤ r) (hhi : r ≤ 2147483647) (hW : Lib.WhiteTab 5 w) :
    Calls Tryz.prog 133 #[.int .i32 r] w fun e w' => e = .returned (.bool (Lib.isSpaceZ r)) ∧ Below w.heap.size w w' := Any.unicode_IsSpace_any Tryz.lays199 r w hlo hhi hW
open Go.RowKit Go.Lib in
theorem Tryz.unicode_is16_white_d (R oR : Nat) (z : Nat) (w : World) (hz : z < 65536) (hz0 : 255 < z) (c6 : w.cell? ⟨R, oR + 6, none⟩ = some (.int .u16 160)) (c7 : w.cell? ⟨R, oR + 7, none⟩ = some (.int .u16 5760)) (c8 : w.cell? ⟨R, oR + 8, none⟩ = some (.int .u16 5600)) (c9 : w.cell? ⟨R, oR + 9, none⟩ = some (.int .u16 8192)) (c10 : w.cell? ⟨R, oR + 10, none⟩ = some (.int .u16 8202)) (c11 : w.cell? ⟨R, oR + 11, none⟩ = some (.int .u16 1)) (c12 : w.cell? ⟨R, oR + 12, none⟩ = some (.int .u16 8232)) (c13 : w.cell? ⟨R, oR + 13, none⟩ = some (.int .u16 8233)) (c14 : w.cell? ⟨R, oR + 14, none⟩ = some (.int .u16 1)) (c15 : w.cell? ⟨R, oR + 15, none⟩ = some (.int .u16 8239)) (c16 : w.cell? ⟨R, oR + 16, none⟩ = some (.int .u16 8287)) (c17 : w.cell? ⟨R, oR + 17, none⟩ = some (.int .u16 48)) (c18 : w.cell? ⟨R, oR + 18, none⟩ = some (.int .u16 12288)) (c19 : w.cell? ⟨R, oR + 19, none⟩ = some (.int .u16 12288)) (c20 : w.cell? ⟨R, oR + 20, none⟩ = some (.int .u16 1)) :
    Calls Tryz.prog 139 #[.slice (some ⟨R, oR + 6, none⟩) 5 5, .int .u16 z] w fun e w' => e = .returned (.bool (Lib.isSpaceR z)) ∧ ∃ q, w' = w.drewN q := Any.unicode_is16_white_d Tryz.lays311 R oR z w hz hz0 c6 c7 c8 c9 c10 c11 c12 c13 c14 c15 c16 c17 c18 c19 c20
open Go.RowKit Go.Lib in
theorem Tryz.unicode_isExcludingLatin_white_d (T oT R oR : Nat) (r : Int) (w : World) (hlo : -2147483648 ≤ r) (hhi : r ≤ 2147483647) (hr : r < 0 ∨ 255 < r) (h2 : w.cell? ⟨T, oT, none⟩ = some (.slice (some ⟨R, oR, none⟩) 7 7)) (h3 : w.cell? ⟨T, oT + 1, none⟩ = some (.slice none 0 0)) (h4 : w.cell? ⟨T, oT + 2, none⟩ = some (.int .i64 2)) (h5 : ∀ i, i < 21 → w.cell? ⟨R, oR + i, none⟩ = some (.int .u16 (whiteT.getD i 0))) :
    Calls Tryz.prog 136 #[.pointer (some ⟨T, oT, none⟩), .int .i32 r] w fun e w' => e = .returned (.bool (Lib.isSpaceZ r)) ∧ ∃ q, w' = w.drewN q := Any.unicode_isExcludingLatin_white_d Tryz.lays261 T oT R oR r w hlo hhi hr h2 h3 h4 h5
open Go.RowKit Go.Lib in
theorem Tryz.unicode_IsSpace_any_d (r : Int) (w : World) (hlo : -2147483648 ≤ r) (hhi : r ≤ 2147483647) (hW : Lib.WhiteTab 5 w) :
    Calls Tryz.prog 133 #[.int .i32 r] w fun e w' => e = .returned (.bool (Lib.isSpaceZ r)) ∧ ∃ q, w' = w.drewN q := Any.unicode_IsSpace_any_d Tryz.lays199 r w hlo hhi hW
def Tryz.lays274_ren : Go.Shelf.Ren := ⟨fun | 274 => 137 | n => n, fun | 21 => 21 | 162 => 144 | 160 => 151 | 3 => 3 | 4 => 4 | 46 => 115 | 0 => 0 | 208 => 168 | 51 => 128 | 206 => 166 | n => n, fun | n => n⟩
theorem Tryz.lays274 : Go.Proofs.Lays.n274 Tryz.prog Tryz.lays274_ren := {
  mixed := by kernel_rfl
  f274 := Tryz.func137.trans (congrArg some (by kernel_rfl))
  t0 := Tryz.underlying0
  a0 := Tryz.isAgg0
  z0 := Tryz.sizeOf0
  v0 := Tryz.zeroValue0
  t3 := Tryz.underlying3
  a3 := Tryz.isAgg3
  z3 := Tryz.sizeOf3
  v3 := Tryz.zeroValue3
  t4 := Tryz.underlying4
  a4 := Tryz.isAgg4
  z4 := Tryz.sizeOf4
  v4 := Tryz.zeroValue4
  t21 := Tryz.underlying21
  a21 := Tryz.isAgg21
  z21 := Tryz.sizeOf21
  v21 := Tryz.zeroValue21
  t46 := Tryz.underlying115
  a46 := Tryz.isAgg115
  z46 := Tryz.sizeOf115
  v46 := Tryz.zeroValue115
  t51 := Tryz.underlying128
  a51 := Tryz.isAgg128
  z51 := Tryz.sizeOf128
  v51 := Tryz.zeroValue128
  t160 := Tryz.underlying151
  a160 := Tryz.isAgg151
  z160 := Tryz.sizeOf151
  v160 := Tryz.zeroValue151
  t162 := Tryz.underlying144
  a162 := Tryz.isAgg144
  z162 := Tryz.sizeOf144
  v162 := Tryz.zeroValue144
  t208 := Tryz.underlying168
  a208 := Tryz.isAgg168
  z208 := Tryz.sizeOf168
  v208 := Tryz.zeroValue168 }
open Go.RowKit Go.Lib in
theorem Tryz.unicode_lookupCaseRange (T : Array CaseRow) (R oR cap : Nat) (r : Int) (w : World) (hT : CaseTab R oR T w) (hok : CaseOk T) (hn : T.size ≤ 1000000000) :
    Calls Tryz.prog 137 #[.int .i32 r, .slice (some ⟨R, oR, none⟩) T.size cap] w fun e w' =>
      e = .returned (match lookupIdx T r (T.size + 1) 0 T.size with | some i => .pointer (some ⟨R, oR + i * 5, none⟩) | none => .pointer none) ∧ w' = w := Any.unicode_lookupCaseRange Tryz.lays274 T R oR cap r w hT hok hn
def Tryz.lays275_ren : Go.Shelf.Ren := ⟨fun | 275 => 138 | n => n, fun | 3 => 3 | 21 => 21 | 160 => 151 | 0 => 0 | 208 => 168 | 206 => 166 | 4 => 4 | 51 => 128 | n => n, fun | n => n⟩
theorem Tryz.lays275 : Go.Proofs.Lays.n275 Tryz.prog Tryz.lays275_ren := {
  mixed := by kernel_rfl
  f275 := Tryz.func138.trans (congrArg some (by kernel_rfl))
  t0 := Tryz.underlying0
  a0 := Tryz.isAgg0
  z0 := Tryz.sizeOf0
  v0 := Tryz.zeroValue0
  t3 := Tryz.underlying3
  a3 := Tryz.isAgg3
  z3 := Tryz.sizeOf3
  v3 := Tryz.zeroValue3
  t4 := Tryz.underlying4
  a4 := Tryz.isAgg4
  z4 := Tryz.sizeOf4
  v4 := Tryz.zeroValue4
  t21 := Tryz.underlying21
  a21 := Tryz.isAgg21
  z21 := Tryz.sizeOf21
  v21 := Tryz.zeroValue21
  t51 := Tryz.underlying128
  a51 := Tryz.isAgg128
  z51 := Tryz.sizeOf128
  v51 := Tryz.zeroValue128
  t160 := Tryz.underlying151
  a160 := Tryz.isAgg151
  z160 := Tryz.sizeOf151
  v160 := Tryz.zeroValue151
  t206 := Tryz.underlying166
  a206 := Tryz.isAgg166
  z206 := Tryz.sizeOf166
  v206 := Tryz.zeroValue166
  t208 := Tryz.underlying168
  a208 := Tryz.isAgg168
  z208 := Tryz.sizeOf168
  v208 := Tryz.zeroValue168 }
open Go.RowKit Go.Lib in
theorem Tryz.unicode_convertCase (c : Nat) (hc : c < 3) (r : Int) (A o : Nat) (x : CaseRow) (w : World) (hlo : (x.1 : Int) ≤ r) (hhi : r ≤ (x.2.1 : Int)) (hH : x.2.1 < 2147483647) (c0 : w.cell? ⟨A, o, none⟩ = some (.int .u32 x.1)) (cD : w.cell? ⟨A, o + 2 + c, none⟩ = some (.int .i32 (x.delta c))) :
    Calls Tryz.prog 138 #[.int .i64 c, .int .i32 r, .pointer (some ⟨A, o, none⟩)] w fun e w' => e = .returned (.int .i32 (wrap32 (convertR c r x))) ∧ ∃ q, w' = w.drewN q := Any.unicode_convertCase Tryz.lays275 c hc r A o x w hlo hhi hH c0 cD
def Tryz.lays313_ren : Go.Shelf.Ren := ⟨fun | 313 => 135 | 274 => 137 | 275 => 138 | n => n, fun | 3 => 3 | 21 => 21 | 162 => 144 | 4 => 4 | 160 => 151 | 46 => 115 | 0 => 0 | 208 => 168 | 51 => 128 | 206 => 166 | n => n, fun | n => n⟩
theorem Tryz.lays313 : Go.Proofs.Lays.n313 Tryz.prog Tryz.lays313_ren := {
  mixed := by kernel_rfl
  f274 := Tryz.func137.trans (congrArg some (by kernel_rfl))
  f275 := Tryz.func138.trans (congrArg some (by kernel_rfl))
  f313 := Tryz.func135.trans (congrArg some (by kernel_rfl))
  t0 := Tryz.underlying0
  a0 := Tryz.isAgg0
  z0 := Tryz.sizeOf0
  v0 := Tryz.zeroValue0
  t3 := Tryz.underlying3
  a3 := Tryz.isAgg3
  z3 := Tryz.sizeOf3
  v3 := Tryz.zeroValue3
  t4 := Tryz.underlying4
  a4 := Tryz.isAgg4
  z4 := Tryz.sizeOf4
  v4 := Tryz.zeroValue4
  t21 := Tryz.underlying21
  a21 := Tryz.isAgg21
  z21 := Tryz.sizeOf21
  v21 := Tryz.zeroValue21
  t46 := Tryz.underlying115
  a46 := Tryz.isAgg115
  z46 := Tryz.sizeOf115
  v46 := Tryz.zeroValue115
  t51 := Tryz.underlying128
  a51 := Tryz.isAgg128
  z51 := Tryz.sizeOf128
  v51 := Tryz.zeroValue128
  t160 := Tryz.underlying151
  a160 := Tryz.isAgg151
  z160 := Tryz.sizeOf151
  v160 := Tryz.zeroValue151
  t162 := Tryz.underlying144
  a162 := Tryz.isAgg144
  z162 := Tryz.sizeOf144
  v162 := Tryz.zeroValue144
  t206 := Tryz.underlying166
  a206 := Tryz.isAgg166
  z206 := Tryz.sizeOf166
  v206 := Tryz.zeroValue166
  t208 := Tryz.underlying168
  a208 := Tryz.isAgg168
  z208 := Tryz.sizeOf168
  v208 := Tryz.zeroValue168 }
open Go.RowKit Go.Lib in
theorem Tryz.unicode_to (c : Nat) (hc : c < 3) (r : Int) (T : Array CaseRow) (R oR cap : Nat) (w : World) (hT : CaseTab R oR T w) (hok : CaseOk2 T) (hn : T.size ≤ 1000000000) :
    Calls Tryz.prog 135 #[.int .i64 c, .int .i32 r, .slice (some ⟨R, oR, none⟩) T.size cap] w fun e w' => e = .returned (.tuple #[.int .i32 (toW T c r), .bool (lookupIdx T r (T.size + 1) 0 T.size).isSome]) ∧ ∃ q, w' = w.drewN q := Any.unicode_to Tryz.lays313 c hc r T R oR cap w hT hok hn
def Tryz.lays262_ren : Go.Shelf.Ren := ⟨fun | 262 => 130 | 313 => 135 | 274 => 137 | 275 => 138 | n => n, fun | 3 => 3 | 21 => 21 | 162 => 144 | 203 => 142 | 4 => 4 | 160 => 151 | 46 => 115 | 0 => 0 | 208 => 168 | 51 => 128 | 206 => 166 | n => n, fun | 13 => 1 | n => n⟩
theorem Tryz.lays262 : Go.Proofs.Lays.n262 Tryz.prog Tryz.lays262_ren := {
  mixed := by kernel_rfl
  f262 := Tryz.func130.trans (congrArg some (by kernel_rfl))
  f274 := Tryz.func137.trans (congrArg some (by kernel_rfl))
  f275 := Tryz.func138.trans (congrArg some (by kernel_rfl))
  f313 := Tryz.func135.trans (congrArg some (by kernel_rfl))
  t0 := Tryz.underlying0
  a0 := Tryz.isAgg0
  z0 := Tryz.sizeOf0
  v0 := Tryz.zeroValue0
  t3 := Tryz.underlying3
  a3 := Tryz.isAgg3
  z3 := Tryz.sizeOf3
  v3 := Tryz.zeroValue3
  t4 := Tryz.underlying4
  a4 := Tryz.isAgg4
  z4 := Tryz.sizeOf4
  v4 := Tryz.zeroValue4
  t21 := Tryz.underlying21
  a21 := Tryz.isAgg21
  z21 := Tryz.sizeOf21
  v21 := Tryz.zeroValue21
  t46 := Tryz.underlying115
  a46 := Tryz.isAgg115
  z46 := Tryz.sizeOf115
  v46 := Tryz.zeroValue115
  t51 := Tryz.underlying128
  a51 := Tryz.isAgg128
  z51 := Tryz.sizeOf128
  v51 := Tryz.zeroValue128
  t160 := Tryz.underlying151
  a160 := Tryz.isAgg151
  z160 := Tryz.sizeOf151
  v160 := Tryz.zeroValue151
  t162 := Tryz.underlying144
  a162 := Tryz.isAgg144
  z162 := Tryz.sizeOf144
  v162 := Tryz.zeroValue144
  t203 := Tryz.underlying142
  a203 := Tryz.isAgg142
  z203 := Tryz.sizeOf142
  v203 := Tryz.zeroValue142
  t206 := Tryz.underlying166
  a206 := Tryz.isAgg166
  z206 := Tryz.sizeOf166
  v206 := Tryz.zeroValue166
  t208 := Tryz.underlying168
  a208 := Tryz.isAgg168
  z208 := Tryz.sizeOf168
  v208 := Tryz.zeroValue168
  g13 := by kernel_rfl }
open Go.RowKit Go.Lib in
theorem Tryz.unicode_To (c : Nat) (hc : c < 3) (r : Int) (T : Array CaseRow) (w : World) (hV : CaseVar 1 T w) (hok : CaseOk2 T) (hn : T.size ≤ 1000000000) :
    Calls Tryz.prog 130 #[.int .i64 c, .int .i32 r] w fun e w' => e = .returned (.int .i32 (toW T c r)) ∧ ∃ q, w' = w.drewN q := Any.unicode_To Tryz.lays262 c hc r T w hV hok hn
open Go.RowKit Go.Lib in
theorem Tryz.unicode_ToLower_any (r : Int) (T : Array CaseRow) (w : World) (hV : CaseVar 1 T w) (hok : CaseOk2 T) (hn : T.size ≤ 1000000000) :
    Calls Tryz.prog 120 #[.int .i32 r] w fun e w' => e = .returned (.int .i32 (Lib.toLowerW T r)) ∧ ∃ q, w' = w.drewN q := Any.unicode_ToLower_any Tryz.lays204 r T w hV hok hn
open Go.RowKit Go.Lib in
theorem Tryz.unicode_ToUpper_any (r : Int) (T : Array CaseRow) (w : World) (hV : CaseVar 1 T w) (hok : CaseOk2 T) (hn : T.size ≤ 1000000000) :
    Calls Tryz.prog 123 #[.int .i32 r] w fun e w' => e = .returned (.int .i32 (Lib.toUpperW T r)) ∧ ∃ q, w' = w.drewN q := Any.unicode_ToUpper_any Tryz.lays203 r T w hV hok hn
open Go.RowKit Go.Lib in
theorem Tryz.unicode_ToLower_laid (r : Int) (w : World) (hV : CaseVar 1 caseA w) :
    Calls Tryz.prog 120 #[.int .i32 r] w fun e w' => e = .returned (.int .i32 (toLowerU r)) ∧ ∃ q, w' = w.drewN q := Any.unicode_ToLower_laid Tryz.lays204 r w hV
open Go.RowKit Go.Lib in
theorem Tryz.unicode_ToUpper_laid (r : Int) (w : World) (hV : CaseVar 1 caseA w) :
    Calls Tryz.prog 123 #[.int .i32 r] w fun e w' => e = .returned (.int .i32 (toUpperU r)) ∧ ∃ q, w' = w.drewN q := Any.unicode_ToUpper_laid Tryz.lays203 r w hV
def Tryz.lays270_ren : Go.Shelf.Ren := ⟨fun | 270 => 129 | n => n, fun | 70 => 84 | 3 => 3 | 0 => 0 | 72 => 86 | 37 => 75 | 5 => 5 | n => n, fun | n => n⟩
theorem Tryz.lays270 : Go.Proofs.Lays.n270 Tryz.prog Tryz.lays270_ren := {
  mixed := by kernel_rfl
  f270 := Tryz.func129.trans (congrArg some (by kernel_rfl))
  t0 := Tryz.underlying0
  a0 := Tryz.isAgg0
  z0 := Tryz.sizeOf0
  v0 := Tryz.zeroValue0
  t3 := Tryz.underlying3
  a3 := Tryz.isAgg3
  z3 := Tryz.sizeOf3
  v3 := Tryz.zeroValue3
  t37 := Tryz.underlying75
  a37 := Tryz.isAgg75
  z37 := Tryz.sizeOf75
  v37 := Tryz.zeroValue75
  t70 := Tryz.underlying84
  a70 := Tryz.isAgg84
  z70 := Tryz.sizeOf84
  v70 := Tryz.zeroValue84
  t72 := Tryz.underlying86
  a72 := Tryz.isAgg86
  z72 := Tryz.sizeOf86
  v72 := Tryz.zeroValue86 }
open Go.RowKit Go.Lib in
theorem Tryz.Builder_Cap_cell (b : Nat) (p : Option Addr) (n cap : Nat) (w : World) (c1 : w.cell? ⟨b, 1, none⟩ = some (.slice p n cap)) :
    Calls Tryz.prog 129 #[.pointer (some ⟨b, 0, none⟩)] w fun e w' => e = .returned (.int .i64 cap) ∧ w' = w := Any.Builder_Cap_cell Tryz.lays270 b p n cap w c1
def Tryz.lays230_ren : Go.Shelf.Ren := ⟨fun | 230 => 119 | 197 => 127 | 118 => 128 | 165 => 68 | 166 => 91 | 168 => 84 | 270 => 129 | 167 => 118 | 169 => 92 | 260 => 134 | 240 => 82 | 241 => 83 | 242 => 103 | 276 => 101 | 277 => 102 | 278 => 117 | n => n, fun | 107 => 136 | 9 => 9 | 72 => 86 | 0 => 0 | 4 => 4 | 3 => 3 | 21 => 21 | 105 => 138 | 76 => 103 | 5 => 5 | 75 => 102 | 70 => 84 | 20 => 20 | 37 => 75 | 127 => 124 | 119 => 145 | 46 => 115 | 139 => 150 | 138 => 149 | 164 => 118 | 51 => 128 | 80 => 66 | n => n, fun | 3 => 6 | 4 => 7 | n => n⟩
theorem Tryz.lays230 : Go.Proofs.Lays.n230 Tryz.prog Tryz.lays230_ren := {
  mixed := by kernel_rfl
  f118 := Tryz.func128.trans (congrArg some (by kernel_rfl))
  f165 := Tryz.func68.trans (congrArg some (by kernel_rfl))
  f166 := Tryz.func91.trans (congrArg some (by kernel_rfl))
  f167 := Tryz.func118.trans (congrArg some (by kernel_rfl))
  f168 := Tryz.func84.trans (congrArg some (by kernel_rfl))
  f169 := Tryz.func92.trans (congrArg some (by kernel_rfl))
  f197 := Tryz.func127.trans (congrArg some (by kernel_rfl))
  f230 := Tryz.func119.trans (congrArg some (by kernel_rfl))
  f240 := Tryz.func82.trans (congrArg some (by kernel_rfl))
  f241 := Tryz.func83.trans (congrArg some (by kernel_rfl))
  f242 := Tryz.func103.trans (congrArg some (by kernel_rfl))
  f260 := Tryz.func134.trans (congrArg some (by kernel_rfl))
  f270 := Tryz.func129.trans (congrArg some (by kernel_rfl))
  f276 := Tryz.func101.trans (congrArg some (by kernel_rfl))
  f277 := Tryz.func102.trans (congrArg some (by kernel_rfl))
  f278 := Tryz.func117.trans (congrArg some (by kernel_rfl))
  t0 := Tryz.underlying0
  a0 := Tryz.isAgg0
  z0 := Tryz.sizeOf0
  v0 := Tryz.zeroValue0
  t3 := Tryz.underlying3
  a3 := Tryz.isAgg3
  z3 := Tryz.sizeOf3
  v3 := Tryz.zeroValue3
  t4 := Tryz.underlying4
  a4 := Tryz.isAgg4
  z4 := Tryz.sizeOf4
  v4 := Tryz.zeroValue4
  t5 := Tryz.underlying5
  a5 := Tryz.isAgg5
  z5 := Tryz.sizeOf5
  v5 := Tryz.zeroValue5
  t9 := Tryz.underlying9
  a9 := Tryz.isAgg9
  z9 := Tryz.sizeOf9
  v9 := Tryz.zeroValue9
  t20 := Tryz.underlying20
  a20 := Tryz.isAgg20
  z20 := Tryz.sizeOf20
  v20 := Tryz.zeroValue20
  t21 := Tryz.underlying21
  a21 := Tryz.isAgg21
  z21 := Tryz.sizeOf21
  v21 := Tryz.zeroValue21
  t37 := Tryz.underlying75
  a37 := Tryz.isAgg75
  z37 := Tryz.sizeOf75
  v37 := Tryz.zeroValue75
  t46 := Tryz.underlying115
  a46 := Tryz.isAgg115
  z46 := Tryz.sizeOf115
  v46 := Tryz.zeroValue115
  t51 := Tryz.underlying128
  a51 := Tryz.isAgg128
  z51 := Tryz.sizeOf128
  v51 := Tryz.zeroValue128
  t70 := Tryz.underlying84
  a70 := Tryz.isAgg84
  z70 := Tryz.sizeOf84
  v70 := Tryz.zeroValue84
  t72 := Tryz.underlying86
  a72 := Tryz.isAgg86
  z72 := Tryz.sizeOf86
  v72 := Tryz.zeroValue86
  t75 := Tryz.underlying102
  a75 := Tryz.isAgg102
  z75 := Tryz.sizeOf102
  v75 := Tryz.zeroValue102
  t76 := Tryz.underlying103
  a76 := Tryz.isAgg103
  z76 := Tryz.sizeOf103
  v76 := Tryz.zeroValue103
  t105 := Tryz.underlying138
  a105 := Tryz.isAgg138
  z105 := Tryz.sizeOf138
  v105 := Tryz.zeroValue138
  t107 := Tryz.underlying136
  a107 := Tryz.isAgg136
  z107 := Tryz.sizeOf136
  v107 := Tryz.zeroValue136
  t119 := Tryz.underlying145
  a119 := Tryz.isAgg145
  z119 := Tryz.sizeOf145
  t127 := Tryz.underlying124
  a127 := Tryz.isAgg124
  z127 := Tryz.sizeOf124
  v127 := Tryz.zeroValue124
  t138 := Tryz.underlying149
  a138 := Tryz.isAgg149
  z138 := Tryz.sizeOf149
  v138 := Tryz.zeroValue149
  t139 := Tryz.underlying150
  a139 := Tryz.isAgg150
  z139 := Tryz.sizeOf150
  v139 := Tryz.zeroValue150
  t164 := Tryz.underlying118
  a164 := Tryz.isAgg118
  z164 := Tryz.sizeOf118
  v164 := Tryz.zeroValue118
  g3 := by kernel_rfl
  g4 := by kernel_rfl }
theorem Tryz.Builder_Extra_230 : Builder.Extra Tryz.prog Tryz.lays230_ren := {
  sizeBuilder := by kernel_rfl
  liesBuilder := by kernel_rfl
  t5 := Tryz.underlying5
  a5 := Tryz.isAgg5
  z5 := Tryz.sizeOf5
  v5 := Tryz.zeroValue5
  infoByte := by kernel_rfl
  cellsByte := by kernel_rfl
  sizeByte := by kernel_rfl
  neB5 := by decide }
open Go.RowKit Go.Lib in
theorem Tryz.strings_Map_runes (g : Nat) (lb : Array Value) (eg : ∀ args w, (callFunc g args).run Tryz.prog w = .ok (.enter g args) w) (f : Int → Int) (s : ByteArray) (w : World) (hs : s.size < 35184372088832) (hf : MapAtRunes Tryz.prog g lb f w) (hnn : ∀ x : Nat, x ≤ 1114111 → 0 ≤ f x ∧ f x ≤ 2147483647) (hT : Lib.Utf8Tabs 6 7 w) :
    Calls Tryz.prog 119 #[.func (.func g) #[] lb, .string s] w fun e w' => e = .returned (.string ⟨(Lib.mapD f s.data.toList).toArray⟩) ∧ Below w.heap.size w w' := Any.strings_Map_runes Tryz.lays230 Tryz.Builder_Extra_230 g lb eg f s w hs hf hnn hT
open Go.RowKit Go.Lib in
theorem Tryz.strings_ToLower_beyond (s : ByteArray) (w : World) (hs : s.size < 35184372088832) (hhigh : ∃ (j : Nat) (b : UInt8), s.data.toList[j]? = some b ∧ 128 ≤ b.toNat) (hV : CaseVar 1 caseA w) (hT : Lib.Utf8Tabs 6 7 w) :
    Calls Tryz.prog 104 #[.string s] w fun e w' => e = .returned (.string ⟨(Lib.toLowerD s.data.toList).toArray⟩) ∧ Below w.heap.size w w' := Any.strings_ToLower_beyond Tryz.lays159 Tryz.Builder_Extra_159 s w hs hhigh hV hT
open Go.RowKit Go.Lib in
theorem Tryz.strings_ToLower_any (s : ByteArray) (w : World) (hs : s.size < 35184372088832) (hV : CaseVar 1 caseA w) (hT : Lib.Utf8Tabs 6 7 w) :
    Calls Tryz.prog 104 #[.string s] w fun e w' => e = .returned (.string ⟨(Lib.toLowerD s.data.toList).toArray⟩) ∧ Below w.heap.size w w' := Any.strings_ToLower_any Tryz.lays159 Tryz.Builder_Extra_159 s w hs hV hT
open Go.RowKit Go.Lib in
theorem Tryz.unicode_is16_any (T : Array Rg) (R oR cap : Nat) (z : Nat) (w : World) (hz : z < 65536) (hT : RgTab .u16 R oR T w) (hok : RgOk 65536 T) (hn : T.size ≤ 1000000000) :
    Calls Tryz.prog 139 #[.slice (some ⟨R, oR, none⟩) T.size cap, .int .u16 z] w fun e w' => e = .returned (.bool (is16Go T z)) ∧ ∃ q, w' = w.drewN q := Any.unicode_is16_any Tryz.lays311 T R oR cap z w hz hT hok hn
def Tryz.lays312_ren : Go.Shelf.Ren := ⟨fun | 312 => 140 | n => n, fun | 194 => 155 | 51 => 128 | 4 => 4 | 3 => 3 | 0 => 0 | 227 => 170 | 201 => 163 | 46 => 115 | n => n, fun | n => n⟩
theorem Tryz.lays312 : Go.Proofs.Lays.n312 Tryz.prog Tryz.lays312_ren := {
  mixed := by kernel_rfl
  f312 := Tryz.func140.trans (congrArg some (by kernel_rfl))
  t0 := Tryz.underlying0
  a0 := Tryz.isAgg0
  z0 := Tryz.sizeOf0
  v0 := Tryz.zeroValue0
  t3 := Tryz.underlying3
  a3 := Tryz.isAgg3
  z3 := Tryz.sizeOf3
  v3 := Tryz.zeroValue3
  t4 := Tryz.underlying4
  a4 := Tryz.isAgg4
  z4 := Tryz.sizeOf4
  v4 := Tryz.zeroValue4
  t46 := Tryz.underlying115
  a46 := Tryz.isAgg115
  z46 := Tryz.sizeOf115
  v46 := Tryz.zeroValue115
  t51 := Tryz.underlying128
  a51 := Tryz.isAgg128
  z51 := Tryz.sizeOf128
  v51 := Tryz.zeroValue128
  t194 := Tryz.underlying155
  a194 := Tryz.isAgg155
  z194 := Tryz.sizeOf155
  v194 := Tryz.zeroValue155
  t201 := Tryz.underlying163
  a201 := Tryz.isAgg163
  z201 := Tryz.sizeOf163
  v201 := Tryz.zeroValue163
  t227 := Tryz.underlying170
  a227 := Tryz.isAgg170
  z227 := Tryz.sizeOf170
  v227 := Tryz.zeroValue170 }
open Go.RowKit Go.Lib in
theorem Tryz.unicode_is32_any (T : Array Rg) (R oR cap : Nat) (z : Nat) (w : World) (hz : z < 4294967296) (hT : RgTab .u32 R oR T w) (hok : RgOk 4294967296 T) (hn : T.size ≤ 1000000000) :
    Calls Tryz.prog 140 #[.slice (some ⟨R, oR, none⟩) T.size cap, .int .u32 z] w fun e w' => e = .returned (.bool (is32Go T z)) ∧ Below w.heap.size w w' := Any.unicode_is32_any Tryz.lays312 T R oR cap z w hz hT hok hn
open Go.RowKit Go.Lib in
theorem Tryz.unicode_isExcludingLatin_any (Tb oT : Nat) (T : RTab) (r : Int) (w : World) (hlo : -2147483648 ≤ r) (hhi : r ≤ 2147483647) (hA : RTabAt Tb oT T w) (hok : RTabOk T) :
    Calls Tryz.prog 136 #[.pointer (some ⟨Tb, oT, none⟩), .int .i32 r] w fun e w' => e = .returned (.bool (exclGo T r)) ∧ Below w.heap.size w w' := Any.unicode_isExcludingLatin_any Tryz.lays261 Tb oT T r w hlo hhi hA hok
open Go.RowKit Go.Lib in
theorem Tryz.unicode_IsLetter_any (T : RTab) (r : Int) (w : World) (hlo : -2147483648 ≤ r) (hhi : r ≤ 2147483647) (htab : Lib.TabIs Tryz.prog w "unicode.properties" .u8 Lib.propertiesTab) (hV : RVar 3 T w) (hok : RTabOk T) :
    Calls Tryz.prog 131 #[.int .i32 r] w fun e w' => e = .returned (.bool (if latin1 r then isLetterL r else exclGo T r)) ∧ Below w.heap.size w w' := Any.unicode_IsLetter_any Tryz.lays200 (by kernel_rfl) T r w hlo hhi htab hV hok
open Go.RowKit Go.Lib in
theorem Tryz.unicode_IsDigit_any (T : RTab) (r : Int) (w : World) (hlo : -2147483648 ≤ r) (hhi : r ≤ 2147483647) (hV : RVar 4 T w) (hok : RTabOk T) :
    Calls Tryz.prog 132 #[.int .i32 r] w fun e w' => e = .returned (.bool (if r ≤ 255 then isDigitL r else exclGo T r)) ∧ Below w.heap.size w w' := Any.unicode_IsDigit_any Tryz.lays198 T r w hlo hhi hV hok
open Go.RowKit Go.Lib in
theorem Tryz.unicode_IsLetter_all (r : Int) (w : World) (hlo : -2147483648 ≤ r) (hhi : r ≤ 2147483647) (htab : Lib.TabIs Tryz.prog w "unicode.properties" .u8 Lib.propertiesTab) (hV : RVar 3 letterT w) :
    Calls Tryz.prog 131 #[.int .i32 r] w fun e w' => e = .returned (.bool (isLetterU r)) ∧ Below w.heap.size w w' := Any.unicode_IsLetter_all Tryz.lays200 (by kernel_rfl) r w hlo hhi htab hV
open Go.RowKit Go.Lib in
theorem Tryz.unicode_IsDigit_all (r : Int) (w : World) (hlo : -2147483648 ≤ r) (hhi : r ≤ 2147483647) (hV : RVar 4 digitT w) :
    Calls Tryz.prog 132 #[.int .i32 r] w fun e w' => e = .returned (.bool (isDigitU r)) ∧ Below w.heap.size w w' := Any.unicode_IsDigit_all Tryz.lays198 r w hlo hhi hV
open Go.RowKit Go.Lib in
theorem Tryz.strings_Map_grows (g : Nat) (lb : Array Value) (eg : ∀ args w, (callFunc g args).run Tryz.prog w = .ok (.enter g args) w) (f : Int → Int) (s : ByteArray) (w : World) (hs : s.size < 35184372088832) (hf : MapGrows Tryz.prog g lb f w) (hnn : ∀ x : Nat, x ≤ 1114111 → -2147483648 ≤ f x ∧ f x ≤ 2147483647) (hT : Lib.Utf8Tabs 6 7 w) :
    Calls Tryz.prog 119 #[.func (.func g) #[] lb, .string s] w fun e w' => e = .returned (.string ⟨(Lib.mapD f s.data.toList).toArray⟩) ∧ Below w.heap.size w w' := Any.strings_Map_grows Tryz.lays230 Tryz.Builder_Extra_230 g lb eg f s w hs hf hnn hT
end Go.Proofs
