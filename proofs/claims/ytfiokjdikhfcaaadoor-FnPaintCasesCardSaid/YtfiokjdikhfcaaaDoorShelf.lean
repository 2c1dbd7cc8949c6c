import Derived.Shelf.Strings.Builder1
import Derived.Shelf.Strings.Builder2
import Derived.Shelf.Strings.OnBuilder
import Derived.Shelf.Small.Utf8
import Derived.Shelf.Strings.BuilderF
import Derived.Shelf.Strings.BuilderK
import Derived.Shelf.Strings.BuilderRune
import Derived.Shelf.Utf8.AppendRune
import Derived.Shelf.Utf8.AppendRunePlain
import Derived.Shelf.Strings.Builder2Cap
import Derived.Shelf.Strconv.Itoa0
import Derived.Shelf.Strconv.Itoa1
import Derived.Shelf.LaysM
import Derived.Shelf.Strconv.Itoa2
import Derived.Shelf.Strconv.Itoa3
import Derived.Shelf.Unicode.Latin
import Derived.Shelf.Unicode.Props
import Derived.Shelf.Unicode.PropsLaid
import Derived.Shelf.Unicode.Decode
import Derived.Shelf.Unicode.DecodeSlow
import Derived.Shelf.Unicode.DecodeAny
import Derived.Shelf.Unicode.Is16White
import Derived.Shelf.Unicode.IsSpaceAny
import Derived.Shelf.Unicode.Is16WhiteD
import Derived.Shelf.Unicode.IsSpaceAnyD
import Derived.Shelf.Unicode.CaseLookup
import Derived.Shelf.Unicode.CaseConvert
import Derived.Shelf.Unicode.CaseTo
import Derived.Shelf.Unicode.CaseLaid
import Derived.Shelf.Strings.MapAny
import Derived.Shelf.Strings.CaseAny
import Derived.Shelf.Unicode.Is16Any
import Derived.Shelf.Unicode.Is32Any
import Derived.Shelf.Unicode.ExclAny
import Derived.Shelf.Unicode.PredsAny
import Derived.Shelf.Unicode.PredsPay
import Derived.Shelf.Strings.BuilderCap
import Derived.Shelf.Strings.MapGrows
import Derived.Test.YtfiokjdikhfcaaaDoorProg
namespace Go.Proofs
open Go.Shelf
def Tryd.lays169_ren : Go.Shelf.Ren := ⟨fun | 169 => 36 | n => n, fun | 70 => 55 | 9 => 9 | 0 => 0 | 72 => 58 | 37 => 56 | 127 => 68 | 3 => 3 | 5 => 5 | n => n, fun | n => n⟩
theorem Tryd.lays169 : Go.Proofs.Lays.n169 Tryd.prog Tryd.lays169_ren := {
  mixed := by kernel_rfl
  f169 := Tryd.func36.trans (congrArg some (by kernel_rfl))
  t0 := Tryd.underlying0
  a0 := Tryd.isAgg0
  z0 := Tryd.sizeOf0
  v0 := Tryd.zeroValue0
  t3 := Tryd.underlying3
  a3 := Tryd.isAgg3
  z3 := Tryd.sizeOf3
  v3 := Tryd.zeroValue3
  t9 := Tryd.underlying9
  a9 := Tryd.isAgg9
  z9 := Tryd.sizeOf9
  v9 := Tryd.zeroValue9
  t37 := Tryd.underlying56
  a37 := Tryd.isAgg56
  z37 := Tryd.sizeOf56
  v37 := Tryd.zeroValue56
  t70 := Tryd.underlying55
  a70 := Tryd.isAgg55
  z70 := Tryd.sizeOf55
  v70 := Tryd.zeroValue55
  t72 := Tryd.underlying58
  a72 := Tryd.isAgg58
  z72 := Tryd.sizeOf58
  v72 := Tryd.zeroValue58
  t127 := Tryd.underlying68
  a127 := Tryd.isAgg68
  z127 := Tryd.sizeOf68
  v127 := Tryd.zeroValue68 }
theorem Tryd.Builder_Extra_169 : Builder.Extra Tryd.prog Tryd.lays169_ren := {
  sizeBuilder := by kernel_rfl
  liesBuilder := by kernel_rfl
  t5 := Tryd.underlying5
  a5 := Tryd.isAgg5
  z5 := Tryd.sizeOf5
  v5 := Tryd.zeroValue5
  infoByte := by kernel_rfl
  cellsByte := by kernel_rfl
  sizeByte := by kernel_rfl
  neB5 := by decide }
open Go.RowKit in
theorem Tryd.Builder_String (B b : Nat) (l : List UInt8) (w : World) (h : Lib.IsBuilder 58 5 B b (Lib.byteCells l) w) (h0 : l ≠ []) :
    Calls Tryd.prog 36 #[.pointer (some ⟨b, 0, none⟩)] w fun e w' => e = .returned (.string ⟨l.toArray⟩) ∧ Below B w w' := Any.Builder_String Tryd.lays169 Tryd.Builder_Extra_169 B b l w h h0
open Go.RowKit in
theorem Tryd.Builder_String_empty (B b : Nat) (w : World) (h : Lib.IsBuilder 58 5 B b [] w) (hBw : B ≤ w.heap.size) :
    Calls Tryd.prog 36 #[.pointer (some ⟨b, 0, none⟩)] w fun e w' => e = .returned (.string ⟨#[]⟩) ∧ Below B w w' := Any.Builder_String_empty Tryd.lays169 Tryd.Builder_Extra_169 B b w h hBw
open Go.RowKit in
theorem Tryd.Builder_String_any (B b : Nat) (l : List UInt8) (w : World) (h : Lib.IsBuilder 58 5 B b (Lib.byteCells l) w) (hBw : B ≤ w.heap.size) :
    Calls Tryd.prog 36 #[.pointer (some ⟨b, 0, none⟩)] w fun e w' => e = .returned (.string ⟨l.toArray⟩) ∧ Below B w w' := Any.Builder_String_any Tryd.lays169 Tryd.Builder_Extra_169 B b l w h hBw
def Tryd.lays241_ren : Go.Shelf.Ren := ⟨fun | 241 => 47 | 277 => 58 | n => n, fun | 70 => 55 | 3 => 3 | 0 => 0 | 72 => 58 | 37 => 56 | 5 => 5 | n => n, fun | n => n⟩
theorem Tryd.lays241 : Go.Proofs.Lays.n241 Tryd.prog Tryd.lays241_ren := {
  mixed := by kernel_rfl
  f241 := Tryd.func47.trans (congrArg some (by kernel_rfl))
  f277 := Tryd.func58.trans (congrArg some (by kernel_rfl))
  t0 := Tryd.underlying0
  a0 := Tryd.isAgg0
  z0 := Tryd.sizeOf0
  v0 := Tryd.zeroValue0
  t3 := Tryd.underlying3
  a3 := Tryd.isAgg3
  z3 := Tryd.sizeOf3
  v3 := Tryd.zeroValue3
  t37 := Tryd.underlying56
  a37 := Tryd.isAgg56
  z37 := Tryd.sizeOf56
  v37 := Tryd.zeroValue56
  t70 := Tryd.underlying55
  a70 := Tryd.isAgg55
  z70 := Tryd.sizeOf55
  v70 := Tryd.zeroValue55
  t72 := Tryd.underlying58
  a72 := Tryd.isAgg58
  z72 := Tryd.sizeOf58
  v72 := Tryd.zeroValue58 }
theorem Tryd.Builder_Extra_241 : Builder.Extra Tryd.prog Tryd.lays241_ren := {
  sizeBuilder := by kernel_rfl
  liesBuilder := by kernel_rfl
  t5 := Tryd.underlying5
  a5 := Tryd.isAgg5
  z5 := Tryd.sizeOf5
  v5 := Tryd.zeroValue5
  infoByte := by kernel_rfl
  cellsByte := by kernel_rfl
  sizeByte := by kernel_rfl
  neB5 := by decide }
open Go.RowKit in
theorem Tryd.Builder_grow_fresh (B b n : Nat) (w : World) (hB : B ≤ b) (hbk : w.heap[b]? = some (.cells #[.pointer (some ⟨b, 0, none⟩), .slice none 0 0] 58 (0, 0))) (hBw : B ≤ w.heap.size) (hn : n ≤ 281474976710656) :
    Calls Tryd.prog 47 #[.pointer (some ⟨b, 0, none⟩), .int .i64 n] w fun e w' => e = .returned (.tuple #[]) ∧ (Lib.BuilderAt 58 5 B b (.pointer (some ⟨b, 0, none⟩)) [] w' ∧ Below B w w') := Any.Builder_grow_fresh Tryd.lays241 Tryd.Builder_Extra_241 B b n w hB hbk hBw hn
def Tryd.lays165_ren : Go.Shelf.Ren := ⟨fun | 165 => 33 | 240 => 46 | 241 => 47 | 276 => 57 | 277 => 58 | n => n, fun | 70 => 55 | 3 => 3 | 0 => 0 | 4 => 4 | 9 => 9 | 20 => 20 | 72 => 58 | 37 => 56 | 164 => 76 | 5 => 5 | n => n, fun | n => n⟩
theorem Tryd.lays165 : Go.Proofs.Lays.n165 Tryd.prog Tryd.lays165_ren := {
  mixed := by kernel_rfl
  f165 := Tryd.func33.trans (congrArg some (by kernel_rfl))
  f240 := Tryd.func46.trans (congrArg some (by kernel_rfl))
  f241 := Tryd.func47.trans (congrArg some (by kernel_rfl))
  f276 := Tryd.func57.trans (congrArg some (by kernel_rfl))
  f277 := Tryd.func58.trans (congrArg some (by kernel_rfl))
  t0 := Tryd.underlying0
  a0 := Tryd.isAgg0
  z0 := Tryd.sizeOf0
  v0 := Tryd.zeroValue0
  t3 := Tryd.underlying3
  a3 := Tryd.isAgg3
  z3 := Tryd.sizeOf3
  v3 := Tryd.zeroValue3
  t4 := Tryd.underlying4
  a4 := Tryd.isAgg4
  z4 := Tryd.sizeOf4
  v4 := Tryd.zeroValue4
  t9 := Tryd.underlying9
  a9 := Tryd.isAgg9
  z9 := Tryd.sizeOf9
  v9 := Tryd.zeroValue9
  t20 := Tryd.underlying20
  a20 := Tryd.isAgg20
  z20 := Tryd.sizeOf20
  v20 := Tryd.zeroValue20
  t37 := Tryd.underlying56
  a37 := Tryd.isAgg56
  z37 := Tryd.sizeOf56
  v37 := Tryd.zeroValue56
  t70 := Tryd.underlying55
  a70 := Tryd.isAgg55
  z70 := Tryd.sizeOf55
  v70 := Tryd.zeroValue55
  t72 := Tryd.underlying58
  a72 := Tryd.isAgg58
  z72 := Tryd.sizeOf58
  v72 := Tryd.zeroValue58
  t164 := Tryd.underlying76
  a164 := Tryd.isAgg76
  z164 := Tryd.sizeOf76
  v164 := Tryd.zeroValue76 }
theorem Tryd.Builder_Extra_165 : Builder.Extra Tryd.prog Tryd.lays165_ren := {
  sizeBuilder := by kernel_rfl
  liesBuilder := by kernel_rfl
  t5 := Tryd.underlying5
  a5 := Tryd.isAgg5
  z5 := Tryd.sizeOf5
  v5 := Tryd.zeroValue5
  infoByte := by kernel_rfl
  cellsByte := by kernel_rfl
  sizeByte := by kernel_rfl
  neB5 := by decide }
open Go.RowKit in
theorem Tryd.Builder_Grow_fresh (B b n : Nat) (w : World) (hB : B ≤ b) (hbk : w.heap[b]? = some (.cells #[.pointer none, .slice none 0 0] 58 (0, 0))) (hBw : B ≤ w.heap.size) (hn : n ≤ 281474976710656) :
    Calls Tryd.prog 33 #[.pointer (some ⟨b, 0, none⟩), .int .i64 n] w fun e w' => e = .returned (.tuple #[]) ∧ (Lib.BuilderAt 58 5 B b (.pointer (some ⟨b, 0, none⟩)) [] w' ∧ Below B w w') := Any.Builder_Grow_fresh Tryd.lays165 Tryd.Builder_Extra_165 B b n w hB hbk hBw hn
def Tryd.lays159_ren : Go.Shelf.Ren := ⟨fun | 159 => 26 | 165 => 33 | 166 => 34 | 167 => 35 | 169 => 36 | 230 => 37 | 204 => 38 | 240 => 46 | 241 => 47 | 197 => 48 | 118 => 49 | 168 => 50 | 270 => 51 | 262 => 52 | 276 => 57 | 277 => 58 | 260 => 59 | 242 => 60 | 313 => 61 | 278 => 67 | 274 => 68 | 275 => 69 | n => n, fun | 9 => 9 | 4 => 4 | 3 => 3 | 5 => 5 | 72 => 58 | 0 => 0 | 76 => 62 | 75 => 61 | 107 => 67 | 70 => 55 | 20 => 20 | 37 => 56 | 127 => 68 | 21 => 21 | 105 => 69 | 164 => 76 | 162 => 82 | 203 => 80 | 119 => 84 | 46 => 93 | 139 => 96 | 138 => 95 | 51 => 83 | 160 => 97 | 208 => 119 | 206 => 117 | 80 => 65 | n => n, fun | 13 => 0 | 3 => 6 | 4 => 7 | n => n⟩
theorem Tryd.lays159 : Go.Proofs.Lays.n159 Tryd.prog Tryd.lays159_ren := {
  mixed := by kernel_rfl
  f118 := Tryd.func49.trans (congrArg some (by kernel_rfl))
  f159 := Tryd.func26.trans (congrArg some (by kernel_rfl))
  f165 := Tryd.func33.trans (congrArg some (by kernel_rfl))
  f166 := Tryd.func34.trans (congrArg some (by kernel_rfl))
  f167 := Tryd.func35.trans (congrArg some (by kernel_rfl))
  f168 := Tryd.func50.trans (congrArg some (by kernel_rfl))
  f169 := Tryd.func36.trans (congrArg some (by kernel_rfl))
  f197 := Tryd.func48.trans (congrArg some (by kernel_rfl))
  f204 := Tryd.func38.trans (congrArg some (by kernel_rfl))
  f230 := Tryd.func37.trans (congrArg some (by kernel_rfl))
  f240 := Tryd.func46.trans (congrArg some (by kernel_rfl))
  f241 := Tryd.func47.trans (congrArg some (by kernel_rfl))
  f242 := Tryd.func60.trans (congrArg some (by kernel_rfl))
  f260 := Tryd.func59.trans (congrArg some (by kernel_rfl))
  f262 := Tryd.func52.trans (congrArg some (by kernel_rfl))
  f270 := Tryd.func51.trans (congrArg some (by kernel_rfl))
  f274 := Tryd.func68.trans (congrArg some (by kernel_rfl))
  f275 := Tryd.func69.trans (congrArg some (by kernel_rfl))
  f276 := Tryd.func57.trans (congrArg some (by kernel_rfl))
  f277 := Tryd.func58.trans (congrArg some (by kernel_rfl))
  f278 := Tryd.func67.trans (congrArg some (by kernel_rfl))
  f313 := Tryd.func61.trans (congrArg some (by kernel_rfl))
  t0 := Tryd.underlying0
  a0 := Tryd.isAgg0
  z0 := Tryd.sizeOf0
  v0 := Tryd.zeroValue0
  t3 := Tryd.underlying3
  a3 := Tryd.isAgg3
  z3 := Tryd.sizeOf3
  v3 := Tryd.zeroValue3
  t4 := Tryd.underlying4
  a4 := Tryd.isAgg4
  z4 := Tryd.sizeOf4
  v4 := Tryd.zeroValue4
  t5 := Tryd.underlying5
  a5 := Tryd.isAgg5
  z5 := Tryd.sizeOf5
  v5 := Tryd.zeroValue5
  t9 := Tryd.underlying9
  a9 := Tryd.isAgg9
  z9 := Tryd.sizeOf9
  v9 := Tryd.zeroValue9
  t20 := Tryd.underlying20
  a20 := Tryd.isAgg20
  z20 := Tryd.sizeOf20
  v20 := Tryd.zeroValue20
  t21 := Tryd.underlying21
  a21 := Tryd.isAgg21
  z21 := Tryd.sizeOf21
  v21 := Tryd.zeroValue21
  t37 := Tryd.underlying56
  a37 := Tryd.isAgg56
  z37 := Tryd.sizeOf56
  v37 := Tryd.zeroValue56
  t46 := Tryd.underlying93
  a46 := Tryd.isAgg93
  z46 := Tryd.sizeOf93
  v46 := Tryd.zeroValue93
  t51 := Tryd.underlying83
  a51 := Tryd.isAgg83
  z51 := Tryd.sizeOf83
  v51 := Tryd.zeroValue83
  t70 := Tryd.underlying55
  a70 := Tryd.isAgg55
  z70 := Tryd.sizeOf55
  v70 := Tryd.zeroValue55
  t72 := Tryd.underlying58
  a72 := Tryd.isAgg58
  z72 := Tryd.sizeOf58
  v72 := Tryd.zeroValue58
  t75 := Tryd.underlying61
  a75 := Tryd.isAgg61
  z75 := Tryd.sizeOf61
  v75 := Tryd.zeroValue61
  t76 := Tryd.underlying62
  a76 := Tryd.isAgg62
  z76 := Tryd.sizeOf62
  v76 := Tryd.zeroValue62
  t105 := Tryd.underlying69
  a105 := Tryd.isAgg69
  z105 := Tryd.sizeOf69
  v105 := Tryd.zeroValue69
  t107 := Tryd.underlying67
  a107 := Tryd.isAgg67
  z107 := Tryd.sizeOf67
  v107 := Tryd.zeroValue67
  t119 := Tryd.underlying84
  a119 := Tryd.isAgg84
  z119 := Tryd.sizeOf84
  t127 := Tryd.underlying68
  a127 := Tryd.isAgg68
  z127 := Tryd.sizeOf68
  v127 := Tryd.zeroValue68
  t138 := Tryd.underlying95
  a138 := Tryd.isAgg95
  z138 := Tryd.sizeOf95
  v138 := Tryd.zeroValue95
  t139 := Tryd.underlying96
  a139 := Tryd.isAgg96
  z139 := Tryd.sizeOf96
  v139 := Tryd.zeroValue96
  t160 := Tryd.underlying97
  a160 := Tryd.isAgg97
  z160 := Tryd.sizeOf97
  v160 := Tryd.zeroValue97
  t162 := Tryd.underlying82
  a162 := Tryd.isAgg82
  z162 := Tryd.sizeOf82
  v162 := Tryd.zeroValue82
  t164 := Tryd.underlying76
  a164 := Tryd.isAgg76
  z164 := Tryd.sizeOf76
  v164 := Tryd.zeroValue76
  t203 := Tryd.underlying80
  a203 := Tryd.isAgg80
  z203 := Tryd.sizeOf80
  v203 := Tryd.zeroValue80
  t206 := Tryd.underlying117
  a206 := Tryd.isAgg117
  z206 := Tryd.sizeOf117
  v206 := Tryd.zeroValue117
  t208 := Tryd.underlying119
  a208 := Tryd.isAgg119
  z208 := Tryd.sizeOf119
  v208 := Tryd.zeroValue119
  g3 := by kernel_rfl
  g4 := by kernel_rfl
  g13 := by kernel_rfl }
theorem Tryd.Builder_Extra_159 : Builder.Extra Tryd.prog Tryd.lays159_ren := {
  sizeBuilder := by kernel_rfl
  liesBuilder := by kernel_rfl
  t5 := Tryd.underlying5
  a5 := Tryd.isAgg5
  z5 := Tryd.sizeOf5
  v5 := Tryd.zeroValue5
  infoByte := by kernel_rfl
  cellsByte := by kernel_rfl
  sizeByte := by kernel_rfl
  neB5 := by decide }
open Go.RowKit in
theorem Tryd.strings_ToLower_ascii (s : ByteArray) (w : World) (hs : s.size ≤ 140737488355328) (hascii : ∀ (j : Nat) (b : UInt8), s.data.toList[j]? = some b → b.toNat < 128) :
    Calls Tryd.prog 26 #[.string s] w fun e w' => e = .returned (.string ⟨(Lib.toLowerA s.data.toList).toArray⟩) ∧ Below w.heap.size w w' := Any.strings_ToLower_ascii Tryd.lays159 Tryd.Builder_Extra_159 s w hs hascii
def Tryd.lays118_ren : Go.Shelf.Ren := ⟨fun | 118 => 49 | n => n, fun | 21 => 21 | 3 => 3 | 4 => 4 | n => n, fun | n => n⟩
theorem Tryd.lays118 : Go.Proofs.Lays.n118 Tryd.prog Tryd.lays118_ren := {
  mixed := by kernel_rfl
  f118 := Tryd.func49.trans (congrArg some (by kernel_rfl))
  t3 := Tryd.underlying3
  a3 := Tryd.isAgg3
  z3 := Tryd.sizeOf3
  v3 := Tryd.zeroValue3
  t4 := Tryd.underlying4
  a4 := Tryd.isAgg4
  z4 := Tryd.sizeOf4
  v4 := Tryd.zeroValue4
  t21 := Tryd.underlying21
  a21 := Tryd.isAgg21
  z21 := Tryd.sizeOf21
  v21 := Tryd.zeroValue21 }
theorem Tryd.utf8_RuneLen (r : Int) (w : World) :
    Calls Tryd.prog 49 #[.int .i32 r] w fun e w' => e = .returned (.int .i64 (Lib.runeLen r)) ∧ w' = w := Any.utf8_RuneLen Tryd.lays118 r w
open Go.RowKit in
theorem Tryd.Builder_String_f (B b : Nat) (l : List UInt8) (w : World) (h : Lib.IsBuilderF 58 5 B b (Lib.byteCells l) w) (h0 : l ≠ []) :
    Calls Tryd.prog 36 #[.pointer (some ⟨b, 0, none⟩)] w fun e w' => e = .returned (.string ⟨l.toArray⟩) ∧ (Lib.IsBuilderF 58 5 B b (Lib.byteCells l) w' ∧ Below B w w') := Any.Builder_String_f Tryd.lays169 Tryd.Builder_Extra_169 B b l w h h0
open Go.RowKit in
theorem Tryd.Builder_String_empty_f (B b : Nat) (w : World) (h : Lib.IsBuilderF 58 5 B b [] w) (hBw : B ≤ w.heap.size) :
    Calls Tryd.prog 36 #[.pointer (some ⟨b, 0, none⟩)] w fun e w' => e = .returned (.string ⟨#[]⟩) ∧ (Lib.IsBuilderF 58 5 B b [] w' ∧ Below B w w') := Any.Builder_String_empty_f Tryd.lays169 Tryd.Builder_Extra_169 B b w h hBw
open Go.RowKit in
theorem Tryd.Builder_String_any_f (B b : Nat) (l : List UInt8) (w : World) (h : Lib.IsBuilderF 58 5 B b (Lib.byteCells l) w) (hBw : B ≤ w.heap.size) :
    Calls Tryd.prog 36 #[.pointer (some ⟨b, 0, none⟩)] w fun e w' => e = .returned (.string ⟨l.toArray⟩) ∧ (Lib.IsBuilderF 58 5 B b (Lib.byteCells l) w' ∧ Below B w w') := Any.Builder_String_any_f Tryd.lays169 Tryd.Builder_Extra_169 B b l w h hBw
open Go.RowKit in
theorem Tryd.Builder_String_k (B b : Nat) (l : List UInt8) (w : World) (h : Lib.IsBuilderF 58 5 B b (Lib.byteCells l) w) (h0 : l ≠ []) :
    Calls Tryd.prog 36 #[.pointer (some ⟨b, 0, none⟩)] w fun e w' => e = .returned (.string ⟨l.toArray⟩) ∧ (Lib.IsBuilderF 58 5 B b (Lib.byteCells l) w' ∧ Below B w w' ∧ Lib.OthersKept 5 (some b) w w') := Any.Builder_String_k Tryd.lays169 Tryd.Builder_Extra_169 B b l w h h0
open Go.RowKit in
theorem Tryd.Builder_String_empty_k (B b : Nat) (w : World) (h : Lib.IsBuilderF 58 5 B b [] w) (hBw : B ≤ w.heap.size) :
    Calls Tryd.prog 36 #[.pointer (some ⟨b, 0, none⟩)] w fun e w' => e = .returned (.string ⟨#[]⟩) ∧ (Lib.IsBuilderF 58 5 B b [] w' ∧ Below B w w' ∧ Lib.OthersKept 5 (some b) w w') := Any.Builder_String_empty_k Tryd.lays169 Tryd.Builder_Extra_169 B b w h hBw
open Go.RowKit in
theorem Tryd.Builder_String_any_k (B b : Nat) (l : List UInt8) (w : World) (h : Lib.IsBuilderF 58 5 B b (Lib.byteCells l) w) (hBw : B ≤ w.heap.size) :
    Calls Tryd.prog 36 #[.pointer (some ⟨b, 0, none⟩)] w fun e w' => e = .returned (.string ⟨l.toArray⟩) ∧ (Lib.IsBuilderF 58 5 B b (Lib.byteCells l) w' ∧ Below B w w' ∧ Lib.OthersKept 5 (some b) w w') := Any.Builder_String_any_k Tryd.lays169 Tryd.Builder_Extra_169 B b l w h hBw
def Tryd.lays278_ren : Go.Shelf.Ren := ⟨fun | 278 => 67 | n => n, fun | 37 => 56 | 21 => 21 | 51 => 83 | 4 => 4 | 46 => 93 | 5 => 5 | n => n, fun | n => n⟩
theorem Tryd.lays278 : Go.Proofs.Lays.n278 Tryd.prog Tryd.lays278_ren := {
  mixed := by kernel_rfl
  f278 := Tryd.func67.trans (congrArg some (by kernel_rfl))
  t4 := Tryd.underlying4
  a4 := Tryd.isAgg4
  z4 := Tryd.sizeOf4
  v4 := Tryd.zeroValue4
  t5 := Tryd.underlying5
  a5 := Tryd.isAgg5
  z5 := Tryd.sizeOf5
  v5 := Tryd.zeroValue5
  t21 := Tryd.underlying21
  a21 := Tryd.isAgg21
  z21 := Tryd.sizeOf21
  v21 := Tryd.zeroValue21
  t37 := Tryd.underlying56
  a37 := Tryd.isAgg56
  z37 := Tryd.sizeOf56
  v37 := Tryd.zeroValue56
  t46 := Tryd.underlying93
  a46 := Tryd.isAgg93
  z46 := Tryd.sizeOf93
  v46 := Tryd.zeroValue93
  t51 := Tryd.underlying83
  a51 := Tryd.isAgg83
  z51 := Tryd.sizeOf83
  v51 := Tryd.zeroValue83 }
open Go.RowKit in
theorem Tryd.utf8_appendRuneNonASCII_row (B : Nat) (v : Value) (n : Nat) (xs : List Value) (r : Int) (hr0 : -2147483648 ≤ r) (hr1 : r ≤ 2147483647) (hna : r < 0 ∨ 128 ≤ r) (w : World) (hown : w.ownsRowF B 5 1 v n xs) (hlen : n + 4 ≤ 140737488355328) (hBw : B ≤ w.heap.size) :
    Calls Tryd.prog 67 #[v, .int .i32 r] w fun e w' => ∃ v', e = .returned v' ∧ w'.ownsRowF B 5 1 v' (n + (Lib.runeCells r).length) (xs ++ Lib.runeCells r) ∧ ∃ o, (w.alloc o).grownBy w' v.ownBlock := Any.utf8_appendRuneNonASCII_row Tryd.lays278 (by kernel_rfl) B v n xs r hr0 hr1 hna w hown hlen hBw
def Tryd.lays242_ren : Go.Shelf.Ren := ⟨fun | 242 => 60 | 278 => 67 | n => n, fun | 37 => 56 | 21 => 21 | 51 => 83 | 4 => 4 | 5 => 5 | 46 => 93 | n => n, fun | n => n⟩
theorem Tryd.lays242 : Go.Proofs.Lays.n242 Tryd.prog Tryd.lays242_ren := {
  mixed := by kernel_rfl
  f242 := Tryd.func60.trans (congrArg some (by kernel_rfl))
  f278 := Tryd.func67.trans (congrArg some (by kernel_rfl))
  t4 := Tryd.underlying4
  a4 := Tryd.isAgg4
  z4 := Tryd.sizeOf4
  v4 := Tryd.zeroValue4
  t5 := Tryd.underlying5
  a5 := Tryd.isAgg5
  z5 := Tryd.sizeOf5
  v5 := Tryd.zeroValue5
  t21 := Tryd.underlying21
  a21 := Tryd.isAgg21
  z21 := Tryd.sizeOf21
  v21 := Tryd.zeroValue21
  t37 := Tryd.underlying56
  a37 := Tryd.isAgg56
  z37 := Tryd.sizeOf56
  v37 := Tryd.zeroValue56
  t46 := Tryd.underlying93
  a46 := Tryd.isAgg93
  z46 := Tryd.sizeOf93
  v46 := Tryd.zeroValue93
  t51 := Tryd.underlying83
  a51 := Tryd.isAgg83
  z51 := Tryd.sizeOf83
  v51 := Tryd.zeroValue83 }
open Go.RowKit in
theorem Tryd.utf8_AppendRune_row (B : Nat) (v : Value) (n : Nat) (xs : List Value) (r : Int) (hr0 : -2147483648 ≤ r) (hr1 : r ≤ 2147483647) (w : World) (hown : w.ownsRowF B 5 1 v n xs) (hlen : n + 4 ≤ 140737488355328) (hBw : B ≤ w.heap.size) :
    Calls Tryd.prog 60 #[v, .int .i32 r] w fun e w' => ∃ v', e = .returned v' ∧ w'.ownsRowF B 5 1 v' (n + (Lib.runeCells r).length) (xs ++ Lib.runeCells r) ∧ ∃ o, (w.alloc o).grownBy w' v.ownBlock := Any.utf8_AppendRune_row Tryd.lays242 (by kernel_rfl) B v n xs r hr0 hr1 w hown hlen hBw
open Go.RowKit in
theorem Tryd.utf8_appendRuneNonASCII_plain (B : Nat) (v : Value) (n : Nat) (xs : List Value) (r : Int) (hr0 : -2147483648 ≤ r) (hr1 : r ≤ 2147483647) (hna : r < 0 ∨ 128 ≤ r) (w : World) (hown : w.ownsRow B 5 1 v n xs) (hlen : n + 4 ≤ 140737488355328) (hBw : B ≤ w.heap.size) :
    Calls Tryd.prog 67 #[v, .int .i32 r] w fun e w' => ∃ v', e = .returned v' ∧ w'.ownsRow B 5 1 v' (n + (Lib.runeCells r).length) (xs ++ Lib.runeCells r) ∧ ∃ o, (w.alloc o).grownBy w' v.ownBlock := Any.utf8_appendRuneNonASCII_plain Tryd.lays278 (by kernel_rfl) B v n xs r hr0 hr1 hna w hown hlen hBw
open Go.RowKit in
theorem Tryd.utf8_AppendRune_plain (B : Nat) (v : Value) (n : Nat) (xs : List Value) (r : Int) (hr0 : -2147483648 ≤ r) (hr1 : r ≤ 2147483647) (w : World) (hown : w.ownsRow B 5 1 v n xs) (hlen : n + 4 ≤ 140737488355328) (hBw : B ≤ w.heap.size) :
    Calls Tryd.prog 60 #[v, .int .i32 r] w fun e w' => ∃ v', e = .returned v' ∧ w'.ownsRow B 5 1 v' (n + (Lib.runeCells r).length) (xs ++ Lib.runeCells r) ∧ ∃ o, (w.alloc o).grownBy w' v.ownBlock := Any.utf8_AppendRune_plain Tryd.lays242 (by kernel_rfl) B v n xs r hr0 hr1 w hown hlen hBw
open Go.RowKit in
theorem Tryd.Builder_grow_fresh_cap (B b n : Nat) (w : World) (hB : B ≤ b) (hbk : w.heap[b]? = some (.cells #[.pointer (some ⟨b, 0, none⟩), .slice none 0 0] 58 (0, 0))) (hBw : B ≤ w.heap.size) (hn : n ≤ 281474976710656) :
    Calls Tryd.prog 47 #[.pointer (some ⟨b, 0, none⟩), .int .i64 n] w fun e w' => e = .returned (.tuple #[]) ∧ (Lib.BuilderAt 58 5 B b (.pointer (some ⟨b, 0, none⟩)) [] w' ∧ Below B w w') ∧ ∃ p cap, w'.cell? ⟨b, 1, none⟩ = some (.slice p 0 cap) ∧ n ≤ cap := Any.Builder_grow_fresh_cap Tryd.lays241 Tryd.Builder_Extra_241 B b n w hB hbk hBw hn
open Go.RowKit in
theorem Tryd.Builder_Grow_fresh_cap (B b n : Nat) (w : World) (hB : B ≤ b) (hbk : w.heap[b]? = some (.cells #[.pointer none, .slice none 0 0] 58 (0, 0))) (hBw : B ≤ w.heap.size) (hn : n ≤ 281474976710656) :
    Calls Tryd.prog 33 #[.pointer (some ⟨b, 0, none⟩), .int .i64 n] w fun e w' => e = .returned (.tuple #[]) ∧ (Lib.BuilderAt 58 5 B b (.pointer (some ⟨b, 0, none⟩)) [] w' ∧ Below B w w') ∧ ∃ p cap, w'.cell? ⟨b, 1, none⟩ = some (.slice p 0 cap) ∧ n ≤ cap := Any.Builder_Grow_fresh_cap Tryd.lays165 Tryd.Builder_Extra_165 B b n w hB hbk hBw hn
def Tryd.lays129_ren : Go.Shelf.Ren := ⟨fun | 129 => 73 | n => n, fun | 53 => 88 | 3 => 3 | 4 => 4 | 46 => 93 | 5 => 5 | 9 => 9 | n => n, fun | n => n⟩
theorem Tryd.lays129 : Go.Proofs.Lays.n129 Tryd.prog Tryd.lays129_ren := {
  mixed := by kernel_rfl
  f129 := Tryd.func73.trans (congrArg some (by kernel_rfl))
  t3 := Tryd.underlying3
  a3 := Tryd.isAgg3
  z3 := Tryd.sizeOf3
  v3 := Tryd.zeroValue3
  t4 := Tryd.underlying4
  a4 := Tryd.isAgg4
  z4 := Tryd.sizeOf4
  v4 := Tryd.zeroValue4
  t5 := Tryd.underlying5
  a5 := Tryd.isAgg5
  z5 := Tryd.sizeOf5
  v5 := Tryd.zeroValue5
  t9 := Tryd.underlying9
  a9 := Tryd.isAgg9
  z9 := Tryd.sizeOf9
  v9 := Tryd.zeroValue9
  t46 := Tryd.underlying93
  a46 := Tryd.isAgg93
  z46 := Tryd.sizeOf93
  v46 := Tryd.zeroValue93
  t53 := Tryd.underlying88
  a53 := Tryd.isAgg88
  z53 := Tryd.sizeOf88
  v53 := Tryd.zeroValue88 }
theorem Tryd.bits_Len64 (x : Int) (w : World) (h0 : 0 ≤ x) (h1 : x ≤ 18446744073709551615) :
    Calls Tryd.prog 73 #[.int .u64 x] w fun e w' => e = .returned (.int .i64 (Lib.bitLen x.toNat)) ∧ w' = w := Any.bits_Len64 Tryd.lays129 x w h0 h1
def Tryd.lays317_ren : Go.Shelf.Ren := ⟨fun | 317 => 72 | n => n, fun | 3 => 3 | 46 => 93 | n => n, fun | n => n⟩
theorem Tryd.lays317 : Go.Proofs.Lays.n317 Tryd.prog Tryd.lays317_ren := {
  mixed := by kernel_rfl
  f317 := Tryd.func72.trans (congrArg some (by kernel_rfl))
  t3 := Tryd.underlying3
  a3 := Tryd.isAgg3
  z3 := Tryd.sizeOf3
  v3 := Tryd.zeroValue3
  t46 := Tryd.underlying93
  a46 := Tryd.isAgg93
  z46 := Tryd.sizeOf93
  v46 := Tryd.zeroValue93 }
open Go.Lib in
theorem Tryd.internal_strconv_log10Pow2 (x : Nat) (h : x ≤ 64) (w : World) :
    Calls Tryd.prog 72 #[.int .i64 x] w fun e w' => e = .returned (.int .i64 (Lib.l10 x)) ∧ w' = w := Any.internal_strconv_log10Pow2 Tryd.lays317 x h w
def Tryd.lays318_ren : Go.Shelf.Ren := ⟨fun | 318 => 74 | n => n, fun | 3 => 3 | 4 => 4 | n => n, fun | n => n⟩
theorem Tryd.lays318 : Go.Proofs.Lays.n318 Tryd.prog Tryd.lays318_ren := {
  mixed := by kernel_rfl
  f318 := Tryd.func74.trans (congrArg some (by kernel_rfl))
  t3 := Tryd.underlying3
  a3 := Tryd.isAgg3
  z3 := Tryd.sizeOf3
  v3 := Tryd.zeroValue3
  t4 := Tryd.underlying4
  a4 := Tryd.isAgg4
  z4 := Tryd.sizeOf4
  v4 := Tryd.zeroValue4 }
open Go.Lib in
theorem Tryd.internal_strconv_bool2_int (b : Bool) (w : World) :
    Calls Tryd.prog 74 #[.bool b] w fun e w' => e = .returned (.int .i64 (if b then 1 else 0)) ∧ w' = w := Any.internal_strconv_bool2_int Tryd.lays318 b w
def Tryd.lays283_ren : Go.Shelf.Ren := ⟨fun | 283 => 63 | n => n, fun | 3 => 3 | 9 => 9 | 4 => 4 | n => n, fun | n => n⟩
theorem Tryd.lays283 : Go.Proofs.Lays.n283 Tryd.prog Tryd.lays283_ren := {
  mixed := by kernel_rfl
  f283 := Tryd.func63.trans (congrArg some (by kernel_rfl))
  t3 := Tryd.underlying3
  a3 := Tryd.isAgg3
  z3 := Tryd.sizeOf3
  v3 := Tryd.zeroValue3
  t4 := Tryd.underlying4
  a4 := Tryd.isAgg4
  z4 := Tryd.sizeOf4
  v4 := Tryd.zeroValue4
  t9 := Tryd.underlying9
  a9 := Tryd.isAgg9
  z9 := Tryd.sizeOf9
  v9 := Tryd.zeroValue9 }
open Go.Lib in
theorem Tryd.internal_strconv_small (i : Nat) (h : i < 100) (w : World) :
    Calls Tryd.prog 63 #[.int .i64 i] w fun e w' => e = .returned (.string ⟨(Lib.decDigits i).toArray⟩) ∧ w' = w := Any.internal_strconv_small Tryd.lays283 i h w
def Tryd.laysM284_ren : Go.Shelf.Ren := ⟨fun | 284 => 64 | 129 => 73 | 317 => 72 | 318 => 74 | n => n, fun | 53 => 88 | 3 => 3 | 212 => 113 | 0 => 0 | 4 => 4 | 46 => 93 | 5 => 5 | 9 => 9 | n => n, fun | 17 => 8 | n => n⟩
theorem Tryd.laysM284 : Go.Proofs.LaysM.n284 Tryd.prog Tryd.laysM284_ren := {
  mixed := by kernel_rfl
  f129 := Tryd.func73.trans (congrArg some (by kernel_rfl))
  f284 := Tryd.func64.trans (congrArg some (by kernel_rfl))
  f317 := Tryd.func72.trans (congrArg some (by kernel_rfl))
  f318 := Tryd.func74.trans (congrArg some (by kernel_rfl))
  t0 := Tryd.underlying0
  a0 := Tryd.isAgg0
  z0 := Tryd.sizeOf0
  v0 := Tryd.zeroValue0
  t3 := Tryd.underlying3
  a3 := Tryd.isAgg3
  z3 := Tryd.sizeOf3
  v3 := Tryd.zeroValue3
  t4 := Tryd.underlying4
  a4 := Tryd.isAgg4
  z4 := Tryd.sizeOf4
  v4 := Tryd.zeroValue4
  t5 := Tryd.underlying5
  a5 := Tryd.isAgg5
  z5 := Tryd.sizeOf5
  v5 := Tryd.zeroValue5
  t9 := Tryd.underlying9
  a9 := Tryd.isAgg9
  z9 := Tryd.sizeOf9
  v9 := Tryd.zeroValue9
  t46 := Tryd.underlying93
  a46 := Tryd.isAgg93
  z46 := Tryd.sizeOf93
  v46 := Tryd.zeroValue93
  t53 := Tryd.underlying88
  a53 := Tryd.isAgg88
  z53 := Tryd.sizeOf88
  v53 := Tryd.zeroValue88
  t212 := Tryd.underlying113
  a212 := Tryd.isAgg113
  z212 := Tryd.sizeOf113
  v212 := Tryd.zeroValue113
  g17 := by kernel_rfl
  i0 := by kernel_rfl
  i3 := by kernel_rfl
  i4 := by kernel_rfl
  i5 := by kernel_rfl
  i9 := by kernel_rfl
  i46 := by kernel_rfl
  i53 := by kernel_rfl
  i212 := by kernel_rfl
  m17 := by kernel_rfl }
open Go.Lib in
theorem Tryd.internal_strconv_numDigits (u : Nat) (h1 : 1 ≤ u) (h2 : u < 18446744073709551616) (w : World) (htab : Lib.TabIs Tryd.prog w "internal/strconv.uint64pow10" .u64 Lib.pow10Tab) :
    Calls Tryd.prog 64 #[.int .u64 u] w fun e w' => e = .returned (.int .i64 (Lib.nDigits u)) ∧ w' = w := Any.internal_strconv_numDigits Tryd.laysM284 u h1 h2 w htab
def Tryd.lays285_ren : Go.Shelf.Ren := ⟨fun | 285 => 65 | n => n, fun | 37 => 56 | 53 => 88 | 3 => 3 | 4 => 4 | 51 => 83 | 9 => 9 | 5 => 5 | 0 => 0 | n => n, fun | n => n⟩
theorem Tryd.lays285 : Go.Proofs.Lays.n285 Tryd.prog Tryd.lays285_ren := {
  mixed := by kernel_rfl
  f285 := Tryd.func65.trans (congrArg some (by kernel_rfl))
  t0 := Tryd.underlying0
  a0 := Tryd.isAgg0
  z0 := Tryd.sizeOf0
  v0 := Tryd.zeroValue0
  t3 := Tryd.underlying3
  a3 := Tryd.isAgg3
  z3 := Tryd.sizeOf3
  v3 := Tryd.zeroValue3
  t4 := Tryd.underlying4
  a4 := Tryd.isAgg4
  z4 := Tryd.sizeOf4
  v4 := Tryd.zeroValue4
  t5 := Tryd.underlying5
  a5 := Tryd.isAgg5
  z5 := Tryd.sizeOf5
  v5 := Tryd.zeroValue5
  t9 := Tryd.underlying9
  a9 := Tryd.isAgg9
  z9 := Tryd.sizeOf9
  v9 := Tryd.zeroValue9
  t37 := Tryd.underlying56
  a37 := Tryd.isAgg56
  z37 := Tryd.sizeOf56
  v37 := Tryd.zeroValue56
  t51 := Tryd.underlying83
  a51 := Tryd.isAgg83
  z51 := Tryd.sizeOf83
  v51 := Tryd.zeroValue83
  t53 := Tryd.underlying88
  a53 := Tryd.isAgg88
  z53 := Tryd.sizeOf88
  v53 := Tryd.zeroValue88 }
open Go.RowKit Go.Sort Go.Lib in
theorem Tryd.internal_strconv_formatBase10 (blk off cap : Nat) (u : Nat) (d : Array UInt8) (w : World) (hH : Holds (fun (b : UInt8) => Value.int .u8 (b.toNat : Int)) w blk off d) (hu : u < 10 ^ d.size) (hu64 : u < 18446744073709551616) (hsz : d.size < 4611686018427387904) :
    Calls Tryd.prog 65 #[.slice (some ⟨blk, off, none⟩) d.size cap, .int .u64 u] w fun e w' =>
      e = .returned (.tuple #[]) ∧ ∃ (n v' : Nat) (dk : Array UInt8), w' = (putRow (fun (b : UInt8) => Value.int .u8 (b.toNat : Int)) w blk off dk).drewN n ∧ FmtInv d.size u 0 v' dk := Any.internal_strconv_formatBase10 Tryd.lays285 blk off cap u d w hH hu hu64 hsz
def Tryd.laysM246_ren : Go.Shelf.Ren := ⟨fun | 246 => 56 | 283 => 63 | 284 => 64 | 285 => 65 | 286 => 66 | 129 => 73 | 317 => 72 | 318 => 74 | 319 => 75 | 320 => 76 | 337 => 77 | 338 => 78 | n => n, fun | 2 => 2 | 3 => 3 | 9 => 9 | 4 => 4 | 171 => 87 | 0 => 0 | 53 => 88 | 37 => 56 | 5 => 5 | 173 => 91 | 212 => 113 | 51 => 83 | 20 => 20 | 213 => 114 | 46 => 93 | 232 => 123 | 233 => 124 | n => n, fun | 17 => 8 | 18 => 9 | 19 => 10 | n => n⟩
theorem Tryd.laysM246 : Go.Proofs.LaysM.n246 Tryd.prog Tryd.laysM246_ren := {
  mixed := by kernel_rfl
  f129 := Tryd.func73.trans (congrArg some (by kernel_rfl))
  f246 := Tryd.func56.trans (congrArg some (by kernel_rfl))
  f283 := Tryd.func63.trans (congrArg some (by kernel_rfl))
  f284 := Tryd.func64.trans (congrArg some (by kernel_rfl))
  f285 := Tryd.func65.trans (congrArg some (by kernel_rfl))
  f286 := Tryd.func66.trans (congrArg some (by kernel_rfl))
  f317 := Tryd.func72.trans (congrArg some (by kernel_rfl))
  f318 := Tryd.func74.trans (congrArg some (by kernel_rfl))
  f319 := Tryd.func75.trans (congrArg some (by kernel_rfl))
  f320 := Tryd.func76.trans (congrArg some (by kernel_rfl))
  f337 := Tryd.func77.trans (congrArg some (by kernel_rfl))
  f338 := Tryd.func78.trans (congrArg some (by kernel_rfl))
  t0 := Tryd.underlying0
  a0 := Tryd.isAgg0
  z0 := Tryd.sizeOf0
  v0 := Tryd.zeroValue0
  t2 := Tryd.underlying2
  a2 := Tryd.isAgg2
  z2 := Tryd.sizeOf2
  v2 := Tryd.zeroValue2
  t3 := Tryd.underlying3
  a3 := Tryd.isAgg3
  z3 := Tryd.sizeOf3
  v3 := Tryd.zeroValue3
  t4 := Tryd.underlying4
  a4 := Tryd.isAgg4
  z4 := Tryd.sizeOf4
  v4 := Tryd.zeroValue4
  t5 := Tryd.underlying5
  a5 := Tryd.isAgg5
  z5 := Tryd.sizeOf5
  v5 := Tryd.zeroValue5
  t9 := Tryd.underlying9
  a9 := Tryd.isAgg9
  z9 := Tryd.sizeOf9
  v9 := Tryd.zeroValue9
  t20 := Tryd.underlying20
  a20 := Tryd.isAgg20
  z20 := Tryd.sizeOf20
  v20 := Tryd.zeroValue20
  t37 := Tryd.underlying56
  a37 := Tryd.isAgg56
  z37 := Tryd.sizeOf56
  v37 := Tryd.zeroValue56
  t46 := Tryd.underlying93
  a46 := Tryd.isAgg93
  z46 := Tryd.sizeOf93
  v46 := Tryd.zeroValue93
  t51 := Tryd.underlying83
  a51 := Tryd.isAgg83
  z51 := Tryd.sizeOf83
  v51 := Tryd.zeroValue83
  t53 := Tryd.underlying88
  a53 := Tryd.isAgg88
  z53 := Tryd.sizeOf88
  v53 := Tryd.zeroValue88
  t171 := Tryd.underlying87
  a171 := Tryd.isAgg87
  z171 := Tryd.sizeOf87
  v171 := Tryd.zeroValue87
  t173 := Tryd.underlying91
  a173 := Tryd.isAgg91
  z173 := Tryd.sizeOf91
  v173 := Tryd.zeroValue91
  t212 := Tryd.underlying113
  a212 := Tryd.isAgg113
  z212 := Tryd.sizeOf113
  v212 := Tryd.zeroValue113
  t213 := Tryd.underlying114
  a213 := Tryd.isAgg114
  z213 := Tryd.sizeOf114
  t232 := Tryd.underlying123
  a232 := Tryd.isAgg123
  z232 := Tryd.sizeOf123
  v232 := Tryd.zeroValue123
  t233 := Tryd.underlying124
  a233 := Tryd.isAgg124
  z233 := Tryd.sizeOf124
  v233 := Tryd.zeroValue124
  g17 := by kernel_rfl
  g18 := by kernel_rfl
  g19 := by kernel_rfl
  i0 := by kernel_rfl
  i2 := by kernel_rfl
  i3 := by kernel_rfl
  i4 := by kernel_rfl
  i5 := by kernel_rfl
  i9 := by kernel_rfl
  i20 := by kernel_rfl
  i37 := by kernel_rfl
  i46 := by kernel_rfl
  i51 := by kernel_rfl
  i53 := by kernel_rfl
  i171 := by kernel_rfl
  i173 := by kernel_rfl
  i212 := by kernel_rfl
  i232 := by kernel_rfl
  i233 := by kernel_rfl
  m17 := by kernel_rfl
  m18 := by kernel_rfl
  m19 := by kernel_rfl }
open Go.RowKit Go.Sort Go.Lib in
theorem Tryd.internal_strconv_FormatInt_10 (n : Int) (h0 : -9223372036854775808 ≤ n) (h1 : n ≤ 9223372036854775807) (w : World) (htab : Lib.TabIs Tryd.prog w "internal/strconv.uint64pow10" .u64 Lib.pow10Tab) :
    Calls Tryd.prog 56 #[.int .i64 n, .int .i64 10] w fun e w' => e = .returned (.string ⟨(Lib.itoa n).toArray⟩) ∧ ∃ k os, w' = grow (w.drewN k) os := Any.internal_strconv_FormatInt_10 Tryd.laysM246 n h0 h1 w htab
def Tryd.lays246_ren : Go.Shelf.Ren := ⟨fun | 246 => 56 | 283 => 63 | 284 => 64 | 285 => 65 | 286 => 66 | 129 => 73 | 317 => 72 | 318 => 74 | 319 => 75 | 320 => 76 | 337 => 77 | 338 => 78 | n => n, fun | 2 => 2 | 3 => 3 | 9 => 9 | 4 => 4 | 171 => 87 | 0 => 0 | 53 => 88 | 37 => 56 | 5 => 5 | 173 => 91 | 212 => 113 | 51 => 83 | 20 => 20 | 213 => 114 | 46 => 93 | 232 => 123 | 233 => 124 | n => n, fun | 17 => 8 | 18 => 9 | 19 => 10 | n => n⟩
theorem Tryd.lays246 : Go.Proofs.Lays.n246 Tryd.prog Tryd.lays246_ren := {
  mixed := by kernel_rfl
  f129 := Tryd.func73.trans (congrArg some (by kernel_rfl))
  f246 := Tryd.func56.trans (congrArg some (by kernel_rfl))
  f283 := Tryd.func63.trans (congrArg some (by kernel_rfl))
  f284 := Tryd.func64.trans (congrArg some (by kernel_rfl))
  f285 := Tryd.func65.trans (congrArg some (by kernel_rfl))
  f286 := Tryd.func66.trans (congrArg some (by kernel_rfl))
  f317 := Tryd.func72.trans (congrArg some (by kernel_rfl))
  f318 := Tryd.func74.trans (congrArg some (by kernel_rfl))
  f319 := Tryd.func75.trans (congrArg some (by kernel_rfl))
  f320 := Tryd.func76.trans (congrArg some (by kernel_rfl))
  f337 := Tryd.func77.trans (congrArg some (by kernel_rfl))
  f338 := Tryd.func78.trans (congrArg some (by kernel_rfl))
  t0 := Tryd.underlying0
  a0 := Tryd.isAgg0
  z0 := Tryd.sizeOf0
  v0 := Tryd.zeroValue0
  t2 := Tryd.underlying2
  a2 := Tryd.isAgg2
  z2 := Tryd.sizeOf2
  v2 := Tryd.zeroValue2
  t3 := Tryd.underlying3
  a3 := Tryd.isAgg3
  z3 := Tryd.sizeOf3
  v3 := Tryd.zeroValue3
  t4 := Tryd.underlying4
  a4 := Tryd.isAgg4
  z4 := Tryd.sizeOf4
  v4 := Tryd.zeroValue4
  t5 := Tryd.underlying5
  a5 := Tryd.isAgg5
  z5 := Tryd.sizeOf5
  v5 := Tryd.zeroValue5
  t9 := Tryd.underlying9
  a9 := Tryd.isAgg9
  z9 := Tryd.sizeOf9
  v9 := Tryd.zeroValue9
  t20 := Tryd.underlying20
  a20 := Tryd.isAgg20
  z20 := Tryd.sizeOf20
  v20 := Tryd.zeroValue20
  t37 := Tryd.underlying56
  a37 := Tryd.isAgg56
  z37 := Tryd.sizeOf56
  v37 := Tryd.zeroValue56
  t46 := Tryd.underlying93
  a46 := Tryd.isAgg93
  z46 := Tryd.sizeOf93
  v46 := Tryd.zeroValue93
  t51 := Tryd.underlying83
  a51 := Tryd.isAgg83
  z51 := Tryd.sizeOf83
  v51 := Tryd.zeroValue83
  t53 := Tryd.underlying88
  a53 := Tryd.isAgg88
  z53 := Tryd.sizeOf88
  v53 := Tryd.zeroValue88
  t171 := Tryd.underlying87
  a171 := Tryd.isAgg87
  z171 := Tryd.sizeOf87
  v171 := Tryd.zeroValue87
  t173 := Tryd.underlying91
  a173 := Tryd.isAgg91
  z173 := Tryd.sizeOf91
  v173 := Tryd.zeroValue91
  t212 := Tryd.underlying113
  a212 := Tryd.isAgg113
  z212 := Tryd.sizeOf113
  v212 := Tryd.zeroValue113
  t213 := Tryd.underlying114
  a213 := Tryd.isAgg114
  z213 := Tryd.sizeOf114
  t232 := Tryd.underlying123
  a232 := Tryd.isAgg123
  z232 := Tryd.sizeOf123
  v232 := Tryd.zeroValue123
  t233 := Tryd.underlying124
  a233 := Tryd.isAgg124
  z233 := Tryd.sizeOf124
  v233 := Tryd.zeroValue124
  g17 := by kernel_rfl
  g18 := by kernel_rfl
  g19 := by kernel_rfl }
open Go.RowKit Go.Sort Go.Lib in
theorem Tryd.internal_strconv_FormatInt_10_small (i : Nat) (hi : i < 100) (w : World) :
    Calls Tryd.prog 56 #[.int .i64 i, .int .i64 10] w fun e w' => e = .returned (.string ⟨(Lib.decDigits i).toArray⟩) ∧ w' = w := Any.internal_strconv_FormatInt_10_small Tryd.lays246 i hi w
def Tryd.laysM243_ren : Go.Shelf.Ren := ⟨fun | 243 => 45 | 246 => 56 | 283 => 63 | 284 => 64 | 285 => 65 | 286 => 66 | 129 => 73 | 317 => 72 | 318 => 74 | 319 => 75 | 320 => 76 | 337 => 77 | 338 => 78 | n => n, fun | 3 => 3 | 9 => 9 | 2 => 2 | 4 => 4 | 171 => 87 | 0 => 0 | 53 => 88 | 37 => 56 | 5 => 5 | 173 => 91 | 212 => 113 | 51 => 83 | 20 => 20 | 213 => 114 | 46 => 93 | 232 => 123 | 233 => 124 | n => n, fun | 17 => 8 | 18 => 9 | 19 => 10 | n => n⟩
theorem Tryd.laysM243 : Go.Proofs.LaysM.n243 Tryd.prog Tryd.laysM243_ren := {
  mixed := by kernel_rfl
  f129 := Tryd.func73.trans (congrArg some (by kernel_rfl))
  f243 := Tryd.func45.trans (congrArg some (by kernel_rfl))
  f246 := Tryd.func56.trans (congrArg some (by kernel_rfl))
  f283 := Tryd.func63.trans (congrArg some (by kernel_rfl))
  f284 := Tryd.func64.trans (congrArg some (by kernel_rfl))
  f285 := Tryd.func65.trans (congrArg some (by kernel_rfl))
  f286 := Tryd.func66.trans (congrArg some (by kernel_rfl))
  f317 := Tryd.func72.trans (congrArg some (by kernel_rfl))
  f318 := Tryd.func74.trans (congrArg some (by kernel_rfl))
  f319 := Tryd.func75.trans (congrArg some (by kernel_rfl))
  f320 := Tryd.func76.trans (congrArg some (by kernel_rfl))
  f337 := Tryd.func77.trans (congrArg some (by kernel_rfl))
  f338 := Tryd.func78.trans (congrArg some (by kernel_rfl))
  t0 := Tryd.underlying0
  a0 := Tryd.isAgg0
  z0 := Tryd.sizeOf0
  v0 := Tryd.zeroValue0
  t2 := Tryd.underlying2
  a2 := Tryd.isAgg2
  z2 := Tryd.sizeOf2
  v2 := Tryd.zeroValue2
  t3 := Tryd.underlying3
  a3 := Tryd.isAgg3
  z3 := Tryd.sizeOf3
  v3 := Tryd.zeroValue3
  t4 := Tryd.underlying4
  a4 := Tryd.isAgg4
  z4 := Tryd.sizeOf4
  v4 := Tryd.zeroValue4
  t5 := Tryd.underlying5
  a5 := Tryd.isAgg5
  z5 := Tryd.sizeOf5
  v5 := Tryd.zeroValue5
  t9 := Tryd.underlying9
  a9 := Tryd.isAgg9
  z9 := Tryd.sizeOf9
  v9 := Tryd.zeroValue9
  t20 := Tryd.underlying20
  a20 := Tryd.isAgg20
  z20 := Tryd.sizeOf20
  v20 := Tryd.zeroValue20
  t37 := Tryd.underlying56
  a37 := Tryd.isAgg56
  z37 := Tryd.sizeOf56
  v37 := Tryd.zeroValue56
  t46 := Tryd.underlying93
  a46 := Tryd.isAgg93
  z46 := Tryd.sizeOf93
  v46 := Tryd.zeroValue93
  t51 := Tryd.underlying83
  a51 := Tryd.isAgg83
  z51 := Tryd.sizeOf83
  v51 := Tryd.zeroValue83
  t53 := Tryd.underlying88
  a53 := Tryd.isAgg88
  z53 := Tryd.sizeOf88
  v53 := Tryd.zeroValue88
  t171 := Tryd.underlying87
  a171 := Tryd.isAgg87
  z171 := Tryd.sizeOf87
  v171 := Tryd.zeroValue87
  t173 := Tryd.underlying91
  a173 := Tryd.isAgg91
  z173 := Tryd.sizeOf91
  v173 := Tryd.zeroValue91
  t212 := Tryd.underlying113
  a212 := Tryd.isAgg113
  z212 := Tryd.sizeOf113
  v212 := Tryd.zeroValue113
  t213 := Tryd.underlying114
  a213 := Tryd.isAgg114
  z213 := Tryd.sizeOf114
  t232 := Tryd.underlying123
  a232 := Tryd.isAgg123
  z232 := Tryd.sizeOf123
  v232 := Tryd.zeroValue123
  t233 := Tryd.underlying124
  a233 := Tryd.isAgg124
  z233 := Tryd.sizeOf124
  v233 := Tryd.zeroValue124
  g17 := by kernel_rfl
  g18 := by kernel_rfl
  g19 := by kernel_rfl
  i0 := by kernel_rfl
  i2 := by kernel_rfl
  i3 := by kernel_rfl
  i4 := by kernel_rfl
  i5 := by kernel_rfl
  i9 := by kernel_rfl
  i20 := by kernel_rfl
  i37 := by kernel_rfl
  i46 := by kernel_rfl
  i51 := by kernel_rfl
  i53 := by kernel_rfl
  i171 := by kernel_rfl
  i173 := by kernel_rfl
  i212 := by kernel_rfl
  i232 := by kernel_rfl
  i233 := by kernel_rfl
  m17 := by kernel_rfl
  m18 := by kernel_rfl
  m19 := by kernel_rfl }
open Go.RowKit Go.Sort Go.Lib in
theorem Tryd.internal_strconv_Itoa (n : Int) (h0 : -9223372036854775808 ≤ n) (h1 : n ≤ 9223372036854775807) (w : World) (htab : Lib.TabIs Tryd.prog w "internal/strconv.uint64pow10" .u64 Lib.pow10Tab) :
    Calls Tryd.prog 45 #[.int .i64 n] w fun e w' => e = .returned (.string ⟨(Lib.itoa n).toArray⟩) ∧ ∃ k os, w' = grow (w.drewN k) os := Any.internal_strconv_Itoa Tryd.laysM243 n h0 h1 w htab
def Tryd.lays243_ren : Go.Shelf.Ren := ⟨fun | 243 => 45 | 246 => 56 | 283 => 63 | 284 => 64 | 285 => 65 | 286 => 66 | 129 => 73 | 317 => 72 | 318 => 74 | 319 => 75 | 320 => 76 | 337 => 77 | 338 => 78 | n => n, fun | 3 => 3 | 9 => 9 | 2 => 2 | 4 => 4 | 171 => 87 | 0 => 0 | 53 => 88 | 37 => 56 | 5 => 5 | 173 => 91 | 212 => 113 | 51 => 83 | 20 => 20 | 213 => 114 | 46 => 93 | 232 => 123 | 233 => 124 | n => n, fun | 17 => 8 | 18 => 9 | 19 => 10 | n => n⟩
theorem Tryd.lays243 : Go.Proofs.Lays.n243 Tryd.prog Tryd.lays243_ren := {
  mixed := by kernel_rfl
  f129 := Tryd.func73.trans (congrArg some (by kernel_rfl))
  f243 := Tryd.func45.trans (congrArg some (by kernel_rfl))
  f246 := Tryd.func56.trans (congrArg some (by kernel_rfl))
  f283 := Tryd.func63.trans (congrArg some (by kernel_rfl))
  f284 := Tryd.func64.trans (congrArg some (by kernel_rfl))
  f285 := Tryd.func65.trans (congrArg some (by kernel_rfl))
  f286 := Tryd.func66.trans (congrArg some (by kernel_rfl))
  f317 := Tryd.func72.trans (congrArg some (by kernel_rfl))
  f318 := Tryd.func74.trans (congrArg some (by kernel_rfl))
  f319 := Tryd.func75.trans (congrArg some (by kernel_rfl))
  f320 := Tryd.func76.trans (congrArg some (by kernel_rfl))
  f337 := Tryd.func77.trans (congrArg some (by kernel_rfl))
  f338 := Tryd.func78.trans (congrArg some (by kernel_rfl))
  t0 := Tryd.underlying0
  a0 := Tryd.isAgg0
  z0 := Tryd.sizeOf0
  v0 := Tryd.zeroValue0
  t2 := Tryd.underlying2
  a2 := Tryd.isAgg2
  z2 := Tryd.sizeOf2
  v2 := Tryd.zeroValue2
  t3 := Tryd.underlying3
  a3 := Tryd.isAgg3
  z3 := Tryd.sizeOf3
  v3 := Tryd.zeroValue3
  t4 := Tryd.underlying4
  a4 := Tryd.isAgg4
  z4 := Tryd.sizeOf4
  v4 := Tryd.zeroValue4
  t5 := Tryd.underlying5
  a5 := Tryd.isAgg5
  z5 := Tryd.sizeOf5
  v5 := Tryd.zeroValue5
  t9 := Tryd.underlying9
  a9 := Tryd.isAgg9
  z9 := Tryd.sizeOf9
  v9 := Tryd.zeroValue9
  t20 := Tryd.underlying20
  a20 := Tryd.isAgg20
  z20 := Tryd.sizeOf20
  v20 := Tryd.zeroValue20
  t37 := Tryd.underlying56
  a37 := Tryd.isAgg56
  z37 := Tryd.sizeOf56
  v37 := Tryd.zeroValue56
  t46 := Tryd.underlying93
  a46 := Tryd.isAgg93
  z46 := Tryd.sizeOf93
  v46 := Tryd.zeroValue93
  t51 := Tryd.underlying83
  a51 := Tryd.isAgg83
  z51 := Tryd.sizeOf83
  v51 := Tryd.zeroValue83
  t53 := Tryd.underlying88
  a53 := Tryd.isAgg88
  z53 := Tryd.sizeOf88
  v53 := Tryd.zeroValue88
  t171 := Tryd.underlying87
  a171 := Tryd.isAgg87
  z171 := Tryd.sizeOf87
  v171 := Tryd.zeroValue87
  t173 := Tryd.underlying91
  a173 := Tryd.isAgg91
  z173 := Tryd.sizeOf91
  v173 := Tryd.zeroValue91
  t212 := Tryd.underlying113
  a212 := Tryd.isAgg113
  z212 := Tryd.sizeOf113
  v212 := Tryd.zeroValue113
  t213 := Tryd.underlying114
  a213 := Tryd.isAgg114
  z213 := Tryd.sizeOf114
  t232 := Tryd.underlying123
  a232 := Tryd.isAgg123
  z232 := Tryd.sizeOf123
  v232 := Tryd.zeroValue123
  t233 := Tryd.underlying124
  a233 := Tryd.isAgg124
  z233 := Tryd.sizeOf124
  v233 := Tryd.zeroValue124
  g17 := by kernel_rfl
  g18 := by kernel_rfl
  g19 := by kernel_rfl }
open Go.RowKit Go.Sort Go.Lib in
theorem Tryd.internal_strconv_Itoa_small (i : Nat) (hi : i < 100) (w : World) :
    Calls Tryd.prog 45 #[.int .i64 i] w fun e w' => e = .returned (.string ⟨(Lib.decDigits i).toArray⟩) ∧ w' = w := Any.internal_strconv_Itoa_small Tryd.lays243 i hi w
def Tryd.laysM171_ren : Go.Shelf.Ren := ⟨fun | 171 => 32 | 243 => 45 | 246 => 56 | 283 => 63 | 284 => 64 | 285 => 65 | 286 => 66 | 129 => 73 | 317 => 72 | 318 => 74 | 319 => 75 | 320 => 76 | 337 => 77 | 338 => 78 | n => n, fun | 3 => 3 | 9 => 9 | 2 => 2 | 4 => 4 | 171 => 87 | 0 => 0 | 53 => 88 | 37 => 56 | 5 => 5 | 173 => 91 | 212 => 113 | 51 => 83 | 20 => 20 | 213 => 114 | 46 => 93 | 232 => 123 | 233 => 124 | n => n, fun | 17 => 8 | 18 => 9 | 19 => 10 | n => n⟩
theorem Tryd.laysM171 : Go.Proofs.LaysM.n171 Tryd.prog Tryd.laysM171_ren := {
  mixed := by kernel_rfl
  f129 := Tryd.func73.trans (congrArg some (by kernel_rfl))
  f171 := Tryd.func32.trans (congrArg some (by kernel_rfl))
  f243 := Tryd.func45.trans (congrArg some (by kernel_rfl))
  f246 := Tryd.func56.trans (congrArg some (by kernel_rfl))
  f283 := Tryd.func63.trans (congrArg some (by kernel_rfl))
  f284 := Tryd.func64.trans (congrArg some (by kernel_rfl))
  f285 := Tryd.func65.trans (congrArg some (by kernel_rfl))
  f286 := Tryd.func66.trans (congrArg some (by kernel_rfl))
  f317 := Tryd.func72.trans (congrArg some (by kernel_rfl))
  f318 := Tryd.func74.trans (congrArg some (by kernel_rfl))
  f319 := Tryd.func75.trans (congrArg some (by kernel_rfl))
  f320 := Tryd.func76.trans (congrArg some (by kernel_rfl))
  f337 := Tryd.func77.trans (congrArg some (by kernel_rfl))
  f338 := Tryd.func78.trans (congrArg some (by kernel_rfl))
  t0 := Tryd.underlying0
  a0 := Tryd.isAgg0
  z0 := Tryd.sizeOf0
  v0 := Tryd.zeroValue0
  t2 := Tryd.underlying2
  a2 := Tryd.isAgg2
  z2 := Tryd.sizeOf2
  v2 := Tryd.zeroValue2
  t3 := Tryd.underlying3
  a3 := Tryd.isAgg3
  z3 := Tryd.sizeOf3
  v3 := Tryd.zeroValue3
  t4 := Tryd.underlying4
  a4 := Tryd.isAgg4
  z4 := Tryd.sizeOf4
  v4 := Tryd.zeroValue4
  t5 := Tryd.underlying5
  a5 := Tryd.isAgg5
  z5 := Tryd.sizeOf5
  v5 := Tryd.zeroValue5
  t9 := Tryd.underlying9
  a9 := Tryd.isAgg9
  z9 := Tryd.sizeOf9
  v9 := Tryd.zeroValue9
  t20 := Tryd.underlying20
  a20 := Tryd.isAgg20
  z20 := Tryd.sizeOf20
  v20 := Tryd.zeroValue20
  t37 := Tryd.underlying56
  a37 := Tryd.isAgg56
  z37 := Tryd.sizeOf56
  v37 := Tryd.zeroValue56
  t46 := Tryd.underlying93
  a46 := Tryd.isAgg93
  z46 := Tryd.sizeOf93
  v46 := Tryd.zeroValue93
  t51 := Tryd.underlying83
  a51 := Tryd.isAgg83
  z51 := Tryd.sizeOf83
  v51 := Tryd.zeroValue83
  t53 := Tryd.underlying88
  a53 := Tryd.isAgg88
  z53 := Tryd.sizeOf88
  v53 := Tryd.zeroValue88
  t171 := Tryd.underlying87
  a171 := Tryd.isAgg87
  z171 := Tryd.sizeOf87
  v171 := Tryd.zeroValue87
  t173 := Tryd.underlying91
  a173 := Tryd.isAgg91
  z173 := Tryd.sizeOf91
  v173 := Tryd.zeroValue91
  t212 := Tryd.underlying113
  a212 := Tryd.isAgg113
  z212 := Tryd.sizeOf113
  v212 := Tryd.zeroValue113
  t213 := Tryd.underlying114
  a213 := Tryd.isAgg114
  z213 := Tryd.sizeOf114
  t232 := Tryd.underlying123
  a232 := Tryd.isAgg123
  z232 := Tryd.sizeOf123
  v232 := Tryd.zeroValue123
  t233 := Tryd.underlying124
  a233 := Tryd.isAgg124
  z233 := Tryd.sizeOf124
  v233 := Tryd.zeroValue124
  g17 := by kernel_rfl
  g18 := by kernel_rfl
  g19 := by kernel_rfl
  i0 := by kernel_rfl
  i2 := by kernel_rfl
  i3 := by kernel_rfl
  i4 := by kernel_rfl
  i5 := by kernel_rfl
  i9 := by kernel_rfl
  i20 := by kernel_rfl
  i37 := by kernel_rfl
  i46 := by kernel_rfl
  i51 := by kernel_rfl
  i53 := by kernel_rfl
  i171 := by kernel_rfl
  i173 := by kernel_rfl
  i212 := by kernel_rfl
  i232 := by kernel_rfl
  i233 := by kernel_rfl
  m17 := by kernel_rfl
  m18 := by kernel_rfl
  m19 := by kernel_rfl }
open Go.RowKit Go.Sort Go.Lib in
theorem Tryd.strconv_Itoa (n : Int) (h0 : -9223372036854775808 ≤ n) (h1 : n ≤ 9223372036854775807) (w : World) (htab : Lib.TabIs Tryd.prog w "internal/strconv.uint64pow10" .u64 Lib.pow10Tab) :
    Calls Tryd.prog 32 #[.int .i64 n] w fun e w' => e = .returned (.string ⟨(Lib.itoa n).toArray⟩) ∧ ∃ k os, w' = grow (w.drewN k) os := Any.strconv_Itoa Tryd.laysM171 n h0 h1 w htab
def Tryd.lays171_ren : Go.Shelf.Ren := ⟨fun | 171 => 32 | 243 => 45 | 246 => 56 | 283 => 63 | 284 => 64 | 285 => 65 | 286 => 66 | 129 => 73 | 317 => 72 | 318 => 74 | 319 => 75 | 320 => 76 | 337 => 77 | 338 => 78 | n => n, fun | 3 => 3 | 9 => 9 | 2 => 2 | 4 => 4 | 171 => 87 | 0 => 0 | 53 => 88 | 37 => 56 | 5 => 5 | 173 => 91 | 212 => 113 | 51 => 83 | 20 => 20 | 213 => 114 | 46 => 93 | 232 => 123 | 233 => 124 | n => n, fun | 17 => 8 | 18 => 9 | 19 => 10 | n => n⟩
theorem Tryd.lays171 : Go.Proofs.Lays.n171 Tryd.prog Tryd.lays171_ren := {
  mixed := by kernel_rfl
  f129 := Tryd.func73.trans (congrArg some (by kernel_rfl))
  f171 := Tryd.func32.trans (congrArg some (by kernel_rfl))
  f243 := Tryd.func45.trans (congrArg some (by kernel_rfl))
  f246 := Tryd.func56.trans (congrArg some (by kernel_rfl))
  f283 := Tryd.func63.trans (congrArg some (by kernel_rfl))
  f284 := Tryd.func64.trans (congrArg some (by kernel_rfl))
  f285 := Tryd.func65.trans (congrArg some (by kernel_rfl))
  f286 := Tryd.func66.trans (congrArg some (by kernel_rfl))
  f317 := Tryd.func72.trans (congrArg some (by kernel_rfl))
  f318 := Tryd.func74.trans (congrArg some (by kernel_rfl))
  f319 := Tryd.func75.trans (congrArg some (by kernel_rfl))
  f320 := Tryd.func76.trans (congrArg some (by kernel_rfl))
  f337 := Tryd.func77.trans (congrArg some (by kernel_rfl))
  f338 := Tryd.func78.trans (congrArg some (by kernel_rfl))
  t0 := Tryd.underlying0
  a0 := Tryd.isAgg0
  z0 := Tryd.sizeOf0
  v0 := Tryd.zeroValue0
  t2 := Tryd.underlying2
  a2 := Tryd.isAgg2
  z2 := Tryd.sizeOf2
  v2 := Tryd.zeroValue2
  t3 := Tryd.underlying3
  a3 := Tryd.isAgg3
  z3 := Tryd.sizeOf3
  v3 := Tryd.zeroValue3
  t4 := Tryd.underlying4
  a4 := Tryd.isAgg4
  z4 := Tryd.sizeOf4
  v4 := Tryd.zeroValue4
  t5 := Tryd.underlying5
  a5 := Tryd.isAgg5
  z5 := Tryd.sizeOf5
  v5 := Tryd.zeroValue5
  t9 := Tryd.underlying9
  a9 := Tryd.isAgg9
  z9 := Tryd.sizeOf9
  v9 := Tryd.zeroValue9
  t20 := Tryd.underlying20
  a20 := Tryd.isAgg20
  z20 := Tryd.sizeOf20
  v20 := Tryd.zeroValue20
  t37 := Tryd.underlying56
  a37 := Tryd.isAgg56
  z37 := Tryd.sizeOf56
  v37 := Tryd.zeroValue56
  t46 := Tryd.underlying93
  a46 := Tryd.isAgg93
  z46 := Tryd.sizeOf93
  v46 := Tryd.zeroValue93
  t51 := Tryd.underlying83
  a51 := Tryd.isAgg83
  z51 := Tryd.sizeOf83
  v51 := Tryd.zeroValue83
  t53 := Tryd.underlying88
  a53 := Tryd.isAgg88
  z53 := Tryd.sizeOf88
  v53 := Tryd.zeroValue88
  t171 := Tryd.underlying87
  a171 := Tryd.isAgg87
  z171 := Tryd.sizeOf87
  v171 := Tryd.zeroValue87
  t173 := Tryd.underlying91
  a173 := Tryd.isAgg91
  z173 := Tryd.sizeOf91
  v173 := Tryd.zeroValue91
  t212 := Tryd.underlying113
  a212 := Tryd.isAgg113
  z212 := Tryd.sizeOf113
  v212 := Tryd.zeroValue113
  t213 := Tryd.underlying114
  a213 := Tryd.isAgg114
  z213 := Tryd.sizeOf114
  t232 := Tryd.underlying123
  a232 := Tryd.isAgg123
  z232 := Tryd.sizeOf123
  v232 := Tryd.zeroValue123
  t233 := Tryd.underlying124
  a233 := Tryd.isAgg124
  z233 := Tryd.sizeOf124
  v233 := Tryd.zeroValue124
  g17 := by kernel_rfl
  g18 := by kernel_rfl
  g19 := by kernel_rfl }
open Go.RowKit Go.Sort Go.Lib in
theorem Tryd.strconv_Itoa_small (i : Nat) (hi : i < 100) (w : World) :
    Calls Tryd.prog 32 #[.int .i64 i] w fun e w' => e = .returned (.string ⟨(Lib.decDigits i).toArray⟩) ∧ w' = w := Any.strconv_Itoa_small Tryd.lays171 i hi w
def Tryd.lays198_ren : Go.Shelf.Ren := ⟨fun | 198 => 54 | 261 => 62 | 311 => 70 | 312 => 71 | n => n, fun | 21 => 21 | 4 => 4 | 141 => 86 | 0 => 0 | 196 => 103 | 193 => 100 | 3 => 3 | 51 => 83 | 198 => 106 | 49 => 104 | 194 => 101 | 201 => 109 | 226 => 120 | 46 => 93 | 227 => 121 | n => n, fun | 5 => 3 | n => n⟩
theorem Tryd.lays198 : Go.Proofs.Lays.n198 Tryd.prog Tryd.lays198_ren := {
  mixed := by kernel_rfl
  f198 := Tryd.func54.trans (congrArg some (by kernel_rfl))
  f261 := Tryd.func62.trans (congrArg some (by kernel_rfl))
  f311 := Tryd.func70.trans (congrArg some (by kernel_rfl))
  f312 := Tryd.func71.trans (congrArg some (by kernel_rfl))
  t0 := Tryd.underlying0
  a0 := Tryd.isAgg0
  z0 := Tryd.sizeOf0
  v0 := Tryd.zeroValue0
  t3 := Tryd.underlying3
  a3 := Tryd.isAgg3
  z3 := Tryd.sizeOf3
  v3 := Tryd.zeroValue3
  t4 := Tryd.underlying4
  a4 := Tryd.isAgg4
  z4 := Tryd.sizeOf4
  v4 := Tryd.zeroValue4
  t21 := Tryd.underlying21
  a21 := Tryd.isAgg21
  z21 := Tryd.sizeOf21
  v21 := Tryd.zeroValue21
  t46 := Tryd.underlying93
  a46 := Tryd.isAgg93
  z46 := Tryd.sizeOf93
  v46 := Tryd.zeroValue93
  t49 := Tryd.underlying104
  a49 := Tryd.isAgg104
  z49 := Tryd.sizeOf104
  v49 := Tryd.zeroValue104
  t51 := Tryd.underlying83
  a51 := Tryd.isAgg83
  z51 := Tryd.sizeOf83
  v51 := Tryd.zeroValue83
  t141 := Tryd.underlying86
  a141 := Tryd.isAgg86
  z141 := Tryd.sizeOf86
  v141 := Tryd.zeroValue86
  t193 := Tryd.underlying100
  a193 := Tryd.isAgg100
  z193 := Tryd.sizeOf100
  v193 := Tryd.zeroValue100
  t194 := Tryd.underlying101
  a194 := Tryd.isAgg101
  z194 := Tryd.sizeOf101
  v194 := Tryd.zeroValue101
  t196 := Tryd.underlying103
  a196 := Tryd.isAgg103
  z196 := Tryd.sizeOf103
  v196 := Tryd.zeroValue103
  t198 := Tryd.underlying106
  a198 := Tryd.isAgg106
  z198 := Tryd.sizeOf106
  v198 := Tryd.zeroValue106
  t201 := Tryd.underlying109
  a201 := Tryd.isAgg109
  z201 := Tryd.sizeOf109
  v201 := Tryd.zeroValue109
  t226 := Tryd.underlying120
  a226 := Tryd.isAgg120
  z226 := Tryd.sizeOf120
  v226 := Tryd.zeroValue120
  t227 := Tryd.underlying121
  a227 := Tryd.isAgg121
  z227 := Tryd.sizeOf121
  v227 := Tryd.zeroValue121
  g5 := by kernel_rfl }
open Go.RowKit Go.Lib in
theorem Tryd.unicode_IsDigit (r : Int) (w : World) (h : r ≤ 255) :
    Calls Tryd.prog 54 #[.int .i32 r] w fun e w' => e = .returned (.bool (Lib.isDigitL r)) ∧ w' = w := Any.unicode_IsDigit Tryd.lays198 r w h
def Tryd.lays199_ren : Go.Shelf.Ren := ⟨fun | 199 => 55 | 261 => 62 | 311 => 70 | 312 => 71 | n => n, fun | 21 => 21 | 4 => 4 | 51 => 83 | 141 => 86 | 0 => 0 | 196 => 103 | 193 => 100 | 3 => 3 | 198 => 106 | 49 => 104 | 194 => 101 | 201 => 109 | 226 => 120 | 46 => 93 | 227 => 121 | n => n, fun | 6 => 4 | n => n⟩
theorem Tryd.lays199 : Go.Proofs.Lays.n199 Tryd.prog Tryd.lays199_ren := {
  mixed := by kernel_rfl
  f199 := Tryd.func55.trans (congrArg some (by kernel_rfl))
  f261 := Tryd.func62.trans (congrArg some (by kernel_rfl))
  f311 := Tryd.func70.trans (congrArg some (by kernel_rfl))
  f312 := Tryd.func71.trans (congrArg some (by kernel_rfl))
  t0 := Tryd.underlying0
  a0 := Tryd.isAgg0
  z0 := Tryd.sizeOf0
  v0 := Tryd.zeroValue0
  t3 := Tryd.underlying3
  a3 := Tryd.isAgg3
  z3 := Tryd.sizeOf3
  v3 := Tryd.zeroValue3
  t4 := Tryd.underlying4
  a4 := Tryd.isAgg4
  z4 := Tryd.sizeOf4
  v4 := Tryd.zeroValue4
  t21 := Tryd.underlying21
  a21 := Tryd.isAgg21
  z21 := Tryd.sizeOf21
  v21 := Tryd.zeroValue21
  t46 := Tryd.underlying93
  a46 := Tryd.isAgg93
  z46 := Tryd.sizeOf93
  v46 := Tryd.zeroValue93
  t49 := Tryd.underlying104
  a49 := Tryd.isAgg104
  z49 := Tryd.sizeOf104
  v49 := Tryd.zeroValue104
  t51 := Tryd.underlying83
  a51 := Tryd.isAgg83
  z51 := Tryd.sizeOf83
  v51 := Tryd.zeroValue83
  t141 := Tryd.underlying86
  a141 := Tryd.isAgg86
  z141 := Tryd.sizeOf86
  v141 := Tryd.zeroValue86
  t193 := Tryd.underlying100
  a193 := Tryd.isAgg100
  z193 := Tryd.sizeOf100
  v193 := Tryd.zeroValue100
  t194 := Tryd.underlying101
  a194 := Tryd.isAgg101
  z194 := Tryd.sizeOf101
  v194 := Tryd.zeroValue101
  t196 := Tryd.underlying103
  a196 := Tryd.isAgg103
  z196 := Tryd.sizeOf103
  v196 := Tryd.zeroValue103
  t198 := Tryd.underlying106
  a198 := Tryd.isAgg106
  z198 := Tryd.sizeOf106
  v198 := Tryd.zeroValue106
  t201 := Tryd.underlying109
  a201 := Tryd.isAgg109
  z201 := Tryd.sizeOf109
  v201 := Tryd.zeroValue109
  t226 := Tryd.underlying120
  a226 := Tryd.isAgg120
  z226 := Tryd.sizeOf120
  v226 := Tryd.zeroValue120
  t227 := Tryd.underlying121
  a227 := Tryd.isAgg121
  z227 := Tryd.sizeOf121
  v227 := Tryd.zeroValue121
  g6 := by kernel_rfl }
open Go.RowKit Go.Lib in
theorem Tryd.unicode_IsSpace (r : Int) (w : World) (h0 : 0 ≤ r) (h : r ≤ 255) :
    Calls Tryd.prog 55 #[.int .i32 r] w fun e w' => e = .returned (.bool (Lib.isSpaceL r)) ∧ w' = w := Any.unicode_IsSpace Tryd.lays199 r w h0 h
def Tryd.lays203_ren : Go.Shelf.Ren := ⟨fun | 203 => 41 | 262 => 52 | 313 => 61 | 274 => 68 | 275 => 69 | n => n, fun | 21 => 21 | 4 => 4 | 3 => 3 | 162 => 82 | 203 => 80 | 160 => 97 | 46 => 93 | 0 => 0 | 208 => 119 | 51 => 83 | 206 => 117 | n => n, fun | 13 => 0 | n => n⟩
theorem Tryd.lays203 : Go.Proofs.Lays.n203 Tryd.prog Tryd.lays203_ren := {
  mixed := by kernel_rfl
  f203 := Tryd.func41.trans (congrArg some (by kernel_rfl))
  f262 := Tryd.func52.trans (congrArg some (by kernel_rfl))
  f274 := Tryd.func68.trans (congrArg some (by kernel_rfl))
  f275 := Tryd.func69.trans (congrArg some (by kernel_rfl))
  f313 := Tryd.func61.trans (congrArg some (by kernel_rfl))
  t0 := Tryd.underlying0
  a0 := Tryd.isAgg0
  z0 := Tryd.sizeOf0
  v0 := Tryd.zeroValue0
  t3 := Tryd.underlying3
  a3 := Tryd.isAgg3
  z3 := Tryd.sizeOf3
  v3 := Tryd.zeroValue3
  t4 := Tryd.underlying4
  a4 := Tryd.isAgg4
  z4 := Tryd.sizeOf4
  v4 := Tryd.zeroValue4
  t21 := Tryd.underlying21
  a21 := Tryd.isAgg21
  z21 := Tryd.sizeOf21
  v21 := Tryd.zeroValue21
  t46 := Tryd.underlying93
  a46 := Tryd.isAgg93
  z46 := Tryd.sizeOf93
  v46 := Tryd.zeroValue93
  t51 := Tryd.underlying83
  a51 := Tryd.isAgg83
  z51 := Tryd.sizeOf83
  v51 := Tryd.zeroValue83
  t160 := Tryd.underlying97
  a160 := Tryd.isAgg97
  z160 := Tryd.sizeOf97
  v160 := Tryd.zeroValue97
  t162 := Tryd.underlying82
  a162 := Tryd.isAgg82
  z162 := Tryd.sizeOf82
  v162 := Tryd.zeroValue82
  t203 := Tryd.underlying80
  a203 := Tryd.isAgg80
  z203 := Tryd.sizeOf80
  v203 := Tryd.zeroValue80
  t206 := Tryd.underlying117
  a206 := Tryd.isAgg117
  z206 := Tryd.sizeOf117
  v206 := Tryd.zeroValue117
  t208 := Tryd.underlying119
  a208 := Tryd.isAgg119
  z208 := Tryd.sizeOf119
  v208 := Tryd.zeroValue119
  g13 := by kernel_rfl }
open Go.RowKit Go.Lib in
theorem Tryd.unicode_ToUpper (r : Int) (w : World) (h : r ≤ 127) :
    Calls Tryd.prog 41 #[.int .i32 r] w fun e w' => e = .returned (.int .i32 (Lib.toUpperR r)) ∧ w' = w := Any.unicode_ToUpper Tryd.lays203 r w h
def Tryd.lays204_ren : Go.Shelf.Ren := ⟨fun | 204 => 38 | 262 => 52 | 313 => 61 | 274 => 68 | 275 => 69 | n => n, fun | 21 => 21 | 4 => 4 | 3 => 3 | 162 => 82 | 203 => 80 | 160 => 97 | 46 => 93 | 0 => 0 | 208 => 119 | 51 => 83 | 206 => 117 | n => n, fun | 13 => 0 | n => n⟩
theorem Tryd.lays204 : Go.Proofs.Lays.n204 Tryd.prog Tryd.lays204_ren := {
  mixed := by kernel_rfl
  f204 := Tryd.func38.trans (congrArg some (by kernel_rfl))
  f262 := Tryd.func52.trans (congrArg some (by kernel_rfl))
  f274 := Tryd.func68.trans (congrArg some (by kernel_rfl))
  f275 := Tryd.func69.trans (congrArg some (by kernel_rfl))
  f313 := Tryd.func61.trans (congrArg some (by kernel_rfl))
  t0 := Tryd.underlying0
  a0 := Tryd.isAgg0
  z0 := Tryd.sizeOf0
  v0 := Tryd.zeroValue0
  t3 := Tryd.underlying3
  a3 := Tryd.isAgg3
  z3 := Tryd.sizeOf3
  v3 := Tryd.zeroValue3
  t4 := Tryd.underlying4
  a4 := Tryd.isAgg4
  z4 := Tryd.sizeOf4
  v4 := Tryd.zeroValue4
  t21 := Tryd.underlying21
  a21 := Tryd.isAgg21
  z21 := Tryd.sizeOf21
  v21 := Tryd.zeroValue21
  t46 := Tryd.underlying93
  a46 := Tryd.isAgg93
  z46 := Tryd.sizeOf93
  v46 := Tryd.zeroValue93
  t51 := Tryd.underlying83
  a51 := Tryd.isAgg83
  z51 := Tryd.sizeOf83
  v51 := Tryd.zeroValue83
  t160 := Tryd.underlying97
  a160 := Tryd.isAgg97
  z160 := Tryd.sizeOf97
  v160 := Tryd.zeroValue97
  t162 := Tryd.underlying82
  a162 := Tryd.isAgg82
  z162 := Tryd.sizeOf82
  v162 := Tryd.zeroValue82
  t203 := Tryd.underlying80
  a203 := Tryd.isAgg80
  z203 := Tryd.sizeOf80
  v203 := Tryd.zeroValue80
  t206 := Tryd.underlying117
  a206 := Tryd.isAgg117
  z206 := Tryd.sizeOf117
  v206 := Tryd.zeroValue117
  t208 := Tryd.underlying119
  a208 := Tryd.isAgg119
  z208 := Tryd.sizeOf119
  v208 := Tryd.zeroValue119
  g13 := by kernel_rfl }
open Go.RowKit Go.Lib in
theorem Tryd.unicode_ToLower (r : Int) (w : World) (h : r ≤ 127) :
    Calls Tryd.prog 38 #[.int .i32 r] w fun e w' => e = .returned (.int .i32 (Lib.toLowerR r)) ∧ w' = w := Any.unicode_ToLower Tryd.lays204 r w h
def Tryd.lays200_ren : Go.Shelf.Ren := ⟨fun | 200 => 53 | 261 => 62 | 311 => 70 | 312 => 71 | n => n, fun | 21 => 21 | 4 => 4 | 51 => 83 | 5 => 5 | 119 => 84 | 0 => 0 | 141 => 86 | 196 => 103 | 193 => 100 | 3 => 3 | 198 => 106 | 49 => 104 | 194 => 101 | 201 => 109 | 226 => 120 | 46 => 93 | 227 => 121 | n => n, fun | 7 => 1 | 8 => 2 | n => n⟩
theorem Tryd.lays200 : Go.Proofs.Lays.n200 Tryd.prog Tryd.lays200_ren := {
  mixed := by kernel_rfl
  f200 := Tryd.func53.trans (congrArg some (by kernel_rfl))
  f261 := Tryd.func62.trans (congrArg some (by kernel_rfl))
  f311 := Tryd.func70.trans (congrArg some (by kernel_rfl))
  f312 := Tryd.func71.trans (congrArg some (by kernel_rfl))
  t0 := Tryd.underlying0
  a0 := Tryd.isAgg0
  z0 := Tryd.sizeOf0
  v0 := Tryd.zeroValue0
  t3 := Tryd.underlying3
  a3 := Tryd.isAgg3
  z3 := Tryd.sizeOf3
  v3 := Tryd.zeroValue3
  t4 := Tryd.underlying4
  a4 := Tryd.isAgg4
  z4 := Tryd.sizeOf4
  v4 := Tryd.zeroValue4
  t5 := Tryd.underlying5
  a5 := Tryd.isAgg5
  z5 := Tryd.sizeOf5
  v5 := Tryd.zeroValue5
  t21 := Tryd.underlying21
  a21 := Tryd.isAgg21
  z21 := Tryd.sizeOf21
  v21 := Tryd.zeroValue21
  t46 := Tryd.underlying93
  a46 := Tryd.isAgg93
  z46 := Tryd.sizeOf93
  v46 := Tryd.zeroValue93
  t49 := Tryd.underlying104
  a49 := Tryd.isAgg104
  z49 := Tryd.sizeOf104
  v49 := Tryd.zeroValue104
  t51 := Tryd.underlying83
  a51 := Tryd.isAgg83
  z51 := Tryd.sizeOf83
  v51 := Tryd.zeroValue83
  t119 := Tryd.underlying84
  a119 := Tryd.isAgg84
  z119 := Tryd.sizeOf84
  t141 := Tryd.underlying86
  a141 := Tryd.isAgg86
  z141 := Tryd.sizeOf86
  v141 := Tryd.zeroValue86
  t193 := Tryd.underlying100
  a193 := Tryd.isAgg100
  z193 := Tryd.sizeOf100
  v193 := Tryd.zeroValue100
  t194 := Tryd.underlying101
  a194 := Tryd.isAgg101
  z194 := Tryd.sizeOf101
  v194 := Tryd.zeroValue101
  t196 := Tryd.underlying103
  a196 := Tryd.isAgg103
  z196 := Tryd.sizeOf103
  v196 := Tryd.zeroValue103
  t198 := Tryd.underlying106
  a198 := Tryd.isAgg106
  z198 := Tryd.sizeOf106
  v198 := Tryd.zeroValue106
  t201 := Tryd.underlying109
  a201 := Tryd.isAgg109
  z201 := Tryd.sizeOf109
  v201 := Tryd.zeroValue109
  t226 := Tryd.underlying120
  a226 := Tryd.isAgg120
  z226 := Tryd.sizeOf120
  v226 := Tryd.zeroValue120
  t227 := Tryd.underlying121
  a227 := Tryd.isAgg121
  z227 := Tryd.sizeOf121
  v227 := Tryd.zeroValue121
  g7 := by kernel_rfl
  g8 := by kernel_rfl }
open Go.RowKit Go.Lib in
theorem Tryd.unicode_IsLetter (c : Nat) (w : World) (hc : c < 256) (htab : Lib.TabIs Tryd.prog w "unicode.properties" .u8 Lib.propertiesTab) :
    Calls Tryd.prog 53 #[.int .i32 c] w fun e w' => e = .returned (.bool (Lib.isLetterL c)) ∧ w' = w := Any.unicode_IsLetter Tryd.lays200 (by kernel_rfl) c w hc htab
def Tryd.laysM200_ren : Go.Shelf.Ren := ⟨fun | 200 => 53 | 261 => 62 | 311 => 70 | 312 => 71 | n => n, fun | 21 => 21 | 4 => 4 | 51 => 83 | 5 => 5 | 119 => 84 | 0 => 0 | 141 => 86 | 196 => 103 | 193 => 100 | 3 => 3 | 198 => 106 | 49 => 104 | 194 => 101 | 201 => 109 | 226 => 120 | 46 => 93 | 227 => 121 | n => n, fun | 7 => 1 | 8 => 2 | n => n⟩
theorem Tryd.laysM200 : Go.Proofs.LaysM.n200 Tryd.prog Tryd.laysM200_ren := {
  mixed := by kernel_rfl
  f200 := Tryd.func53.trans (congrArg some (by kernel_rfl))
  f261 := Tryd.func62.trans (congrArg some (by kernel_rfl))
  f311 := Tryd.func70.trans (congrArg some (by kernel_rfl))
  f312 := Tryd.func71.trans (congrArg some (by kernel_rfl))
  t0 := Tryd.underlying0
  a0 := Tryd.isAgg0
  z0 := Tryd.sizeOf0
  v0 := Tryd.zeroValue0
  t3 := Tryd.underlying3
  a3 := Tryd.isAgg3
  z3 := Tryd.sizeOf3
  v3 := Tryd.zeroValue3
  t4 := Tryd.underlying4
  a4 := Tryd.isAgg4
  z4 := Tryd.sizeOf4
  v4 := Tryd.zeroValue4
  t5 := Tryd.underlying5
  a5 := Tryd.isAgg5
  z5 := Tryd.sizeOf5
  v5 := Tryd.zeroValue5
  t21 := Tryd.underlying21
  a21 := Tryd.isAgg21
  z21 := Tryd.sizeOf21
  v21 := Tryd.zeroValue21
  t46 := Tryd.underlying93
  a46 := Tryd.isAgg93
  z46 := Tryd.sizeOf93
  v46 := Tryd.zeroValue93
  t49 := Tryd.underlying104
  a49 := Tryd.isAgg104
  z49 := Tryd.sizeOf104
  v49 := Tryd.zeroValue104
  t51 := Tryd.underlying83
  a51 := Tryd.isAgg83
  z51 := Tryd.sizeOf83
  v51 := Tryd.zeroValue83
  t119 := Tryd.underlying84
  a119 := Tryd.isAgg84
  z119 := Tryd.sizeOf84
  t141 := Tryd.underlying86
  a141 := Tryd.isAgg86
  z141 := Tryd.sizeOf86
  v141 := Tryd.zeroValue86
  t193 := Tryd.underlying100
  a193 := Tryd.isAgg100
  z193 := Tryd.sizeOf100
  v193 := Tryd.zeroValue100
  t194 := Tryd.underlying101
  a194 := Tryd.isAgg101
  z194 := Tryd.sizeOf101
  v194 := Tryd.zeroValue101
  t196 := Tryd.underlying103
  a196 := Tryd.isAgg103
  z196 := Tryd.sizeOf103
  v196 := Tryd.zeroValue103
  t198 := Tryd.underlying106
  a198 := Tryd.isAgg106
  z198 := Tryd.sizeOf106
  v198 := Tryd.zeroValue106
  t201 := Tryd.underlying109
  a201 := Tryd.isAgg109
  z201 := Tryd.sizeOf109
  v201 := Tryd.zeroValue109
  t226 := Tryd.underlying120
  a226 := Tryd.isAgg120
  z226 := Tryd.sizeOf120
  v226 := Tryd.zeroValue120
  t227 := Tryd.underlying121
  a227 := Tryd.isAgg121
  z227 := Tryd.sizeOf121
  v227 := Tryd.zeroValue121
  g7 := by kernel_rfl
  g8 := by kernel_rfl
  i0 := by kernel_rfl
  i3 := by kernel_rfl
  i4 := by kernel_rfl
  i5 := by kernel_rfl
  i21 := by kernel_rfl
  i46 := by kernel_rfl
  i49 := by kernel_rfl
  i51 := by kernel_rfl
  i141 := by kernel_rfl
  i193 := by kernel_rfl
  i194 := by kernel_rfl
  i196 := by kernel_rfl
  i198 := by kernel_rfl
  i201 := by kernel_rfl
  i226 := by kernel_rfl
  i227 := by kernel_rfl
  m7 := by kernel_rfl
  m8 := by kernel_rfl }
open Go.RowKit Go.Lib in
theorem Tryd.unicode_IsLetter_laid (c : Nat) (w : World) (hc : c < 256) (htab : Lib.TabIs Tryd.prog w "unicode.properties" .u8 Lib.propertiesTab) :
    Calls Tryd.prog 53 #[.int .i32 c] w fun e w' => e = .returned (.bool (Lib.isLetterL c)) ∧ w' = w := Any.unicode_IsLetter_laid Tryd.laysM200 c w hc htab
def Tryd.lays197_ren : Go.Shelf.Ren := ⟨fun | 197 => 48 | 260 => 59 | n => n, fun | 9 => 9 | 21 => 21 | 3 => 3 | 4 => 4 | 5 => 5 | 105 => 69 | 119 => 84 | 0 => 0 | 46 => 93 | 139 => 96 | 138 => 95 | n => n, fun | 3 => 6 | 4 => 7 | n => n⟩
theorem Tryd.lays197 : Go.Proofs.Lays.n197 Tryd.prog Tryd.lays197_ren := {
  mixed := by kernel_rfl
  f197 := Tryd.func48.trans (congrArg some (by kernel_rfl))
  f260 := Tryd.func59.trans (congrArg some (by kernel_rfl))
  t0 := Tryd.underlying0
  a0 := Tryd.isAgg0
  z0 := Tryd.sizeOf0
  v0 := Tryd.zeroValue0
  t3 := Tryd.underlying3
  a3 := Tryd.isAgg3
  z3 := Tryd.sizeOf3
  v3 := Tryd.zeroValue3
  t4 := Tryd.underlying4
  a4 := Tryd.isAgg4
  z4 := Tryd.sizeOf4
  v4 := Tryd.zeroValue4
  t5 := Tryd.underlying5
  a5 := Tryd.isAgg5
  z5 := Tryd.sizeOf5
  v5 := Tryd.zeroValue5
  t9 := Tryd.underlying9
  a9 := Tryd.isAgg9
  z9 := Tryd.sizeOf9
  v9 := Tryd.zeroValue9
  t21 := Tryd.underlying21
  a21 := Tryd.isAgg21
  z21 := Tryd.sizeOf21
  v21 := Tryd.zeroValue21
  t46 := Tryd.underlying93
  a46 := Tryd.isAgg93
  z46 := Tryd.sizeOf93
  v46 := Tryd.zeroValue93
  t105 := Tryd.underlying69
  a105 := Tryd.isAgg69
  z105 := Tryd.sizeOf69
  v105 := Tryd.zeroValue69
  t119 := Tryd.underlying84
  a119 := Tryd.isAgg84
  z119 := Tryd.sizeOf84
  t138 := Tryd.underlying95
  a138 := Tryd.isAgg95
  z138 := Tryd.sizeOf95
  v138 := Tryd.zeroValue95
  t139 := Tryd.underlying96
  a139 := Tryd.isAgg96
  z139 := Tryd.sizeOf96
  v139 := Tryd.zeroValue96
  g3 := by kernel_rfl
  g4 := by kernel_rfl }
open Go.RowKit Go.Lib in
theorem Tryd.utf8_DecodeRuneInString_ascii (s : ByteArray) (x : UInt8) (w : World) (h0 : s.data.toList[0]? = some x) (hx : x.toNat < 128) :
    Calls Tryd.prog 48 #[.string s] w fun e w' => e = .returned (.tuple #[.int .i32 x.toNat, .int .i64 1]) ∧ w' = w := Any.utf8_DecodeRuneInString_ascii Tryd.lays197 s x w h0 hx
def Tryd.lays260_ren : Go.Shelf.Ren := ⟨fun | 260 => 59 | n => n, fun | 9 => 9 | 21 => 21 | 3 => 3 | 4 => 4 | 5 => 5 | 119 => 84 | 0 => 0 | 46 => 93 | 139 => 96 | 138 => 95 | n => n, fun | 3 => 6 | 4 => 7 | n => n⟩
theorem Tryd.lays260 : Go.Proofs.Lays.n260 Tryd.prog Tryd.lays260_ren := {
  mixed := by kernel_rfl
  f260 := Tryd.func59.trans (congrArg some (by kernel_rfl))
  t0 := Tryd.underlying0
  a0 := Tryd.isAgg0
  z0 := Tryd.sizeOf0
  v0 := Tryd.zeroValue0
  t3 := Tryd.underlying3
  a3 := Tryd.isAgg3
  z3 := Tryd.sizeOf3
  v3 := Tryd.zeroValue3
  t4 := Tryd.underlying4
  a4 := Tryd.isAgg4
  z4 := Tryd.sizeOf4
  v4 := Tryd.zeroValue4
  t5 := Tryd.underlying5
  a5 := Tryd.isAgg5
  z5 := Tryd.sizeOf5
  v5 := Tryd.zeroValue5
  t9 := Tryd.underlying9
  a9 := Tryd.isAgg9
  z9 := Tryd.sizeOf9
  v9 := Tryd.zeroValue9
  t21 := Tryd.underlying21
  a21 := Tryd.isAgg21
  z21 := Tryd.sizeOf21
  v21 := Tryd.zeroValue21
  t46 := Tryd.underlying93
  a46 := Tryd.isAgg93
  z46 := Tryd.sizeOf93
  v46 := Tryd.zeroValue93
  t119 := Tryd.underlying84
  a119 := Tryd.isAgg84
  z119 := Tryd.sizeOf84
  t138 := Tryd.underlying95
  a138 := Tryd.isAgg95
  z138 := Tryd.sizeOf95
  v138 := Tryd.zeroValue95
  t139 := Tryd.underlying96
  a139 := Tryd.isAgg96
  z139 := Tryd.sizeOf96
  v139 := Tryd.zeroValue96
  g3 := by kernel_rfl
  g4 := by kernel_rfl }
open Go.RowKit Go.Lib in
theorem Tryd.utf8_decodeRuneInStringSlow (s : ByteArray) (w : World) (hT : Lib.Utf8Tabs 6 7 w) :
    Calls Tryd.prog 59 #[.string s] w fun e w' => e = .returned (.tuple #[.int .i32 (Lib.decodeGo s).1, .int .i64 (Lib.decodeGo s).2]) ∧ Below w.heap.size w w' := Any.utf8_decodeRuneInStringSlow Tryd.lays260 s w hT
open Go.RowKit Go.Lib in
theorem Tryd.utf8_DecodeRuneInString (s : ByteArray) (w : World) (hT : Lib.Utf8Tabs 6 7 w) :
    Calls Tryd.prog 48 #[.string s] w fun e w' => e = .returned (.tuple #[.int .i32 (Lib.decodeGo s).1, .int .i64 (Lib.decodeGo s).2]) ∧ Below w.heap.size w w' := Any.utf8_DecodeRuneInString Tryd.lays197 s w hT
def Tryd.lays311_ren : Go.Shelf.Ren := ⟨fun | 311 => 70 | n => n, fun | 193 => 100 | 49 => 104 | 4 => 4 | 3 => 3 | 0 => 0 | 226 => 120 | 198 => 106 | 46 => 93 | n => n, fun | n => n⟩
theorem Tryd.lays311 : Go.Proofs.Lays.n311 Tryd.prog Tryd.lays311_ren := {
  mixed := by kernel_rfl
  f311 := Tryd.func70.trans (congrArg some (by kernel_rfl))
  t0 := Tryd.underlying0
  a0 := Tryd.isAgg0
  z0 := Tryd.sizeOf0
  v0 := Tryd.zeroValue0
  t3 := Tryd.underlying3
  a3 := Tryd.isAgg3
  z3 := Tryd.sizeOf3
  v3 := Tryd.zeroValue3
  t4 := Tryd.underlying4
  a4 := Tryd.isAgg4
  z4 := Tryd.sizeOf4
  v4 := Tryd.zeroValue4
  t46 := Tryd.underlying93
  a46 := Tryd.isAgg93
  z46 := Tryd.sizeOf93
  v46 := Tryd.zeroValue93
  t49 := Tryd.underlying104
  a49 := Tryd.isAgg104
  z49 := Tryd.sizeOf104
  v49 := Tryd.zeroValue104
  t193 := Tryd.underlying100
  a193 := Tryd.isAgg100
  z193 := Tryd.sizeOf100
  v193 := Tryd.zeroValue100
  t198 := Tryd.underlying106
  a198 := Tryd.isAgg106
  z198 := Tryd.sizeOf106
  v198 := Tryd.zeroValue106
  t226 := Tryd.underlying120
  a226 := Tryd.isAgg120
  z226 := Tryd.sizeOf120
  v226 := Tryd.zeroValue120 }
open Go.RowKit Go.Lib in
theorem Tryd.unicode_is16_white (R oR : Nat) (z : Nat) (w : World) (hz : z < 65536) (hz0 : 255 < z) (c6 : w.cell? ⟨R, oR + 6, none⟩ = some (.int .u16 160)) (c7 : w.cell? ⟨R, oR + 7, none⟩ = some (.int .u16 5760)) (c8 : w.cell? ⟨R, oR + 8, none⟩ = some (.int .u16 5600)) (c9 : w.cell? ⟨R, oR + 9, none⟩ = some (.int .u16 8192)) (c10 : w.cell? ⟨R, oR + 10, none⟩ = some (.int .u16 8202)) (c11 : w.cell? ⟨R, oR + 11, none⟩ = some (.int .u16 1)) (c12 : w.cell? ⟨R, oR + 12, none⟩ = some (.int .u16 8232)) (c13 : w.cell? ⟨R, oR + 13, none⟩ = some (.int .u16 8233)) (c14 : w.cell? ⟨R, oR + 14, none⟩ = some (.int .u16 1)) (c15 : w.cell? ⟨R, oR + 15, none⟩ = some (.int .u16 8239)) (c16 : w.cell? ⟨R, oR + 16, none⟩ = some (.int .u16 8287)) (c17 : w.cell? ⟨R, oR + 17, none⟩ = some (.int .u16 48)) (c18 : w.cell? ⟨R, oR + 18, none⟩ = some (.int .u16 12288)) (c19 : w.cell? ⟨R, oR + 19, none⟩ = some (.int .u16 12288)) (c20 : w.cell? ⟨R, oR + 20, none⟩ = some (.int .u16 1)) :
    Calls Tryd.prog 70 #[.slice (some ⟨R, oR + 6, none⟩) 5 5, .int .u16 z] w fun e w' => e = .returned (.bool (Lib.isSpaceR z)) ∧ Below w.heap.size w w' := Any.unicode_is16_white Tryd.lays311 R oR z w hz hz0 c6 c7 c8 c9 c10 c11 c12 c13 c14 c15 c16 c17 c18 c19 c20
def Tryd.lays261_ren : Go.Shelf.Ren := ⟨fun | 261 => 62 | 311 => 70 | 312 => 71 | n => n, fun | 141 => 86 | 21 => 21 | 4 => 4 | 0 => 0 | 196 => 103 | 193 => 100 | 3 => 3 | 51 => 83 | 198 => 106 | 49 => 104 | 194 => 101 | 201 => 109 | 226 => 120 | 46 => 93 | 227 => 121 | n => n, fun | n => n⟩
theorem Tryd.lays261 : Go.Proofs.Lays.n261 Tryd.prog Tryd.lays261_ren := {
  mixed := by kernel_rfl
  f261 := Tryd.func62.trans (congrArg some (by kernel_rfl))
  f311 := Tryd.func70.trans (congrArg some (by kernel_rfl))
  f312 := Tryd.func71.trans (congrArg some (by kernel_rfl))
  t0 := Tryd.underlying0
  a0 := Tryd.isAgg0
  z0 := Tryd.sizeOf0
  v0 := Tryd.zeroValue0
  t3 := Tryd.underlying3
  a3 := Tryd.isAgg3
  z3 := Tryd.sizeOf3
  v3 := Tryd.zeroValue3
  t4 := Tryd.underlying4
  a4 := Tryd.isAgg4
  z4 := Tryd.sizeOf4
  v4 := Tryd.zeroValue4
  t21 := Tryd.underlying21
  a21 := Tryd.isAgg21
  z21 := Tryd.sizeOf21
  v21 := Tryd.zeroValue21
  t46 := Tryd.underlying93
  a46 := Tryd.isAgg93
  z46 := Tryd.sizeOf93
  v46 := Tryd.zeroValue93
  t49 := Tryd.underlying104
  a49 := Tryd.isAgg104
  z49 := Tryd.sizeOf104
  v49 := Tryd.zeroValue104
  t51 := Tryd.underlying83
  a51 := Tryd.isAgg83
  z51 := Tryd.sizeOf83
  v51 := Tryd.zeroValue83
  t141 := Tryd.underlying86
  a141 := Tryd.isAgg86
  z141 := Tryd.sizeOf86
  v141 := Tryd.zeroValue86
  t193 := Tryd.underlying100
  a193 := Tryd.isAgg100
  z193 := Tryd.sizeOf100
  v193 := Tryd.zeroValue100
  t194 := Tryd.underlying101
  a194 := Tryd.isAgg101
  z194 := Tryd.sizeOf101
  v194 := Tryd.zeroValue101
  t196 := Tryd.underlying103
  a196 := Tryd.isAgg103
  z196 := Tryd.sizeOf103
  v196 := Tryd.zeroValue103
  t198 := Tryd.underlying106
  a198 := Tryd.isAgg106
  z198 := Tryd.sizeOf106
  v198 := Tryd.zeroValue106
  t201 := Tryd.underlying109
  a201 := Tryd.isAgg109
  z201 := Tryd.sizeOf109
  v201 := Tryd.zeroValue109
  t226 := Tryd.underlying120
  a226 := Tryd.isAgg120
  z226 := Tryd.sizeOf120
  v226 := Tryd.zeroValue120
  t227 := Tryd.underlying121
  a227 := Tryd.isAgg121
  z227 := Tryd.sizeOf121
  v227 := Tryd.zeroValue121 }
open Go.RowKit Go.Lib in
theorem Tryd.unicode_isExcludingLatin_white (T oT R oR : Nat) (r : Int) (w : World) (hlo : -2147483648 ≤ r) (hhi : r ≤ 2147483647) (hr : r < 0 ∨ 255 < r) (h2 : w.cell? ⟨T, oT, none⟩ = some (.slice (some ⟨R, oR, none⟩) 7 7)) (h3 : w.cell? ⟨T, oT + 1, none⟩ = some (.slice none 0 0)) (h4 : w.cell? ⟨T, oT + 2, none⟩ = some (.int .i64 2)) (h5 : ∀ i, i < 21 → w.cell? ⟨R, oR + i, none⟩ = some (.int .u16 (whiteT.getD i 0))) :
    Calls Tryd.prog 62 #[.pointer (some ⟨T, oT, none⟩), .int .i32 r] w fun e w' => e = .returned (.bool (Lib.isSpaceZ r)) ∧ Below w.heap.size w w' := Any.unicode_isExcludingLatin_white Tryd.lays261 T oT R oR r w hlo hhi hr h2 h3 h4 h5
open Go.RowKit Go.Lib in
theorem Tryd.unicode_IsSpace_any (r : Int) (w : World) (hlo : -2147483648 ≤ r) (hhi : r ≤ 2147483647) (hW : Lib.WhiteTab 4 w) :
    Calls Tryd.prog 55 #[.int .i32 r] w fun e w' => e = .returned (.bool (Lib.isSpaceZ r)) ∧ Below w.heap.size w w' := Any.unicode_IsSpace_any Tryd.lays199 r w hlo hhi hW
open Go.RowKit Go.Lib in
theorem Tryd.unicode_is16_white_d (R oR : Nat) (z : Nat) (w : World) (hz : z < 65536) (hz0 : 255 < z) (c6 : w.cell? ⟨R, oR + 6, none⟩ = some (.int .u16 160)) (c7 : w.cell? ⟨R, oR + 7, none⟩ = some (.int .u16 5760)) (c8 : w.cell? ⟨R, oR + 8, none⟩ = some (.int .u16 5600)) (c9 : w.cell? ⟨R, oR + 9, none⟩ = some (.int .u16 8192)) (c10 : w.cell? ⟨R, oR + 10, none⟩ = some (.int .u16 8202)) (c11 : w.cell? ⟨R, oR + 11, none⟩ = some (.int .u16 1)) (c12 : w.cell? ⟨R, oR + 12, none⟩ = some (.int .u16 8232)) (c13 : w.cell? ⟨R, oR + 13, none⟩ = some (.int .u16 8233)) (c14 : w.cell? ⟨R, oR + 14, none⟩ = some (.int .u16 1)) (c15 : w.cell? ⟨R, oR + 15, none⟩ = some (.int .u16 8239)) (c16 : w.cell? ⟨R, oR + 16, none⟩ = some (.int .u16 8287)) (c17 : w.cell? ⟨R, oR + 17, none⟩ = some (.int .u16 48)) (c18 : w.cell? ⟨R, oR + 18, none⟩ = some (.int .u16 12288)) (c19 : w.cell? ⟨R, oR + 19, none⟩ = some (.int .u16 12288)) (c20 : w.cell? ⟨R, oR + 20, none⟩ = some (.int .u16 1)) :
    Calls Tryd.prog 70 #[.slice (some ⟨R, oR + 6, none⟩) 5 5, .int .u16 z] w fun e w' => e = .returned (.bool (Lib.isSpaceR z)) ∧ ∃ q, w' = w.drewN q := Any.unicode_is16_white_d Tryd.lays311 R oR z w hz hz0 c6 c7 c8 c9 c10 c11 c12 c13 c14 c15 c16 c17 c18 c19 c20
open Go.RowKit Go.Lib in
theorem Tryd.unicode_isExcludingLatin_white_d (T oT R oR : Nat) (r : Int) (w : World) (hlo : -2147483648 ≤ r) (hhi : r ≤ 2147483647) (hr : r < 0 ∨ 255 < r) (h2 : w.cell? ⟨T, oT, none⟩ = some (.slice (some ⟨R, oR, none⟩) 7 7)) (h3 : w.cell? ⟨T, oT + 1, none⟩ = some (.slice none 0 0)) (h4 : w.cell? ⟨T, oT + 2, none⟩ = some (.int .i64 2)) (h5 : ∀ i, i < 21 → w.cell? ⟨R, oR + i, none⟩ = some (.int .u16 (whiteT.getD i 0))) :
    Calls Tryd.prog 62 #[.pointer (some ⟨T, oT, none⟩), .int .i32 r] w fun e w' => e = .returned (.bool (Lib.isSpaceZ r)) ∧ ∃ q, w' = w.drewN q := Any.unicode_isExcludingLatin_white_d Tryd.lays261 T oT R oR r w hlo hhi hr h2 h3 h4 h5
open Go.RowKit Go.Lib in
theorem Tryd.unicode_IsSpace_any_d (r : Int) (w : World) (hlo : -2147483648 ≤ r) (hhi : r ≤ 2147483647) (hW : Lib.WhiteTab 4 w) :
    Calls Tryd.prog 55 #[.int .i32 r] w fun e w' => e = .returned (.bool (Lib.isSpaceZ r)) ∧ ∃ q, w' = w.drewN q := Any.unicode_IsSpace_any_d Tryd.lays199 r w hlo hhi hW
def Tryd.lays274_ren : Go.Shelf.Ren := ⟨fun | 274 => 68 | n => n, fun | 21 => 21 | 162 => 82 | 160 => 97 | 3 => 3 | 4 => 4 | 46 => 93 | 0 => 0 | 208 => 119 | 51 => 83 | 206 => 117 | n => n, fun | n => n⟩
theorem Tryd.lays274 : Go.Proofs.Lays.n274 Tryd.prog Tryd.lays274_ren := {
  mixed := by kernel_rfl
  f274 := Tryd.func68.trans (congrArg some (by kernel_rfl))
  t0 := Tryd.underlying0
  a0 := Tryd.isAgg0
  z0 := Tryd.sizeOf0
  v0 := Tryd.zeroValue0
  t3 := Tryd.underlying3
  a3 := Tryd.isAgg3
  z3 := Tryd.sizeOf3
  v3 := Tryd.zeroValue3
  t4 := Tryd.underlying4
  a4 := Tryd.isAgg4
  z4 := Tryd.sizeOf4
  v4 := Tryd.zeroValue4
  t21 := Tryd.underlying21
  a21 := Tryd.isAgg21
  z21 := Tryd.sizeOf21
  v21 := Tryd.zeroValue21
  t46 := Tryd.underlying93
  a46 := Tryd.isAgg93
  z46 := Tryd.sizeOf93
  v46 := Tryd.zeroValue93
  t51 := Tryd.underlying83
  a51 := Tryd.isAgg83
  z51 := Tryd.sizeOf83
  v51 := Tryd.zeroValue83
  t160 := Tryd.underlying97
  a160 := Tryd.isAgg97
  z160 := Tryd.sizeOf97
  v160 := Tryd.zeroValue97
  t162 := Tryd.underlying82
  a162 := Tryd.isAgg82
  z162 := Tryd.sizeOf82
  v162 := Tryd.zeroValue82
  t208 := Tryd.underlying119
  a208 := Tryd.isAgg119
  z208 := Tryd.sizeOf119
  v208 := Tryd.zeroValue119 }
open Go.RowKit Go.Lib in
theorem Tryd.unicode_lookupCaseRange (T : Array CaseRow) (R oR cap : Nat) (r : Int) (w : World) (hT : CaseTab R oR T w) (hok : CaseOk T) (hn : T.size ≤ 1000000000) :
    Calls Tryd.prog 68 #[.int .i32 r, .slice (some ⟨R, oR, none⟩) T.size cap] w fun e w' =>
      e = .returned (match lookupIdx T r (T.size + 1) 0 T.size with | some i => .pointer (some ⟨R, oR + i * 5, none⟩) | none => .pointer none) ∧ w' = w := Any.unicode_lookupCaseRange Tryd.lays274 T R oR cap r w hT hok hn
def Tryd.lays275_ren : Go.Shelf.Ren := ⟨fun | 275 => 69 | n => n, fun | 3 => 3 | 21 => 21 | 160 => 97 | 0 => 0 | 208 => 119 | 206 => 117 | 4 => 4 | 51 => 83 | n => n, fun | n => n⟩
theorem Tryd.lays275 : Go.Proofs.Lays.n275 Tryd.prog Tryd.lays275_ren := {
  mixed := by kernel_rfl
  f275 := Tryd.func69.trans (congrArg some (by kernel_rfl))
  t0 := Tryd.underlying0
  a0 := Tryd.isAgg0
  z0 := Tryd.sizeOf0
  v0 := Tryd.zeroValue0
  t3 := Tryd.underlying3
  a3 := Tryd.isAgg3
  z3 := Tryd.sizeOf3
  v3 := Tryd.zeroValue3
  t4 := Tryd.underlying4
  a4 := Tryd.isAgg4
  z4 := Tryd.sizeOf4
  v4 := Tryd.zeroValue4
  t21 := Tryd.underlying21
  a21 := Tryd.isAgg21
  z21 := Tryd.sizeOf21
  v21 := Tryd.zeroValue21
  t51 := Tryd.underlying83
  a51 := Tryd.isAgg83
  z51 := Tryd.sizeOf83
  v51 := Tryd.zeroValue83
  t160 := Tryd.underlying97
  a160 := Tryd.isAgg97
  z160 := Tryd.sizeOf97
  v160 := Tryd.zeroValue97
  t206 := Tryd.underlying117
  a206 := Tryd.isAgg117
  z206 := Tryd.sizeOf117
  v206 := Tryd.zeroValue117
  t208 := Tryd.underlying119
  a208 := Tryd.isAgg119
  z208 := Tryd.sizeOf119
  v208 := Tryd.zeroValue119 }
open Go.RowKit Go.Lib in
theorem Tryd.unicode_convertCase (c : Nat) (hc : c < 3) (r : Int) (A o : Nat) (x : CaseRow) (w : World) (hlo : (x.1 : Int) ≤ r) (hhi : r ≤ (x.2.1 : Int)) (hH : x.2.1 < 2147483647) (c0 : w.cell? ⟨A, o, none⟩ = some (.int .u32 x.1)) (cD : w.cell? ⟨A, o + 2 + c, none⟩ = some (.int .i32 (x.delta c))) :
    Calls Tryd.prog 69 #[.int .i64 c, .int .i32 r, .pointer (some ⟨A, o, none⟩)] w fun e w' => e = .returned (.int .i32 (wrap32 (convertR c r x))) ∧ ∃ q, w' = w.drewN q := Any.unicode_convertCase Tryd.lays275 c hc r A o x w hlo hhi hH c0 cD
def Tryd.lays313_ren : Go.Shelf.Ren := ⟨fun | 313 => 61 | 274 => 68 | 275 => 69 | n => n, fun | 3 => 3 | 21 => 21 | 162 => 82 | 4 => 4 | 160 => 97 | 46 => 93 | 0 => 0 | 208 => 119 | 51 => 83 | 206 => 117 | n => n, fun | n => n⟩
theorem Tryd.lays313 : Go.Proofs.Lays.n313 Tryd.prog Tryd.lays313_ren := {
  mixed := by kernel_rfl
  f274 := Tryd.func68.trans (congrArg some (by kernel_rfl))
  f275 := Tryd.func69.trans (congrArg some (by kernel_rfl))
  f313 := Tryd.func61.trans (congrArg some (by kernel_rfl))
  t0 := Tryd.underlying0
  a0 := Tryd.isAgg0
  z0 := Tryd.sizeOf0
  v0 := Tryd.zeroValue0
  t3 := Tryd.underlying3
  a3 := Tryd.isAgg3
  z3 := Tryd.sizeOf3
  v3 := Tryd.zeroValue3
  t4 := Tryd.underlying4
  a4 := Tryd.isAgg4
  z4 := Tryd.sizeOf4
  v4 := Tryd.zeroValue4
  t21 := Tryd.underlying21
  a21 := Tryd.isAgg21
  z21 := Tryd.sizeOf21
  v21 := Tryd.zeroValue21
  t46 := Tryd.underlying93
  a46 := Tryd.isAgg93
  z46 := Tryd.sizeOf93
  v46 := Tryd.zeroValue93
  t51 := Tryd.underlying83
  a51 := Tryd.isAgg83
  z51 := Tryd.sizeOf83
  v51 := Tryd.zeroValue83
  t160 := Tryd.underlying97
  a160 := Tryd.isAgg97
  z160 := Tryd.sizeOf97
  v160 := Tryd.zeroValue97
  t162 := Tryd.underlying82
  a162 := Tryd.isAgg82
  z162 := Tryd.sizeOf82
  v162 := Tryd.zeroValue82
  t206 := Tryd.underlying117
  a206 := Tryd.isAgg117
  z206 := Tryd.sizeOf117
  v206 := Tryd.zeroValue117
  t208 := Tryd.underlying119
  a208 := Tryd.isAgg119
  z208 := Tryd.sizeOf119
  v208 := Tryd.zeroValue119 }
open Go.RowKit Go.Lib in
theorem Tryd.unicode_to (c : Nat) (hc : c < 3) (r : Int) (T : Array CaseRow) (R oR cap : Nat) (w : World) (hT : CaseTab R oR T w) (hok : CaseOk2 T) (hn : T.size ≤ 1000000000) :
    Calls Tryd.prog 61 #[.int .i64 c, .int .i32 r, .slice (some ⟨R, oR, none⟩) T.size cap] w fun e w' => e = .returned (.tuple #[.int .i32 (toW T c r), .bool (lookupIdx T r (T.size + 1) 0 T.size).isSome]) ∧ ∃ q, w' = w.drewN q := Any.unicode_to Tryd.lays313 c hc r T R oR cap w hT hok hn
def Tryd.lays262_ren : Go.Shelf.Ren := ⟨fun | 262 => 52 | 313 => 61 | 274 => 68 | 275 => 69 | n => n, fun | 3 => 3 | 21 => 21 | 162 => 82 | 203 => 80 | 4 => 4 | 160 => 97 | 46 => 93 | 0 => 0 | 208 => 119 | 51 => 83 | 206 => 117 | n => n, fun | 13 => 0 | n => n⟩
theorem Tryd.lays262 : Go.Proofs.Lays.n262 Tryd.prog Tryd.lays262_ren := {
  mixed := by kernel_rfl
  f262 := Tryd.func52.trans (congrArg some (by kernel_rfl))
  f274 := Tryd.func68.trans (congrArg some (by kernel_rfl))
  f275 := Tryd.func69.trans (congrArg some (by kernel_rfl))
  f313 := Tryd.func61.trans (congrArg some (by kernel_rfl))
  t0 := Tryd.underlying0
  a0 := Tryd.isAgg0
  z0 := Tryd.sizeOf0
  v0 := Tryd.zeroValue0
  t3 := Tryd.underlying3
  a3 := Tryd.isAgg3
  z3 := Tryd.sizeOf3
  v3 := Tryd.zeroValue3
  t4 := Tryd.underlying4
  a4 := Tryd.isAgg4
  z4 := Tryd.sizeOf4
  v4 := Tryd.zeroValue4
  t21 := Tryd.underlying21
  a21 := Tryd.isAgg21
  z21 := Tryd.sizeOf21
  v21 := Tryd.zeroValue21
  t46 := Tryd.underlying93
  a46 := Tryd.isAgg93
  z46 := Tryd.sizeOf93
  v46 := Tryd.zeroValue93
  t51 := Tryd.underlying83
  a51 := Tryd.isAgg83
  z51 := Tryd.sizeOf83
  v51 := Tryd.zeroValue83
  t160 := Tryd.underlying97
  a160 := Tryd.isAgg97
  z160 := Tryd.sizeOf97
  v160 := Tryd.zeroValue97
  t162 := Tryd.underlying82
  a162 := Tryd.isAgg82
  z162 := Tryd.sizeOf82
  v162 := Tryd.zeroValue82
  t203 := Tryd.underlying80
  a203 := Tryd.isAgg80
  z203 := Tryd.sizeOf80
  v203 := Tryd.zeroValue80
  t206 := Tryd.underlying117
  a206 := Tryd.isAgg117
  z206 := Tryd.sizeOf117
  v206 := Tryd.zeroValue117
  t208 := Tryd.underlying119
  a208 := Tryd.isAgg119
  z208 := Tryd.sizeOf119
  v208 := Tryd.zeroValue119
  g13 := by kernel_rfl }
open Go.RowKit Go.Lib in
theorem Tryd.unicode_To (c : Nat) (hc : c < 3) (r : Int) (T : Array CaseRow) (w : World) (hV : CaseVar 0 T w) (hok : CaseOk2 T) (hn : T.size ≤ 1000000000) :
    Calls Tryd.prog 52 #[.int .i64 c, .int .i32 r] w fun e w' => e = .returned (.int .i32 (toW T c r)) ∧ ∃ q, w' = w.drewN q := Any.unicode_To Tryd.lays262 c hc r T w hV hok hn
open Go.RowKit Go.Lib in
theorem Tryd.unicode_ToLower_any (r : Int) (T : Array CaseRow) (w : World) (hV : CaseVar 0 T w) (hok : CaseOk2 T) (hn : T.size ≤ 1000000000) :
    Calls Tryd.prog 38 #[.int .i32 r] w fun e w' => e = .returned (.int .i32 (Lib.toLowerW T r)) ∧ ∃ q, w' = w.drewN q := Any.unicode_ToLower_any Tryd.lays204 r T w hV hok hn
open Go.RowKit Go.Lib in
theorem Tryd.unicode_ToUpper_any (r : Int) (T : Array CaseRow) (w : World) (hV : CaseVar 0 T w) (hok : CaseOk2 T) (hn : T.size ≤ 1000000000) :
    Calls Tryd.prog 41 #[.int .i32 r] w fun e w' => e = .returned (.int .i32 (Lib.toUpperW T r)) ∧ ∃ q, w' = w.drewN q := Any.unicode_ToUpper_any Tryd.lays203 r T w hV hok hn
open Go.RowKit Go.Lib in
theorem Tryd.unicode_ToLower_laid (r : Int) (w : World) (hV : CaseVar 0 caseA w) :
    Calls Tryd.prog 38 #[.int .i32 r] w fun e w' => e = .returned (.int .i32 (toLowerU r)) ∧ ∃ q, w' = w.drewN q := Any.unicode_ToLower_laid Tryd.lays204 r w hV
open Go.RowKit Go.Lib in
theorem Tryd.unicode_ToUpper_laid (r : Int) (w : World) (hV : CaseVar 0 caseA w) :
    Calls Tryd.prog 41 #[.int .i32 r] w fun e w' => e = .returned (.int .i32 (toUpperU r)) ∧ ∃ q, w' = w.drewN q := Any.unicode_ToUpper_laid Tryd.lays203 r w hV
def Tryd.lays270_ren : Go.Shelf.Ren := ⟨fun | 270 => 51 | n => n, fun | 70 => 55 | 3 => 3 | 0 => 0 | 72 => 58 | 37 => 56 | 5 => 5 | n => n, fun | n => n⟩
theorem Tryd.lays270 : Go.Proofs.Lays.n270 Tryd.prog Tryd.lays270_ren := {
  mixed := by kernel_rfl
  f270 := Tryd.func51.trans (congrArg some (by kernel_rfl))
  t0 := Tryd.underlying0
  a0 := Tryd.isAgg0
  z0 := Tryd.sizeOf0
  v0 := Tryd.zeroValue0
  t3 := Tryd.underlying3
  a3 := Tryd.isAgg3
  z3 := Tryd.sizeOf3
  v3 := Tryd.zeroValue3
  t37 := Tryd.underlying56
  a37 := Tryd.isAgg56
  z37 := Tryd.sizeOf56
  v37 := Tryd.zeroValue56
  t70 := Tryd.underlying55
  a70 := Tryd.isAgg55
  z70 := Tryd.sizeOf55
  v70 := Tryd.zeroValue55
  t72 := Tryd.underlying58
  a72 := Tryd.isAgg58
  z72 := Tryd.sizeOf58
  v72 := Tryd.zeroValue58 }
open Go.RowKit Go.Lib in
theorem Tryd.Builder_Cap_cell (b : Nat) (p : Option Addr) (n cap : Nat) (w : World) (c1 : w.cell? ⟨b, 1, none⟩ = some (.slice p n cap)) :
    Calls Tryd.prog 51 #[.pointer (some ⟨b, 0, none⟩)] w fun e w' => e = .returned (.int .i64 cap) ∧ w' = w := Any.Builder_Cap_cell Tryd.lays270 b p n cap w c1
def Tryd.lays230_ren : Go.Shelf.Ren := ⟨fun | 230 => 37 | 197 => 48 | 118 => 49 | 165 => 33 | 166 => 34 | 168 => 50 | 270 => 51 | 167 => 35 | 169 => 36 | 260 => 59 | 240 => 46 | 241 => 47 | 242 => 60 | 276 => 57 | 277 => 58 | 278 => 67 | n => n, fun | 107 => 67 | 9 => 9 | 72 => 58 | 0 => 0 | 4 => 4 | 3 => 3 | 21 => 21 | 105 => 69 | 76 => 62 | 5 => 5 | 75 => 61 | 70 => 55 | 20 => 20 | 37 => 56 | 127 => 68 | 119 => 84 | 46 => 93 | 139 => 96 | 138 => 95 | 164 => 76 | 51 => 83 | 80 => 65 | n => n, fun | 3 => 6 | 4 => 7 | n => n⟩
theorem Tryd.lays230 : Go.Proofs.Lays.n230 Tryd.prog Tryd.lays230_ren := {
  mixed := by kernel_rfl
  f118 := Tryd.func49.trans (congrArg some (by kernel_rfl))
  f165 := Tryd.func33.trans (congrArg some (by kernel_rfl))
  f166 := Tryd.func34.trans (congrArg some (by kernel_rfl))
  f167 := Tryd.func35.trans (congrArg some (by kernel_rfl))
  f168 := Tryd.func50.trans (congrArg some (by kernel_rfl))
  f169 := Tryd.func36.trans (congrArg some (by kernel_rfl))
  f197 := Tryd.func48.trans (congrArg some (by kernel_rfl))
  f230 := Tryd.func37.trans (congrArg some (by kernel_rfl))
  f240 := Tryd.func46.trans (congrArg some (by kernel_rfl))
  f241 := Tryd.func47.trans (congrArg some (by kernel_rfl))
  f242 := Tryd.func60.trans (congrArg some (by kernel_rfl))
  f260 := Tryd.func59.trans (congrArg some (by kernel_rfl))
  f270 := Tryd.func51.trans (congrArg some (by kernel_rfl))
  f276 := Tryd.func57.trans (congrArg some (by kernel_rfl))
  f277 := Tryd.func58.trans (congrArg some (by kernel_rfl))
  f278 := Tryd.func67.trans (congrArg some (by kernel_rfl))
  t0 := Tryd.underlying0
  a0 := Tryd.isAgg0
  z0 := Tryd.sizeOf0
  v0 := Tryd.zeroValue0
  t3 := Tryd.underlying3
  a3 := Tryd.isAgg3
  z3 := Tryd.sizeOf3
  v3 := Tryd.zeroValue3
  t4 := Tryd.underlying4
  a4 := Tryd.isAgg4
  z4 := Tryd.sizeOf4
  v4 := Tryd.zeroValue4
  t5 := Tryd.underlying5
  a5 := Tryd.isAgg5
  z5 := Tryd.sizeOf5
  v5 := Tryd.zeroValue5
  t9 := Tryd.underlying9
  a9 := Tryd.isAgg9
  z9 := Tryd.sizeOf9
  v9 := Tryd.zeroValue9
  t20 := Tryd.underlying20
  a20 := Tryd.isAgg20
  z20 := Tryd.sizeOf20
  v20 := Tryd.zeroValue20
  t21 := Tryd.underlying21
  a21 := Tryd.isAgg21
  z21 := Tryd.sizeOf21
  v21 := Tryd.zeroValue21
  t37 := Tryd.underlying56
  a37 := Tryd.isAgg56
  z37 := Tryd.sizeOf56
  v37 := Tryd.zeroValue56
  t46 := Tryd.underlying93
  a46 := Tryd.isAgg93
  z46 := Tryd.sizeOf93
  v46 := Tryd.zeroValue93
  t51 := Tryd.underlying83
  a51 := Tryd.isAgg83
  z51 := Tryd.sizeOf83
  v51 := Tryd.zeroValue83
  t70 := Tryd.underlying55
  a70 := Tryd.isAgg55
  z70 := Tryd.sizeOf55
  v70 := Tryd.zeroValue55
  t72 := Tryd.underlying58
  a72 := Tryd.isAgg58
  z72 := Tryd.sizeOf58
  v72 := Tryd.zeroValue58
  t75 := Tryd.underlying61
  a75 := Tryd.isAgg61
  z75 := Tryd.sizeOf61
  v75 := Tryd.zeroValue61
  t76 := Tryd.underlying62
  a76 := Tryd.isAgg62
  z76 := Tryd.sizeOf62
  v76 := Tryd.zeroValue62
  t105 := Tryd.underlying69
  a105 := Tryd.isAgg69
  z105 := Tryd.sizeOf69
  v105 := Tryd.zeroValue69
  t107 := Tryd.underlying67
  a107 := Tryd.isAgg67
  z107 := Tryd.sizeOf67
  v107 := Tryd.zeroValue67
  t119 := Tryd.underlying84
  a119 := Tryd.isAgg84
  z119 := Tryd.sizeOf84
  t127 := Tryd.underlying68
  a127 := Tryd.isAgg68
  z127 := Tryd.sizeOf68
  v127 := Tryd.zeroValue68
  t138 := Tryd.underlying95
  a138 := Tryd.isAgg95
  z138 := Tryd.sizeOf95
  v138 := Tryd.zeroValue95
  t139 := Tryd.underlying96
  a139 := Tryd.isAgg96
  z139 := Tryd.sizeOf96
  v139 := Tryd.zeroValue96
  t164 := Tryd.underlying76
  a164 := Tryd.isAgg76
  z164 := Tryd.sizeOf76
  v164 := Tryd.zeroValue76
  g3 := by kernel_rfl
  g4 := by kernel_rfl }
theorem Tryd.Builder_Extra_230 : Builder.Extra Tryd.prog Tryd.lays230_ren := {
  sizeBuilder := by kernel_rfl
  liesBuilder := by kernel_rfl
  t5 := Tryd.underlying5
  a5 := Tryd.isAgg5
  z5 := Tryd.sizeOf5
  v5 := Tryd.zeroValue5
  infoByte := by kernel_rfl
  cellsByte := by kernel_rfl
  sizeByte := by kernel_rfl
  neB5 := by decide }
open Go.RowKit Go.Lib in
theorem Tryd.strings_Map_runes (g : Nat) (lb : Array Value) (eg : ∀ args w, (callFunc g args).run Tryd.prog w = .ok (.enter g args) w) (f : Int → Int) (s : ByteArray) (w : World) (hs : s.size < 35184372088832) (hf : MapAtRunes Tryd.prog g lb f w) (hnn : ∀ x : Nat, x ≤ 1114111 → 0 ≤ f x ∧ f x ≤ 2147483647) (hT : Lib.Utf8Tabs 6 7 w) :
    Calls Tryd.prog 37 #[.func (.func g) #[] lb, .string s] w fun e w' => e = .returned (.string ⟨(Lib.mapD f s.data.toList).toArray⟩) ∧ Below w.heap.size w w' := Any.strings_Map_runes Tryd.lays230 Tryd.Builder_Extra_230 g lb eg f s w hs hf hnn hT
open Go.RowKit Go.Lib in
theorem Tryd.strings_ToLower_beyond (s : ByteArray) (w : World) (hs : s.size < 35184372088832) (hhigh : ∃ (j : Nat) (b : UInt8), s.data.toList[j]? = some b ∧ 128 ≤ b.toNat) (hV : CaseVar 0 caseA w) (hT : Lib.Utf8Tabs 6 7 w) :
    Calls Tryd.prog 26 #[.string s] w fun e w' => e = .returned (.string ⟨(Lib.toLowerD s.data.toList).toArray⟩) ∧ Below w.heap.size w w' := Any.strings_ToLower_beyond Tryd.lays159 Tryd.Builder_Extra_159 s w hs hhigh hV hT
open Go.RowKit Go.Lib in
theorem Tryd.strings_ToLower_any (s : ByteArray) (w : World) (hs : s.size < 35184372088832) (hV : CaseVar 0 caseA w) (hT : Lib.Utf8Tabs 6 7 w) :
    Calls Tryd.prog 26 #[.string s] w fun e w' => e = .returned (.string ⟨(Lib.toLowerD s.data.toList).toArray⟩) ∧ Below w.heap.size w w' := Any.strings_ToLower_any Tryd.lays159 Tryd.Builder_Extra_159 s w hs hV hT
open Go.RowKit Go.Lib in
theorem Tryd.unicode_is16_any (T : Array Rg) (R oR cap : Nat) (z : Nat) (w : World) (hz : z < 65536) (hT : RgTab .u16 R oR T w) (hok : RgOk 65536 T) (hn : T.size ≤ 1000000000) :
    Calls Tryd.prog 70 #[.slice (some ⟨R, oR, none⟩) T.size cap, .int .u16 z] w fun e w' => e = .returned (.bool (is16Go T z)) ∧ ∃ q, w' = w.drewN q := Any.unicode_is16_any Tryd.lays311 T R oR cap z w hz hT hok hn
def Tryd.lays312_ren : Go.Shelf.Ren := ⟨fun | 312 => 71 | n => n, fun | 194 => 101 | 51 => 83 | 4 => 4 | 3 => 3 | 0 => 0 | 227 => 121 | 201 => 109 | 46 => 93 | n => n, fun | n => n⟩
theorem Tryd.lays312 : Go.Proofs.Lays.n312 Tryd.prog Tryd.lays312_ren := {
  mixed := by kernel_rfl
  f312 := Tryd.func71.trans (congrArg some (by kernel_rfl))
  t0 := Tryd.underlying0
  a0 := Tryd.isAgg0
  z0 := Tryd.sizeOf0
  v0 := Tryd.zeroValue0
  t3 := Tryd.underlying3
  a3 := Tryd.isAgg3
  z3 := Tryd.sizeOf3
  v3 := Tryd.zeroValue3
  t4 := Tryd.underlying4
  a4 := Tryd.isAgg4
  z4 := Tryd.sizeOf4
  v4 := Tryd.zeroValue4
  t46 := Tryd.underlying93
  a46 := Tryd.isAgg93
  z46 := Tryd.sizeOf93
  v46 := Tryd.zeroValue93
  t51 := Tryd.underlying83
  a51 := Tryd.isAgg83
  z51 := Tryd.sizeOf83
  v51 := Tryd.zeroValue83
  t194 := Tryd.underlying101
  a194 := Tryd.isAgg101
  z194 := Tryd.sizeOf101
  v194 := Tryd.zeroValue101
  t201 := Tryd.underlying109
  a201 := Tryd.isAgg109
  z201 := Tryd.sizeOf109
  v201 := Tryd.zeroValue109
  t227 := Tryd.underlying121
  a227 := Tryd.isAgg121
  z227 := Tryd.sizeOf121
  v227 := Tryd.zeroValue121 }
open Go.RowKit Go.Lib in
theorem Tryd.unicode_is32_any (T : Array Rg) (R oR cap : Nat) (z : Nat) (w : World) (hz : z < 4294967296) (hT : RgTab .u32 R oR T w) (hok : RgOk 4294967296 T) (hn : T.size ≤ 1000000000) :
    Calls Tryd.prog 71 #[.slice (some ⟨R, oR, none⟩) T.size cap, .int .u32 z] w fun e w' => e = .returned (.bool (is32Go T z)) ∧ Below w.heap.size w w' := Any.unicode_is32_any Tryd.lays312 T R oR cap z w hz hT hok hn
open Go.RowKit Go.Lib in
theorem Tryd.unicode_isExcludingLatin_any (Tb oT : Nat) (T : RTab) (r : Int) (w : World) (hlo : -2147483648 ≤ r) (hhi : r ≤ 2147483647) (hA : RTabAt Tb oT T w) (hok : RTabOk T) :
    Calls Tryd.prog 62 #[.pointer (some ⟨Tb, oT, none⟩), .int .i32 r] w fun e w' => e = .returned (.bool (exclGo T r)) ∧ Below w.heap.size w w' := Any.unicode_isExcludingLatin_any Tryd.lays261 Tb oT T r w hlo hhi hA hok
open Go.RowKit Go.Lib in
theorem Tryd.unicode_IsLetter_any (T : RTab) (r : Int) (w : World) (hlo : -2147483648 ≤ r) (hhi : r ≤ 2147483647) (htab : Lib.TabIs Tryd.prog w "unicode.properties" .u8 Lib.propertiesTab) (hV : RVar 2 T w) (hok : RTabOk T) :
    Calls Tryd.prog 53 #[.int .i32 r] w fun e w' => e = .returned (.bool (if latin1 r then isLetterL r else exclGo T r)) ∧ Below w.heap.size w w' := Any.unicode_IsLetter_any Tryd.lays200 (by kernel_rfl) T r w hlo hhi htab hV hok
open Go.RowKit Go.Lib in
theorem Tryd.unicode_IsDigit_any (T : RTab) (r : Int) (w : World) (hlo : -2147483648 ≤ r) (hhi : r ≤ 2147483647) (hV : RVar 3 T w) (hok : RTabOk T) :
    Calls Tryd.prog 54 #[.int .i32 r] w fun e w' => e = .returned (.bool (if r ≤ 255 then isDigitL r else exclGo T r)) ∧ Below w.heap.size w w' := Any.unicode_IsDigit_any Tryd.lays198 T r w hlo hhi hV hok
open Go.RowKit Go.Lib in
theorem Tryd.unicode_IsLetter_all (r : Int) (w : World) (hlo : -2147483648 ≤ r) (hhi : r ≤ 2147483647) (htab : Lib.TabIs Tryd.prog w "unicode.properties" .u8 Lib.propertiesTab) (hV : RVar 2 letterT w) :
    Calls Tryd.prog 53 #[.int .i32 r] w fun e w' => e = .returned (.bool (isLetterU r)) ∧ Below w.heap.size w w' := Any.unicode_IsLetter_all Tryd.lays200 (by kernel_rfl) r w hlo hhi htab hV
open Go.RowKit Go.Lib in
theorem Tryd.unicode_IsDigit_all (r : Int) (w : World) (hlo : -2147483648 ≤ r) (hhi : r ≤ 2147483647) (hV : RVar 3 digitT w) :
    Calls Tryd.prog 54 #[.int .i32 r] w fun e w' => e = .returned (.bool (isDigitU r)) ∧ Below w.heap.size w w' := Any.unicode_IsDigit_all Tryd.lays198 r w hlo hhi hV
open Go.RowKit Go.Lib in
theorem Tryd.strings_Map_grows (g : Nat) (lb : Array Value) (eg : ∀ args w, (callFunc g args).run Tryd.prog w = .ok (.enter g args) w) (f : Int → Int) (s : ByteArray) (w : World) (hs : s.size < 35184372088832) (hf : MapGrows Tryd.prog g lb f w) (hnn : ∀ x : Nat, x ≤ 1114111 → -2147483648 ≤ f x ∧ f x ≤ 2147483647) (hT : Lib.Utf8Tabs 6 7 w) :
    Calls Tryd.prog 37 #[.func (.func g) #[] lb, .string s] w fun e w' => e = .returned (.string ⟨(Lib.mapD f s.data.toList).toArray⟩) ∧ Below w.heap.size w w' := Any.strings_Map_grows Tryd.lays230 Tryd.Builder_Extra_230 g lb eg f s w hs hf hnn hT
end Go.Proofs
