import Derived.Shelf.Strings.Builder1
import Derived.Shelf.Strings.Builder2
import Derived.Shelf.Strings.OnBuilder
import Derived.Shelf.Strings.BuilderF
import Derived.Shelf.Strings.BuilderK
import Derived.Shelf.Strings.Builder2Cap
import Derived.Shelf.Strings.Prefix
import Derived.Shelf.Strings.BuilderCap
import Derived.Test.YtbbmboklpfjliaaProg
namespace Go.Proofs
open Go.Shelf
def Try.lays169_ren : Go.Shelf.Ren := ⟨fun | 169 => 25 | n => n, fun | 70 => 46 | 9 => 9 | 0 => 0 | 72 => 49 | 37 => 47 | 127 => 58 | 3 => 3 | 5 => 5 | n => n, fun | n => n⟩
theorem Try.lays169 : Go.Proofs.Lays.n169 Try.prog Try.lays169_ren := {
  mixed := by kernel_rfl
  f169 := Try.func25.trans (congrArg some (by kernel_rfl))
  t0 := Try.underlying0
  a0 := Try.isAgg0
  z0 := Try.sizeOf0
  v0 := Try.zeroValue0
  t3 := Try.underlying3
  a3 := Try.isAgg3
  z3 := Try.sizeOf3
  v3 := Try.zeroValue3
  t9 := Try.underlying9
  a9 := Try.isAgg9
  z9 := Try.sizeOf9
  v9 := Try.zeroValue9
  t37 := Try.underlying47
  a37 := Try.isAgg47
  z37 := Try.sizeOf47
  v37 := Try.zeroValue47
  t70 := Try.underlying46
  a70 := Try.isAgg46
  z70 := Try.sizeOf46
  v70 := Try.zeroValue46
  t72 := Try.underlying49
  a72 := Try.isAgg49
  z72 := Try.sizeOf49
  v72 := Try.zeroValue49
  t127 := Try.underlying58
  a127 := Try.isAgg58
  z127 := Try.sizeOf58
  v127 := Try.zeroValue58 }
theorem Try.Builder_Extra_169 : Builder.Extra Try.prog Try.lays169_ren := {
  sizeBuilder := by kernel_rfl
  liesBuilder := by kernel_rfl
  t5 := Try.underlying5
  a5 := Try.isAgg5
  z5 := Try.sizeOf5
  v5 := Try.zeroValue5
  infoByte := by kernel_rfl
  cellsByte := by kernel_rfl
  sizeByte := by kernel_rfl
  neB5 := by decide }
open Go.RowKit in
theorem Try.Builder_String (B b : Nat) (l : List UInt8) (w : World) (h : Lib.IsBuilder 49 5 B b (Lib.byteCells l) w) (h0 : l ≠ []) :
    Calls Try.prog 25 #[.pointer (some ⟨b, 0, none⟩)] w fun e w' => e = .returned (.string ⟨l.toArray⟩) ∧ Below B w w' := Any.Builder_String Try.lays169 Try.Builder_Extra_169 B b l w h h0
open Go.RowKit in
theorem Try.Builder_String_empty (B b : Nat) (w : World) (h : Lib.IsBuilder 49 5 B b [] w) (hBw : B ≤ w.heap.size) :
    Calls Try.prog 25 #[.pointer (some ⟨b, 0, none⟩)] w fun e w' => e = .returned (.string ⟨#[]⟩) ∧ Below B w w' := Any.Builder_String_empty Try.lays169 Try.Builder_Extra_169 B b w h hBw
open Go.RowKit in
theorem Try.Builder_String_any (B b : Nat) (l : List UInt8) (w : World) (h : Lib.IsBuilder 49 5 B b (Lib.byteCells l) w) (hBw : B ≤ w.heap.size) :
    Calls Try.prog 25 #[.pointer (some ⟨b, 0, none⟩)] w fun e w' => e = .returned (.string ⟨l.toArray⟩) ∧ Below B w w' := Any.Builder_String_any Try.lays169 Try.Builder_Extra_169 B b l w h hBw
def Try.lays241_ren : Go.Shelf.Ren := ⟨fun | 241 => 32 | 277 => 38 | n => n, fun | 70 => 46 | 3 => 3 | 0 => 0 | 72 => 49 | 37 => 47 | 5 => 5 | n => n, fun | n => n⟩
theorem Try.lays241 : Go.Proofs.Lays.n241 Try.prog Try.lays241_ren := {
  mixed := by kernel_rfl
  f241 := Try.func32.trans (congrArg some (by kernel_rfl))
  f277 := Try.func38.trans (congrArg some (by kernel_rfl))
  t0 := Try.underlying0
  a0 := Try.isAgg0
  z0 := Try.sizeOf0
  v0 := Try.zeroValue0
  t3 := Try.underlying3
  a3 := Try.isAgg3
  z3 := Try.sizeOf3
  v3 := Try.zeroValue3
  t37 := Try.underlying47
  a37 := Try.isAgg47
  z37 := Try.sizeOf47
  v37 := Try.zeroValue47
  t70 := Try.underlying46
  a70 := Try.isAgg46
  z70 := Try.sizeOf46
  v70 := Try.zeroValue46
  t72 := Try.underlying49
  a72 := Try.isAgg49
  z72 := Try.sizeOf49
  v72 := Try.zeroValue49 }
theorem Try.Builder_Extra_241 : Builder.Extra Try.prog Try.lays241_ren := {
  sizeBuilder := by kernel_rfl
  liesBuilder := by kernel_rfl
  t5 := Try.underlying5
  a5 := Try.isAgg5
  z5 := Try.sizeOf5
  v5 := Try.zeroValue5
  infoByte := by kernel_rfl
  cellsByte := by kernel_rfl
  sizeByte := by kernel_rfl
  neB5 := by decide }
open Go.RowKit in
theorem Try.Builder_grow_fresh (B b n : Nat) (w : World) (hB : B ≤ b) (hbk : w.heap[b]? = some (.cells #[.pointer (some ⟨b, 0, none⟩), .slice none 0 0] 49 (0, 0))) (hBw : B ≤ w.heap.size) (hn : n ≤ 281474976710656) :
    Calls Try.prog 32 #[.pointer (some ⟨b, 0, none⟩), .int .i64 n] w fun e w' => e = .returned (.tuple #[]) ∧ (Lib.BuilderAt 49 5 B b (.pointer (some ⟨b, 0, none⟩)) [] w' ∧ Below B w w') := Any.Builder_grow_fresh Try.lays241 Try.Builder_Extra_241 B b n w hB hbk hBw hn
def Try.lays165_ren : Go.Shelf.Ren := ⟨fun | 165 => 23 | 240 => 31 | 241 => 32 | 276 => 37 | 277 => 38 | n => n, fun | 70 => 46 | 3 => 3 | 0 => 0 | 4 => 4 | 9 => 9 | 20 => 20 | 72 => 49 | 37 => 47 | 164 => 61 | 5 => 5 | n => n, fun | n => n⟩
theorem Try.lays165 : Go.Proofs.Lays.n165 Try.prog Try.lays165_ren := {
  mixed := by kernel_rfl
  f165 := Try.func23.trans (congrArg some (by kernel_rfl))
  f240 := Try.func31.trans (congrArg some (by kernel_rfl))
  f241 := Try.func32.trans (congrArg some (by kernel_rfl))
  f276 := Try.func37.trans (congrArg some (by kernel_rfl))
  f277 := Try.func38.trans (congrArg some (by kernel_rfl))
  t0 := Try.underlying0
  a0 := Try.isAgg0
  z0 := Try.sizeOf0
  v0 := Try.zeroValue0
  t3 := Try.underlying3
  a3 := Try.isAgg3
  z3 := Try.sizeOf3
  v3 := Try.zeroValue3
  t4 := Try.underlying4
  a4 := Try.isAgg4
  z4 := Try.sizeOf4
  v4 := Try.zeroValue4
  t9 := Try.underlying9
  a9 := Try.isAgg9
  z9 := Try.sizeOf9
  v9 := Try.zeroValue9
  t20 := Try.underlying20
  a20 := Try.isAgg20
  z20 := Try.sizeOf20
  v20 := Try.zeroValue20
  t37 := Try.underlying47
  a37 := Try.isAgg47
  z37 := Try.sizeOf47
  v37 := Try.zeroValue47
  t70 := Try.underlying46
  a70 := Try.isAgg46
  z70 := Try.sizeOf46
  v70 := Try.zeroValue46
  t72 := Try.underlying49
  a72 := Try.isAgg49
  z72 := Try.sizeOf49
  v72 := Try.zeroValue49
  t164 := Try.underlying61
  a164 := Try.isAgg61
  z164 := Try.sizeOf61
  v164 := Try.zeroValue61 }
theorem Try.Builder_Extra_165 : Builder.Extra Try.prog Try.lays165_ren := {
  sizeBuilder := by kernel_rfl
  liesBuilder := by kernel_rfl
  t5 := Try.underlying5
  a5 := Try.isAgg5
  z5 := Try.sizeOf5
  v5 := Try.zeroValue5
  infoByte := by kernel_rfl
  cellsByte := by kernel_rfl
  sizeByte := by kernel_rfl
  neB5 := by decide }
open Go.RowKit in
theorem Try.Builder_Grow_fresh (B b n : Nat) (w : World) (hB : B ≤ b) (hbk : w.heap[b]? = some (.cells #[.pointer none, .slice none 0 0] 49 (0, 0))) (hBw : B ≤ w.heap.size) (hn : n ≤ 281474976710656) :
    Calls Try.prog 23 #[.pointer (some ⟨b, 0, none⟩), .int .i64 n] w fun e w' => e = .returned (.tuple #[]) ∧ (Lib.BuilderAt 49 5 B b (.pointer (some ⟨b, 0, none⟩)) [] w' ∧ Below B w w') := Any.Builder_Grow_fresh Try.lays165 Try.Builder_Extra_165 B b n w hB hbk hBw hn
def Try.lays156_ren : Go.Shelf.Ren := ⟨fun | 156 => 20 | 165 => 23 | 166 => 24 | 169 => 25 | 240 => 31 | 241 => 32 | 276 => 37 | 277 => 38 | n => n, fun | 31 => 22 | 9 => 9 | 3 => 3 | 4 => 4 | 0 => 0 | 20 => 20 | 72 => 49 | 76 => 53 | 70 => 46 | 37 => 47 | 75 => 52 | 127 => 58 | 164 => 61 | 5 => 5 | 80 => 45 | n => n, fun | n => n⟩
theorem Try.lays156 : Go.Proofs.Lays.n156 Try.prog Try.lays156_ren := {
  mixed := by kernel_rfl
  f156 := Try.func20.trans (congrArg some (by kernel_rfl))
  f165 := Try.func23.trans (congrArg some (by kernel_rfl))
  f166 := Try.func24.trans (congrArg some (by kernel_rfl))
  f169 := Try.func25.trans (congrArg some (by kernel_rfl))
  f240 := Try.func31.trans (congrArg some (by kernel_rfl))
  f241 := Try.func32.trans (congrArg some (by kernel_rfl))
  f276 := Try.func37.trans (congrArg some (by kernel_rfl))
  f277 := Try.func38.trans (congrArg some (by kernel_rfl))
  t0 := Try.underlying0
  a0 := Try.isAgg0
  z0 := Try.sizeOf0
  v0 := Try.zeroValue0
  t3 := Try.underlying3
  a3 := Try.isAgg3
  z3 := Try.sizeOf3
  v3 := Try.zeroValue3
  t4 := Try.underlying4
  a4 := Try.isAgg4
  z4 := Try.sizeOf4
  v4 := Try.zeroValue4
  t9 := Try.underlying9
  a9 := Try.isAgg9
  z9 := Try.sizeOf9
  v9 := Try.zeroValue9
  t20 := Try.underlying20
  a20 := Try.isAgg20
  z20 := Try.sizeOf20
  v20 := Try.zeroValue20
  t31 := Try.underlying22
  a31 := Try.isAgg22
  z31 := Try.sizeOf22
  v31 := Try.zeroValue22
  t37 := Try.underlying47
  a37 := Try.isAgg47
  z37 := Try.sizeOf47
  v37 := Try.zeroValue47
  t70 := Try.underlying46
  a70 := Try.isAgg46
  z70 := Try.sizeOf46
  v70 := Try.zeroValue46
  t72 := Try.underlying49
  a72 := Try.isAgg49
  z72 := Try.sizeOf49
  v72 := Try.zeroValue49
  t75 := Try.underlying52
  a75 := Try.isAgg52
  z75 := Try.sizeOf52
  v75 := Try.zeroValue52
  t76 := Try.underlying53
  a76 := Try.isAgg53
  z76 := Try.sizeOf53
  v76 := Try.zeroValue53
  t127 := Try.underlying58
  a127 := Try.isAgg58
  z127 := Try.sizeOf58
  v127 := Try.zeroValue58
  t164 := Try.underlying61
  a164 := Try.isAgg61
  z164 := Try.sizeOf61
  v164 := Try.zeroValue61 }
theorem Try.Builder_Extra_156 : Builder.Extra Try.prog Try.lays156_ren := {
  sizeBuilder := by kernel_rfl
  liesBuilder := by kernel_rfl
  t5 := Try.underlying5
  a5 := Try.isAgg5
  z5 := Try.sizeOf5
  v5 := Try.zeroValue5
  infoByte := by kernel_rfl
  cellsByte := by kernel_rfl
  sizeByte := by kernel_rfl
  neB5 := by decide }
open Go.RowKit in
theorem Try.strings_Join_none (a : Option Addr) (c : Nat) (sep : ByteArray) (w : World) :
    Calls Try.prog 20 #[.slice a 0 c, .string sep] w fun e w' => e = .returned (.string ⟨#[]⟩) ∧ w' = w := Any.strings_Join_none Try.lays156 Try.Builder_Extra_156 a c sep w
open Go.RowKit in
theorem Try.strings_Join (bk o c : Nat) (xs : List ByteArray) (sep : ByteArray) (w : World) (hcells : ∀ (j : Nat) x, xs[j]? = some x → w.cell? ⟨bk, o + j, none⟩ = some (.string x)) (hbk : bk < w.heap.size) (hN : xs.length ≤ 140737488355328) (hcap : xs.length ≤ c) (hlen : (Lib.join (xs.map (·.data.toList)) sep.data.toList).length ≤ 140737488355328) :
    Calls Try.prog 20 #[.slice (some ⟨bk, o, none⟩) xs.length c, .string sep] w fun e w' => e = .returned (.string ⟨(Lib.join (xs.map (·.data.toList)) sep.data.toList).toArray⟩) ∧ Below w.heap.size w w' := Any.strings_Join Try.lays156 Try.Builder_Extra_156 bk o c xs sep w hcells hbk hN hcap hlen
open Go.RowKit in
theorem Try.Builder_String_f (B b : Nat) (l : List UInt8) (w : World) (h : Lib.IsBuilderF 49 5 B b (Lib.byteCells l) w) (h0 : l ≠ []) :
    Calls Try.prog 25 #[.pointer (some ⟨b, 0, none⟩)] w fun e w' => e = .returned (.string ⟨l.toArray⟩) ∧ (Lib.IsBuilderF 49 5 B b (Lib.byteCells l) w' ∧ Below B w w') := Any.Builder_String_f Try.lays169 Try.Builder_Extra_169 B b l w h h0
open Go.RowKit in
theorem Try.Builder_String_empty_f (B b : Nat) (w : World) (h : Lib.IsBuilderF 49 5 B b [] w) (hBw : B ≤ w.heap.size) :
    Calls Try.prog 25 #[.pointer (some ⟨b, 0, none⟩)] w fun e w' => e = .returned (.string ⟨#[]⟩) ∧ (Lib.IsBuilderF 49 5 B b [] w' ∧ Below B w w') := Any.Builder_String_empty_f Try.lays169 Try.Builder_Extra_169 B b w h hBw
open Go.RowKit in
theorem Try.Builder_String_any_f (B b : Nat) (l : List UInt8) (w : World) (h : Lib.IsBuilderF 49 5 B b (Lib.byteCells l) w) (hBw : B ≤ w.heap.size) :
    Calls Try.prog 25 #[.pointer (some ⟨b, 0, none⟩)] w fun e w' => e = .returned (.string ⟨l.toArray⟩) ∧ (Lib.IsBuilderF 49 5 B b (Lib.byteCells l) w' ∧ Below B w w') := Any.Builder_String_any_f Try.lays169 Try.Builder_Extra_169 B b l w h hBw
open Go.RowKit in
theorem Try.Builder_String_k (B b : Nat) (l : List UInt8) (w : World) (h : Lib.IsBuilderF 49 5 B b (Lib.byteCells l) w) (h0 : l ≠ []) :
    Calls Try.prog 25 #[.pointer (some ⟨b, 0, none⟩)] w fun e w' => e = .returned (.string ⟨l.toArray⟩) ∧ (Lib.IsBuilderF 49 5 B b (Lib.byteCells l) w' ∧ Below B w w' ∧ Lib.OthersKept 5 (some b) w w') := Any.Builder_String_k Try.lays169 Try.Builder_Extra_169 B b l w h h0
open Go.RowKit in
theorem Try.Builder_String_empty_k (B b : Nat) (w : World) (h : Lib.IsBuilderF 49 5 B b [] w) (hBw : B ≤ w.heap.size) :
    Calls Try.prog 25 #[.pointer (some ⟨b, 0, none⟩)] w fun e w' => e = .returned (.string ⟨#[]⟩) ∧ (Lib.IsBuilderF 49 5 B b [] w' ∧ Below B w w' ∧ Lib.OthersKept 5 (some b) w w') := Any.Builder_String_empty_k Try.lays169 Try.Builder_Extra_169 B b w h hBw
open Go.RowKit in
theorem Try.Builder_String_any_k (B b : Nat) (l : List UInt8) (w : World) (h : Lib.IsBuilderF 49 5 B b (Lib.byteCells l) w) (hBw : B ≤ w.heap.size) :
    Calls Try.prog 25 #[.pointer (some ⟨b, 0, none⟩)] w fun e w' => e = .returned (.string ⟨l.toArray⟩) ∧ (Lib.IsBuilderF 49 5 B b (Lib.byteCells l) w' ∧ Below B w w' ∧ Lib.OthersKept 5 (some b) w w') := Any.Builder_String_any_k Try.lays169 Try.Builder_Extra_169 B b l w h hBw
open Go.RowKit in
theorem Try.Builder_grow_fresh_cap (B b n : Nat) (w : World) (hB : B ≤ b) (hbk : w.heap[b]? = some (.cells #[.pointer (some ⟨b, 0, none⟩), .slice none 0 0] 49 (0, 0))) (hBw : B ≤ w.heap.size) (hn : n ≤ 281474976710656) :
    Calls Try.prog 32 #[.pointer (some ⟨b, 0, none⟩), .int .i64 n] w fun e w' => e = .returned (.tuple #[]) ∧ (Lib.BuilderAt 49 5 B b (.pointer (some ⟨b, 0, none⟩)) [] w' ∧ Below B w w') ∧ ∃ p cap, w'.cell? ⟨b, 1, none⟩ = some (.slice p 0 cap) ∧ n ≤ cap := Any.Builder_grow_fresh_cap Try.lays241 Try.Builder_Extra_241 B b n w hB hbk hBw hn
open Go.RowKit in
theorem Try.Builder_Grow_fresh_cap (B b n : Nat) (w : World) (hB : B ≤ b) (hbk : w.heap[b]? = some (.cells #[.pointer none, .slice none 0 0] 49 (0, 0))) (hBw : B ≤ w.heap.size) (hn : n ≤ 281474976710656) :
    Calls Try.prog 23 #[.pointer (some ⟨b, 0, none⟩), .int .i64 n] w fun e w' => e = .returned (.tuple #[]) ∧ (Lib.BuilderAt 49 5 B b (.pointer (some ⟨b, 0, none⟩)) [] w' ∧ Below B w w') ∧ ∃ p cap, w'.cell? ⟨b, 1, none⟩ = some (.slice p 0 cap) ∧ n ≤ cap := Any.Builder_Grow_fresh_cap Try.lays165 Try.Builder_Extra_165 B b n w hB hbk hBw hn
def Try.lays206_ren : Go.Shelf.Ren := ⟨fun | 206 => 34 | n => n, fun | 9 => 9 | 4 => 4 | 3 => 3 | n => n, fun | n => n⟩
theorem Try.lays206 : Go.Proofs.Lays.n206 Try.prog Try.lays206_ren := {
  mixed := by kernel_rfl
  f206 := Try.func34.trans (congrArg some (by kernel_rfl))
  t3 := Try.underlying3
  a3 := Try.isAgg3
  z3 := Try.sizeOf3
  v3 := Try.zeroValue3
  t4 := Try.underlying4
  a4 := Try.isAgg4
  z4 := Try.sizeOf4
  v4 := Try.zeroValue4
  t9 := Try.underlying9
  a9 := Try.isAgg9
  z9 := Try.sizeOf9
  v9 := Try.zeroValue9 }
open Go.RowKit Go.Lib in
theorem Try.stringslite_HasPrefix (s p : ByteArray) (w : World) :
    Calls Try.prog 34 #[.string s, .string p] w fun e w' => e = .returned (.bool (Lib.hasPrefix s.data.toList p.data.toList)) ∧ w' = w := Any.stringslite_HasPrefix Try.lays206 s p w
def Try.lays99_ren : Go.Shelf.Ren := ⟨fun | 99 => 27 | 206 => 34 | n => n, fun | 9 => 9 | 4 => 4 | 3 => 3 | n => n, fun | n => n⟩
theorem Try.lays99 : Go.Proofs.Lays.n99 Try.prog Try.lays99_ren := {
  mixed := by kernel_rfl
  f99 := Try.func27.trans (congrArg some (by kernel_rfl))
  f206 := Try.func34.trans (congrArg some (by kernel_rfl))
  t3 := Try.underlying3
  a3 := Try.isAgg3
  z3 := Try.sizeOf3
  v3 := Try.zeroValue3
  t4 := Try.underlying4
  a4 := Try.isAgg4
  z4 := Try.sizeOf4
  v4 := Try.zeroValue4
  t9 := Try.underlying9
  a9 := Try.isAgg9
  z9 := Try.sizeOf9
  v9 := Try.zeroValue9 }
open Go.RowKit Go.Lib in
theorem Try.strings_HasPrefix (s p : ByteArray) (w : World) :
    Calls Try.prog 27 #[.string s, .string p] w fun e w' => e = .returned (.bool (Lib.hasPrefix s.data.toList p.data.toList)) ∧ w' = w := Any.strings_HasPrefix Try.lays99 s p w
def Try.lays207_ren : Go.Shelf.Ren := ⟨fun | 207 => 36 | n => n, fun | 9 => 9 | 4 => 4 | 3 => 3 | n => n, fun | n => n⟩
theorem Try.lays207 : Go.Proofs.Lays.n207 Try.prog Try.lays207_ren := {
  mixed := by kernel_rfl
  f207 := Try.func36.trans (congrArg some (by kernel_rfl))
  t3 := Try.underlying3
  a3 := Try.isAgg3
  z3 := Try.sizeOf3
  v3 := Try.zeroValue3
  t4 := Try.underlying4
  a4 := Try.isAgg4
  z4 := Try.sizeOf4
  v4 := Try.zeroValue4
  t9 := Try.underlying9
  a9 := Try.isAgg9
  z9 := Try.sizeOf9
  v9 := Try.zeroValue9 }
open Go.RowKit Go.Lib in
theorem Try.stringslite_HasSuffix (s p : ByteArray) (w : World) (hs : s.size ≤ 9223372036854775807) :
    Calls Try.prog 36 #[.string s, .string p] w fun e w' => e = .returned (.bool (Lib.hasSuffix s.data.toList p.data.toList)) ∧ w' = w := Any.stringslite_HasSuffix Try.lays207 s p w hs
def Try.lays100_ren : Go.Shelf.Ren := ⟨fun | 100 => 29 | 207 => 36 | n => n, fun | 9 => 9 | 4 => 4 | 3 => 3 | n => n, fun | n => n⟩
theorem Try.lays100 : Go.Proofs.Lays.n100 Try.prog Try.lays100_ren := {
  mixed := by kernel_rfl
  f100 := Try.func29.trans (congrArg some (by kernel_rfl))
  f207 := Try.func36.trans (congrArg some (by kernel_rfl))
  t3 := Try.underlying3
  a3 := Try.isAgg3
  z3 := Try.sizeOf3
  v3 := Try.zeroValue3
  t4 := Try.underlying4
  a4 := Try.isAgg4
  z4 := Try.sizeOf4
  v4 := Try.zeroValue4
  t9 := Try.underlying9
  a9 := Try.isAgg9
  z9 := Try.sizeOf9
  v9 := Try.zeroValue9 }
open Go.RowKit Go.Lib in
theorem Try.strings_HasSuffix (s p : ByteArray) (w : World) (hs : s.size ≤ 9223372036854775807) :
    Calls Try.prog 29 #[.string s, .string p] w fun e w' => e = .returned (.bool (Lib.hasSuffix s.data.toList p.data.toList)) ∧ w' = w := Any.strings_HasSuffix Try.lays100 s p w hs
end Go.Proofs
