import Derived.Test.YthjpchabeemfmaaGreatDoorPx0
import Derived.Test.YthjpchabeemfmaaGreatDoorFf
namespace Go.Proofs.YthjpchabeemfmaaGreatDoor.P
open Go.RowKit Go.Proofs.YthjpchabeemfmaaGreatDoorW.PrintWords Go.Proofs.YthjpchabeemfmaaGreatDoorW.PrintLast Go.Proofs.YthjpchabeemfmaaGreatDoorW.PrintMore
set_option linter.unusedVariables false
set_option linter.unusedSimpArgs false
set_option maxRecDepth 100000

theorem ev_pos {α : Type} {c : Prop} [Decidable c] {A B : Nat → Option α} {r : α} (h : c) (k : Ev A r) : Ev (fun n => if c then A n else B n) r := Ev.congr (fun _ => if_pos h) k
theorem ev_neg {α : Type} {c : Prop} [Decidable c] {A B : Nat → Option α} {r : α} (h : ¬ c) (k : Ev B r) : Ev (fun n => if c then A n else B n) r := Ev.congr (fun _ => if_neg h) k
theorem ev_some {α β : Type} {o : Option α} {a : α} {f : Nat → α → Option β} {r : β} (h : o = some a) (k : Ev (fun n => f n a) r) : Ev (fun n => o.bind (f n)) r := Ev.congr (fun n => by rw [h]; rfl) k
theorem ev_const {α : Type} {o : Option α} {a : α} (h : o = some a) : Ev (fun _ => o) a := ⟨0, fun _ _ => h⟩
theorem ev_bind {α β : Type} {g : Nat → Option α} {f : Nat → α → Option β} {a : α} {r : β} (h : Ev g a) (k : Ev (fun n => f n a) r) : Ev (fun n => (g n).bind (f n)) r := Ev.bind h k
theorem w1 (n : Nat) (h : n < 9223372036854775807) : wrap64 ((n : Int) + 1) = ((n + 1 : Nat) : Int) := by unfold wrap64; omega
theorem wi (x : Int) (h0 : -9223372036854775808 ≤ x) (h : x < 9223372036854775808) : wrap64 x = x := by unfold wrap64; omega
theorem rdOf_at {xs : List ByteArray} {n : Nat} {x : ByteArray} (h : xs[n]? = some x) : rdOf ByteArray.empty xs (n : Int) = x := by
  unfold rdOf
  simp [h]
theorem bt_get (s : ByteArray) {n : Nat} {b : UInt8} (h : (L s)[n]? = some b) : bt s (n : Int) = (b.toNat : Int) := by
  obtain ⟨h1, h2⟩ := List.getElem?_eq_some_iff.1 h
  have h3 : ((n : Int)).toNat < s.size := by rw [← L_len s]; simpa using h1
  unfold bt
  rw [dif_pos h3]
  congr 2
theorem S_app (a b : List UInt8) : S a ++ S b = S (a ++ b) := by
  apply ByteArray.ext
  simp [S]
theorem S_sz (a : List UInt8) : (S a).size = a.length := by simp [S, ByteArray.size]
theorem sz_app (a b : ByteArray) : (a ++ b).size = a.size + b.size := ByteArray.size_append
theorem S_eq (s : ByteArray) : s = S (L s) := (S_L s).symm
theorem S_inj {a b : List UInt8} (h : S a = S b) : a = b := by rw [← L_S a, h, L_S]
theorem toList_L (s : ByteArray) : s.toList = L s := by
  exact Lib.toList_data s
end Go.Proofs.YthjpchabeemfmaaGreatDoor.P
