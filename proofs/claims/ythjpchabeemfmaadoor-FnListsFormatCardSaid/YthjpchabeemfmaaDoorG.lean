import Derived.Test.YthjpchabeemfmaaDoorGa
namespace Go.Proofs.YthjpchabeemfmaaDoor
open Go.RowKit
set_option linter.unusedVariables false
set_option linter.unusedSimpArgs false
set_option maxHeartbeats 4000000
set_option maxRecDepth 100000
attribute [local go_sem] S_extract S_append run_cut_S run_head_S run_tail_S Nat.add_sub_cancel_left

theorem infoInt : (Tryd.prog.info? 3).map (fun i => (i.zero, i.size, i.bytes)) = some (some (.int .i64 0), 1, 8) := by kernel_rfl
theorem drop_step {α : Type} {l : List α} {k : Nat} (h : k < l.length) : l.drop k = l[k] :: l.drop (k + 1) := List.drop_eq_getElem_cons h

def among (l : List Int) (n : Int) : Bool := l.contains n
theorem among_cons (x : Int) (l : List Int) (n : Int) : among (x :: l) n = ((x == n) || among l n) := by
  have h : (n == x) = (x == n) := by rw [Bool.eq_iff_iff, beq_iff_eq, beq_iff_eq]; exact eq_comm
  simp only [among, List.contains_cons, h]
theorem among_nil (n : Int) : among [] n = false := rfl
theorem among_iff (l : List Int) (n : Int) : among l n = true ↔ n ∈ l := by simp [among]

def allIn (a b : List Int) : Bool := a.all (among b)
theorem allIn_cons (x : Int) (a b : List Int) : allIn (x :: a) b = (among b x && allIn a b) := rfl
theorem allIn_nil (b : List Int) : allIn [] b = true := rfl
def alike (a b : List Int) : Bool := allIn a b && allIn b a

def with1 (l : List Int) (c : Int) : List Int := if c = 0 then [] else if among l c then l else l ++ [c]

end Go.Proofs.YthjpchabeemfmaaDoor
