import Derived.Test.YtejjjenjnfaopaaGreatDoorDf
import Derived.Handy
namespace Go.Proofs.YtejjjenjnfaopaaGreatDoor
open Go.RowKit
set_option linter.unusedVariables false
set_option linter.unusedSimpArgs false
set_option maxHeartbeats 4000000
set_option maxRecDepth 100000
attribute [local go_sem] S_extract S_append run_cut_S run_head_S run_tail_S Nat.add_sub_cancel_left

/-- the styles of the package, by number -/
def namedA : Nat → Sty
  | 0 => ⟨0, [42], [42], [42], [42], [32, 32], [42], [10], [], []⟩
  | 1 => ⟨0, [226, 151, 143], [226, 151, 143], [226, 151, 143], [226, 151, 143], [32, 32], [226, 151, 143], [10], [], []⟩
  | 2 => ⟨0, [226, 156, 189], [226, 156, 189], [226, 156, 189], [226, 156, 189], [32, 32], [226, 156, 189], [10], [], []⟩
  | 3 => ⟨0, [226, 150, 160], [226, 150, 160], [226, 150, 160], [226, 150, 160], [32, 32], [226, 150, 160], [10], [], []⟩
  | 4 => ⟨0, [226, 152, 133], [226, 152, 133], [226, 152, 133], [226, 152, 133], [32, 32], [226, 152, 133], [10], [], []⟩
  | 5 => ⟨0, [226, 150, 182], [226, 150, 182], [226, 150, 182], [226, 150, 182], [32, 32], [226, 150, 182], [10], [], []⟩
  | 6 => ⟨0, [226, 148, 129, 226, 148, 129], [226, 148, 143, 226, 148, 129], [226, 148, 163, 226, 148, 129], [226, 148, 163, 226, 148, 129], [226, 148, 131, 32, 32], [226, 148, 151, 226, 148, 129], [10], [], []⟩
  | 7 => ⟨0, [226, 149, 144, 226, 149, 144], [226, 149, 148, 226, 149, 144], [226, 149, 160, 226, 149, 144], [226, 149, 160, 226, 149, 144], [226, 149, 145, 32, 32], [226, 149, 154, 226, 149, 144], [10], [], []⟩
  | 8 => ⟨0, [226, 148, 128, 226, 148, 128], [226, 148, 140, 226, 148, 128], [226, 148, 156, 226, 148, 128], [226, 148, 156, 226, 148, 128], [226, 148, 130, 32, 32], [226, 148, 148, 226, 148, 128], [10], [], []⟩
  | 9 => ⟨0, [226, 148, 128, 226, 148, 128], [226, 149, 173, 226, 148, 128], [226, 148, 156, 226, 148, 128], [226, 148, 156, 226, 148, 128], [226, 148, 130, 32, 32], [226, 149, 176, 226, 148, 128], [10], [], []⟩
  | _ => ⟨0, [42], [42], [42], [42], [32, 32], [42], [60, 98, 114, 47, 62], [32, 32], []⟩
/-- the styles as the documentation shows them, by number -/
def namedB : Nat → Sty
  | 0 => ⟨0, [42], [42], [42], [42], [32, 32], [42], [10], [], []⟩
  | 1 => ⟨0, [226, 151, 143], [226, 151, 143], [226, 151, 143], [226, 151, 143], [32, 32], [226, 151, 143], [10], [], []⟩
  | 2 => ⟨0, [226, 156, 189], [226, 156, 189], [226, 156, 189], [226, 156, 189], [32, 32], [226, 156, 189], [10], [], []⟩
  | 3 => ⟨0, [226, 150, 160], [226, 150, 160], [226, 150, 160], [226, 150, 160], [32, 32], [226, 150, 160], [10], [], []⟩
  | 4 => ⟨0, [226, 152, 133], [226, 152, 133], [226, 152, 133], [226, 152, 133], [32, 32], [226, 152, 133], [10], [], []⟩
  | 5 => ⟨0, [226, 150, 182], [226, 150, 182], [226, 150, 182], [226, 150, 182], [32, 32], [226, 150, 182], [10], [], []⟩
  | 6 => ⟨0, [], [226, 148, 143, 226, 148, 129], [226, 148, 163, 226, 148, 129], [226, 148, 163, 226, 148, 129], [226, 148, 131, 32, 32], [226, 148, 151, 226, 148, 129], [10], [], []⟩
  | 7 => ⟨0, [], [226, 149, 148, 226, 149, 144], [226, 149, 160, 226, 149, 144], [226, 149, 160, 226, 149, 144], [226, 149, 145, 32, 32], [226, 149, 154, 226, 149, 144], [10], [], []⟩
  | 8 => ⟨0, [], [226, 148, 140, 226, 148, 128], [226, 148, 156, 226, 148, 128], [226, 148, 156, 226, 148, 128], [226, 148, 130, 32, 32], [226, 148, 148, 226, 148, 128], [10], [], []⟩
  | 9 => ⟨0, [], [226, 149, 173, 226, 148, 128], [226, 148, 156, 226, 148, 128], [226, 148, 156, 226, 148, 128], [226, 148, 130, 32, 32], [226, 149, 176, 226, 148, 128], [10], [], []⟩
  | _ => ⟨0, [42], [42], [42], [42], [32, 32], [42], [10], [32, 32], []⟩
theorem style0_calls (w : World) : Calls Tryz.prog 45 #[] w fun e w' => e = .returned (.agg #[.int .i64 0, .string ⟨#[42]⟩, .string ⟨#[42]⟩, .string ⟨#[42]⟩, .string ⟨#[42]⟩, .string ⟨#[32, 32]⟩, .string ⟨#[42]⟩, .string ⟨#[10]⟩, .string ⟨#[]⟩, .string ⟨#[83, 116, 121, 108, 101, 68, 101, 102, 97, 117, 108, 116]⟩]) ∧ w' = w.alloc (.cells #[.int .i64 0, .string ⟨#[42]⟩, .string ⟨#[42]⟩, .string ⟨#[42]⟩, .string ⟨#[42]⟩, .string ⟨#[32, 32]⟩, .string ⟨#[42]⟩, .string ⟨#[10]⟩, .string ⟨#[]⟩, .string ⟨#[83, 116, 121, 108, 101, 68, 101, 102, 97, 117, 108, 116]⟩] 64) := by
  go_enter Tryz.func45, Tryz.ntmps45
  go_wp2_with fail
  go_returns
  exact ⟨rfl, rfl⟩
theorem style1_calls (w : World) : Calls Tryz.prog 46 #[] w fun e w' => e = .returned (.agg #[.int .i64 0, .string ⟨#[226, 151, 143]⟩, .string ⟨#[226, 151, 143]⟩, .string ⟨#[226, 151, 143]⟩, .string ⟨#[226, 151, 143]⟩, .string ⟨#[32, 32]⟩, .string ⟨#[226, 151, 143]⟩, .string ⟨#[10]⟩, .string ⟨#[]⟩, .string ⟨#[83, 116, 121, 108, 101, 66, 117, 108, 108, 101, 116, 67, 105, 114, 99, 108, 101]⟩]) ∧ w' = w.alloc (.cells #[.int .i64 0, .string ⟨#[226, 151, 143]⟩, .string ⟨#[226, 151, 143]⟩, .string ⟨#[226, 151, 143]⟩, .string ⟨#[226, 151, 143]⟩, .string ⟨#[32, 32]⟩, .string ⟨#[226, 151, 143]⟩, .string ⟨#[10]⟩, .string ⟨#[]⟩, .string ⟨#[83, 116, 121, 108, 101, 66, 117, 108, 108, 101, 116, 67, 105, 114, 99, 108, 101]⟩] 64) := by
  go_enter Tryz.func46, Tryz.ntmps46
  go_wp2_with fail
  go_returns
  exact ⟨rfl, rfl⟩
theorem style2_calls (w : World) : Calls Tryz.prog 47 #[] w fun e w' => e = .returned (.agg #[.int .i64 0, .string ⟨#[226, 156, 189]⟩, .string ⟨#[226, 156, 189]⟩, .string ⟨#[226, 156, 189]⟩, .string ⟨#[226, 156, 189]⟩, .string ⟨#[32, 32]⟩, .string ⟨#[226, 156, 189]⟩, .string ⟨#[10]⟩, .string ⟨#[]⟩, .string ⟨#[83, 116, 121, 108, 101, 66, 117, 108, 108, 101, 116, 70, 108, 111, 119, 101, 114]⟩]) ∧ w' = w.alloc (.cells #[.int .i64 0, .string ⟨#[226, 156, 189]⟩, .string ⟨#[226, 156, 189]⟩, .string ⟨#[226, 156, 189]⟩, .string ⟨#[226, 156, 189]⟩, .string ⟨#[32, 32]⟩, .string ⟨#[226, 156, 189]⟩, .string ⟨#[10]⟩, .string ⟨#[]⟩, .string ⟨#[83, 116, 121, 108, 101, 66, 117, 108, 108, 101, 116, 70, 108, 111, 119, 101, 114]⟩] 64) := by
  go_enter Tryz.func47, Tryz.ntmps47
  go_wp2_with fail
  go_returns
  exact ⟨rfl, rfl⟩
theorem style3_calls (w : World) : Calls Tryz.prog 48 #[] w fun e w' => e = .returned (.agg #[.int .i64 0, .string ⟨#[226, 150, 160]⟩, .string ⟨#[226, 150, 160]⟩, .string ⟨#[226, 150, 160]⟩, .string ⟨#[226, 150, 160]⟩, .string ⟨#[32, 32]⟩, .string ⟨#[226, 150, 160]⟩, .string ⟨#[10]⟩, .string ⟨#[]⟩, .string ⟨#[83, 116, 121, 108, 101, 66, 117, 108, 108, 101, 116, 83, 113, 117, 97, 114, 101]⟩]) ∧ w' = w.alloc (.cells #[.int .i64 0, .string ⟨#[226, 150, 160]⟩, .string ⟨#[226, 150, 160]⟩, .string ⟨#[226, 150, 160]⟩, .string ⟨#[226, 150, 160]⟩, .string ⟨#[32, 32]⟩, .string ⟨#[226, 150, 160]⟩, .string ⟨#[10]⟩, .string ⟨#[]⟩, .string ⟨#[83, 116, 121, 108, 101, 66, 117, 108, 108, 101, 116, 83, 113, 117, 97, 114, 101]⟩] 64) := by
  go_enter Tryz.func48, Tryz.ntmps48
  go_wp2_with fail
  go_returns
  exact ⟨rfl, rfl⟩
theorem style4_calls (w : World) : Calls Tryz.prog 49 #[] w fun e w' => e = .returned (.agg #[.int .i64 0, .string ⟨#[226, 152, 133]⟩, .string ⟨#[226, 152, 133]⟩, .string ⟨#[226, 152, 133]⟩, .string ⟨#[226, 152, 133]⟩, .string ⟨#[32, 32]⟩, .string ⟨#[226, 152, 133]⟩, .string ⟨#[10]⟩, .string ⟨#[]⟩, .string ⟨#[83, 116, 121, 108, 101, 66, 117, 108, 108, 101, 116, 83, 116, 97, 114]⟩]) ∧ w' = w.alloc (.cells #[.int .i64 0, .string ⟨#[226, 152, 133]⟩, .string ⟨#[226, 152, 133]⟩, .string ⟨#[226, 152, 133]⟩, .string ⟨#[226, 152, 133]⟩, .string ⟨#[32, 32]⟩, .string ⟨#[226, 152, 133]⟩, .string ⟨#[10]⟩, .string ⟨#[]⟩, .string ⟨#[83, 116, 121, 108, 101, 66, 117, 108, 108, 101, 116, 83, 116, 97, 114]⟩] 64) := by
  go_enter Tryz.func49, Tryz.ntmps49
  go_wp2_with fail
  go_returns
  exact ⟨rfl, rfl⟩
theorem style5_calls (w : World) : Calls Tryz.prog 50 #[] w fun e w' => e = .returned (.agg #[.int .i64 0, .string ⟨#[226, 150, 182]⟩, .string ⟨#[226, 150, 182]⟩, .string ⟨#[226, 150, 182]⟩, .string ⟨#[226, 150, 182]⟩, .string ⟨#[32, 32]⟩, .string ⟨#[226, 150, 182]⟩, .string ⟨#[10]⟩, .string ⟨#[]⟩, .string ⟨#[83, 116, 121, 108, 101, 66, 117, 108, 108, 101, 116, 84, 114, 105, 97, 110, 103, 108, 101]⟩]) ∧ w' = w.alloc (.cells #[.int .i64 0, .string ⟨#[226, 150, 182]⟩, .string ⟨#[226, 150, 182]⟩, .string ⟨#[226, 150, 182]⟩, .string ⟨#[226, 150, 182]⟩, .string ⟨#[32, 32]⟩, .string ⟨#[226, 150, 182]⟩, .string ⟨#[10]⟩, .string ⟨#[]⟩, .string ⟨#[83, 116, 121, 108, 101, 66, 117, 108, 108, 101, 116, 84, 114, 105, 97, 110, 103, 108, 101]⟩] 64) := by
  go_enter Tryz.func50, Tryz.ntmps50
  go_wp2_with fail
  go_returns
  exact ⟨rfl, rfl⟩
theorem style6_calls (w : World) : Calls Tryz.prog 51 #[] w fun e w' => e = .returned (.agg #[.int .i64 0, .string ⟨#[226, 148, 129, 226, 148, 129]⟩, .string ⟨#[226, 148, 143, 226, 148, 129]⟩, .string ⟨#[226, 148, 163, 226, 148, 129]⟩, .string ⟨#[226, 148, 163, 226, 148, 129]⟩, .string ⟨#[226, 148, 131, 32, 32]⟩, .string ⟨#[226, 148, 151, 226, 148, 129]⟩, .string ⟨#[10]⟩, .string ⟨#[]⟩, .string ⟨#[83, 116, 121, 108, 101, 67, 111, 110, 110, 101, 99, 116, 101, 100, 66, 111, 108, 100]⟩]) ∧ w' = w.alloc (.cells #[.int .i64 0, .string ⟨#[226, 148, 129, 226, 148, 129]⟩, .string ⟨#[226, 148, 143, 226, 148, 129]⟩, .string ⟨#[226, 148, 163, 226, 148, 129]⟩, .string ⟨#[226, 148, 163, 226, 148, 129]⟩, .string ⟨#[226, 148, 131, 32, 32]⟩, .string ⟨#[226, 148, 151, 226, 148, 129]⟩, .string ⟨#[10]⟩, .string ⟨#[]⟩, .string ⟨#[83, 116, 121, 108, 101, 67, 111, 110, 110, 101, 99, 116, 101, 100, 66, 111, 108, 100]⟩] 64) := by
  go_enter Tryz.func51, Tryz.ntmps51
  go_wp2_with fail
  go_returns
  exact ⟨rfl, rfl⟩
theorem style7_calls (w : World) : Calls Tryz.prog 52 #[] w fun e w' => e = .returned (.agg #[.int .i64 0, .string ⟨#[226, 149, 144, 226, 149, 144]⟩, .string ⟨#[226, 149, 148, 226, 149, 144]⟩, .string ⟨#[226, 149, 160, 226, 149, 144]⟩, .string ⟨#[226, 149, 160, 226, 149, 144]⟩, .string ⟨#[226, 149, 145, 32, 32]⟩, .string ⟨#[226, 149, 154, 226, 149, 144]⟩, .string ⟨#[10]⟩, .string ⟨#[]⟩, .string ⟨#[83, 116, 121, 108, 101, 67, 111, 110, 110, 101, 99, 116, 101, 100, 68, 111, 117, 98, 108, 101]⟩]) ∧ w' = w.alloc (.cells #[.int .i64 0, .string ⟨#[226, 149, 144, 226, 149, 144]⟩, .string ⟨#[226, 149, 148, 226, 149, 144]⟩, .string ⟨#[226, 149, 160, 226, 149, 144]⟩, .string ⟨#[226, 149, 160, 226, 149, 144]⟩, .string ⟨#[226, 149, 145, 32, 32]⟩, .string ⟨#[226, 149, 154, 226, 149, 144]⟩, .string ⟨#[10]⟩, .string ⟨#[]⟩, .string ⟨#[83, 116, 121, 108, 101, 67, 111, 110, 110, 101, 99, 116, 101, 100, 68, 111, 117, 98, 108, 101]⟩] 64) := by
  go_enter Tryz.func52, Tryz.ntmps52
  go_wp2_with fail
  go_returns
  exact ⟨rfl, rfl⟩
theorem style8_calls (w : World) : Calls Tryz.prog 53 #[] w fun e w' => e = .returned (.agg #[.int .i64 0, .string ⟨#[226, 148, 128, 226, 148, 128]⟩, .string ⟨#[226, 148, 140, 226, 148, 128]⟩, .string ⟨#[226, 148, 156, 226, 148, 128]⟩, .string ⟨#[226, 148, 156, 226, 148, 128]⟩, .string ⟨#[226, 148, 130, 32, 32]⟩, .string ⟨#[226, 148, 148, 226, 148, 128]⟩, .string ⟨#[10]⟩, .string ⟨#[]⟩, .string ⟨#[83, 116, 121, 108, 101, 67, 111, 110, 110, 101, 99, 116, 101, 100, 76, 105, 103, 104, 116]⟩]) ∧ w' = w.alloc (.cells #[.int .i64 0, .string ⟨#[226, 148, 128, 226, 148, 128]⟩, .string ⟨#[226, 148, 140, 226, 148, 128]⟩, .string ⟨#[226, 148, 156, 226, 148, 128]⟩, .string ⟨#[226, 148, 156, 226, 148, 128]⟩, .string ⟨#[226, 148, 130, 32, 32]⟩, .string ⟨#[226, 148, 148, 226, 148, 128]⟩, .string ⟨#[10]⟩, .string ⟨#[]⟩, .string ⟨#[83, 116, 121, 108, 101, 67, 111, 110, 110, 101, 99, 116, 101, 100, 76, 105, 103, 104, 116]⟩] 64) := by
  go_enter Tryz.func53, Tryz.ntmps53
  go_wp2_with fail
  go_returns
  exact ⟨rfl, rfl⟩
theorem style9_calls (w : World) : Calls Tryz.prog 54 #[] w fun e w' => e = .returned (.agg #[.int .i64 0, .string ⟨#[226, 148, 128, 226, 148, 128]⟩, .string ⟨#[226, 149, 173, 226, 148, 128]⟩, .string ⟨#[226, 148, 156, 226, 148, 128]⟩, .string ⟨#[226, 148, 156, 226, 148, 128]⟩, .string ⟨#[226, 148, 130, 32, 32]⟩, .string ⟨#[226, 149, 176, 226, 148, 128]⟩, .string ⟨#[10]⟩, .string ⟨#[]⟩, .string ⟨#[83, 116, 121, 108, 101, 67, 111, 110, 110, 101, 99, 116, 101, 100, 82, 111, 117, 110, 100, 101, 100]⟩]) ∧ w' = w.alloc (.cells #[.int .i64 0, .string ⟨#[226, 148, 128, 226, 148, 128]⟩, .string ⟨#[226, 149, 173, 226, 148, 128]⟩, .string ⟨#[226, 148, 156, 226, 148, 128]⟩, .string ⟨#[226, 148, 156, 226, 148, 128]⟩, .string ⟨#[226, 148, 130, 32, 32]⟩, .string ⟨#[226, 149, 176, 226, 148, 128]⟩, .string ⟨#[10]⟩, .string ⟨#[]⟩, .string ⟨#[83, 116, 121, 108, 101, 67, 111, 110, 110, 101, 99, 116, 101, 100, 82, 111, 117, 110, 100, 101, 100]⟩] 64) := by
  go_enter Tryz.func54, Tryz.ntmps54
  go_wp2_with fail
  go_returns
  exact ⟨rfl, rfl⟩
theorem style10_calls (w : World) : Calls Tryz.prog 55 #[] w fun e w' => e = .returned (.agg #[.int .i64 0, .string ⟨#[42]⟩, .string ⟨#[42]⟩, .string ⟨#[42]⟩, .string ⟨#[42]⟩, .string ⟨#[32, 32]⟩, .string ⟨#[42]⟩, .string ⟨#[60, 98, 114, 47, 62]⟩, .string ⟨#[32, 32]⟩, .string ⟨#[83, 116, 121, 108, 101, 77, 97, 114, 107, 100, 111, 119, 110]⟩]) ∧ w' = w.alloc (.cells #[.int .i64 0, .string ⟨#[42]⟩, .string ⟨#[42]⟩, .string ⟨#[42]⟩, .string ⟨#[42]⟩, .string ⟨#[32, 32]⟩, .string ⟨#[42]⟩, .string ⟨#[60, 98, 114, 47, 62]⟩, .string ⟨#[32, 32]⟩, .string ⟨#[83, 116, 121, 108, 101, 77, 97, 114, 107, 100, 111, 119, 110]⟩] 64) := by
  go_enter Tryz.func55, Tryz.ntmps55
  go_wp2_with fail
  go_returns
  exact ⟨rfl, rfl⟩
theorem listNamed0 (w : World) : Calls Tryz.prog 26 #[.int .i64 0] w fun e w' => e = .returned (.agg #[.int .i64 0, .string ⟨#[42]⟩, .string ⟨#[42]⟩, .string ⟨#[42]⟩, .string ⟨#[42]⟩, .string ⟨#[32, 32]⟩, .string ⟨#[42]⟩, .string ⟨#[10]⟩, .string ⟨#[]⟩]) ∧ Below w.heap.size w w' := by
  go_enter Tryz.func26, Tryz.ntmps26
  go_wp2_with (first
    | (go_at_call 45; (with_reducible refine (style0_calls _).mono ?_); rintro e w' ⟨rfl, rfl⟩))
  go_returns
  exact ⟨rfl, by repeat (first | exact Below.refl _ _ | (refine Below.alloc ?_ (by simp <;> omega) _) | (refine Below.setCell ?_ (by simp <;> omega) _))⟩
theorem listNamed1 (w : World) : Calls Tryz.prog 26 #[.int .i64 1] w fun e w' => e = .returned (.agg #[.int .i64 0, .string ⟨#[226, 151, 143]⟩, .string ⟨#[226, 151, 143]⟩, .string ⟨#[226, 151, 143]⟩, .string ⟨#[226, 151, 143]⟩, .string ⟨#[32, 32]⟩, .string ⟨#[226, 151, 143]⟩, .string ⟨#[10]⟩, .string ⟨#[]⟩]) ∧ Below w.heap.size w w' := by
  go_enter Tryz.func26, Tryz.ntmps26
  go_wp2_with (first
    | (go_at_call 45; (with_reducible refine (style0_calls _).mono ?_); rintro e w' ⟨rfl, rfl⟩)
    | (go_at_call 46; (with_reducible refine (style1_calls _).mono ?_); rintro e w' ⟨rfl, rfl⟩))
  go_returns
  exact ⟨rfl, by repeat (first | exact Below.refl _ _ | (refine Below.alloc ?_ (by simp <;> omega) _) | (refine Below.setCell ?_ (by simp <;> omega) _))⟩
theorem listNamed2 (w : World) : Calls Tryz.prog 26 #[.int .i64 2] w fun e w' => e = .returned (.agg #[.int .i64 0, .string ⟨#[226, 156, 189]⟩, .string ⟨#[226, 156, 189]⟩, .string ⟨#[226, 156, 189]⟩, .string ⟨#[226, 156, 189]⟩, .string ⟨#[32, 32]⟩, .string ⟨#[226, 156, 189]⟩, .string ⟨#[10]⟩, .string ⟨#[]⟩]) ∧ Below w.heap.size w w' := by
  go_enter Tryz.func26, Tryz.ntmps26
  go_wp2_with (first
    | (go_at_call 45; (with_reducible refine (style0_calls _).mono ?_); rintro e w' ⟨rfl, rfl⟩)
    | (go_at_call 47; (with_reducible refine (style2_calls _).mono ?_); rintro e w' ⟨rfl, rfl⟩))
  go_returns
  exact ⟨rfl, by repeat (first | exact Below.refl _ _ | (refine Below.alloc ?_ (by simp <;> omega) _) | (refine Below.setCell ?_ (by simp <;> omega) _))⟩
theorem listNamed3 (w : World) : Calls Tryz.prog 26 #[.int .i64 3] w fun e w' => e = .returned (.agg #[.int .i64 0, .string ⟨#[226, 150, 160]⟩, .string ⟨#[226, 150, 160]⟩, .string ⟨#[226, 150, 160]⟩, .string ⟨#[226, 150, 160]⟩, .string ⟨#[32, 32]⟩, .string ⟨#[226, 150, 160]⟩, .string ⟨#[10]⟩, .string ⟨#[]⟩]) ∧ Below w.heap.size w w' := by
  go_enter Tryz.func26, Tryz.ntmps26
  go_wp2_with (first
    | (go_at_call 45; (with_reducible refine (style0_calls _).mono ?_); rintro e w' ⟨rfl, rfl⟩)
    | (go_at_call 48; (with_reducible refine (style3_calls _).mono ?_); rintro e w' ⟨rfl, rfl⟩))
  go_returns
  exact ⟨rfl, by repeat (first | exact Below.refl _ _ | (refine Below.alloc ?_ (by simp <;> omega) _) | (refine Below.setCell ?_ (by simp <;> omega) _))⟩
theorem listNamed4 (w : World) : Calls Tryz.prog 26 #[.int .i64 4] w fun e w' => e = .returned (.agg #[.int .i64 0, .string ⟨#[226, 152, 133]⟩, .string ⟨#[226, 152, 133]⟩, .string ⟨#[226, 152, 133]⟩, .string ⟨#[226, 152, 133]⟩, .string ⟨#[32, 32]⟩, .string ⟨#[226, 152, 133]⟩, .string ⟨#[10]⟩, .string ⟨#[]⟩]) ∧ Below w.heap.size w w' := by
  go_enter Tryz.func26, Tryz.ntmps26
  go_wp2_with (first
    | (go_at_call 45; (with_reducible refine (style0_calls _).mono ?_); rintro e w' ⟨rfl, rfl⟩)
    | (go_at_call 49; (with_reducible refine (style4_calls _).mono ?_); rintro e w' ⟨rfl, rfl⟩))
  go_returns
  exact ⟨rfl, by repeat (first | exact Below.refl _ _ | (refine Below.alloc ?_ (by simp <;> omega) _) | (refine Below.setCell ?_ (by simp <;> omega) _))⟩
theorem listNamed5 (w : World) : Calls Tryz.prog 26 #[.int .i64 5] w fun e w' => e = .returned (.agg #[.int .i64 0, .string ⟨#[226, 150, 182]⟩, .string ⟨#[226, 150, 182]⟩, .string ⟨#[226, 150, 182]⟩, .string ⟨#[226, 150, 182]⟩, .string ⟨#[32, 32]⟩, .string ⟨#[226, 150, 182]⟩, .string ⟨#[10]⟩, .string ⟨#[]⟩]) ∧ Below w.heap.size w w' := by
  go_enter Tryz.func26, Tryz.ntmps26
  go_wp2_with (first
    | (go_at_call 45; (with_reducible refine (style0_calls _).mono ?_); rintro e w' ⟨rfl, rfl⟩)
    | (go_at_call 50; (with_reducible refine (style5_calls _).mono ?_); rintro e w' ⟨rfl, rfl⟩))
  go_returns
  exact ⟨rfl, by repeat (first | exact Below.refl _ _ | (refine Below.alloc ?_ (by simp <;> omega) _) | (refine Below.setCell ?_ (by simp <;> omega) _))⟩
theorem listNamed6 (w : World) : Calls Tryz.prog 26 #[.int .i64 6] w fun e w' => e = .returned (.agg #[.int .i64 0, .string ⟨#[226, 148, 129, 226, 148, 129]⟩, .string ⟨#[226, 148, 143, 226, 148, 129]⟩, .string ⟨#[226, 148, 163, 226, 148, 129]⟩, .string ⟨#[226, 148, 163, 226, 148, 129]⟩, .string ⟨#[226, 148, 131, 32, 32]⟩, .string ⟨#[226, 148, 151, 226, 148, 129]⟩, .string ⟨#[10]⟩, .string ⟨#[]⟩]) ∧ Below w.heap.size w w' := by
  go_enter Tryz.func26, Tryz.ntmps26
  go_wp2_with (first
    | (go_at_call 45; (with_reducible refine (style0_calls _).mono ?_); rintro e w' ⟨rfl, rfl⟩)
    | (go_at_call 51; (with_reducible refine (style6_calls _).mono ?_); rintro e w' ⟨rfl, rfl⟩))
  go_returns
  exact ⟨rfl, by repeat (first | exact Below.refl _ _ | (refine Below.alloc ?_ (by simp <;> omega) _) | (refine Below.setCell ?_ (by simp <;> omega) _))⟩
theorem listNamed7 (w : World) : Calls Tryz.prog 26 #[.int .i64 7] w fun e w' => e = .returned (.agg #[.int .i64 0, .string ⟨#[226, 149, 144, 226, 149, 144]⟩, .string ⟨#[226, 149, 148, 226, 149, 144]⟩, .string ⟨#[226, 149, 160, 226, 149, 144]⟩, .string ⟨#[226, 149, 160, 226, 149, 144]⟩, .string ⟨#[226, 149, 145, 32, 32]⟩, .string ⟨#[226, 149, 154, 226, 149, 144]⟩, .string ⟨#[10]⟩, .string ⟨#[]⟩]) ∧ Below w.heap.size w w' := by
  go_enter Tryz.func26, Tryz.ntmps26
  go_wp2_with (first
    | (go_at_call 45; (with_reducible refine (style0_calls _).mono ?_); rintro e w' ⟨rfl, rfl⟩)
    | (go_at_call 52; (with_reducible refine (style7_calls _).mono ?_); rintro e w' ⟨rfl, rfl⟩))
  go_returns
  exact ⟨rfl, by repeat (first | exact Below.refl _ _ | (refine Below.alloc ?_ (by simp <;> omega) _) | (refine Below.setCell ?_ (by simp <;> omega) _))⟩
theorem listNamed8 (w : World) : Calls Tryz.prog 26 #[.int .i64 8] w fun e w' => e = .returned (.agg #[.int .i64 0, .string ⟨#[226, 148, 128, 226, 148, 128]⟩, .string ⟨#[226, 148, 140, 226, 148, 128]⟩, .string ⟨#[226, 148, 156, 226, 148, 128]⟩, .string ⟨#[226, 148, 156, 226, 148, 128]⟩, .string ⟨#[226, 148, 130, 32, 32]⟩, .string ⟨#[226, 148, 148, 226, 148, 128]⟩, .string ⟨#[10]⟩, .string ⟨#[]⟩]) ∧ Below w.heap.size w w' := by
  go_enter Tryz.func26, Tryz.ntmps26
  go_wp2_with (first
    | (go_at_call 45; (with_reducible refine (style0_calls _).mono ?_); rintro e w' ⟨rfl, rfl⟩)
    | (go_at_call 53; (with_reducible refine (style8_calls _).mono ?_); rintro e w' ⟨rfl, rfl⟩))
  go_returns
  exact ⟨rfl, by repeat (first | exact Below.refl _ _ | (refine Below.alloc ?_ (by simp <;> omega) _) | (refine Below.setCell ?_ (by simp <;> omega) _))⟩
theorem listNamed9 (w : World) : Calls Tryz.prog 26 #[.int .i64 9] w fun e w' => e = .returned (.agg #[.int .i64 0, .string ⟨#[226, 148, 128, 226, 148, 128]⟩, .string ⟨#[226, 149, 173, 226, 148, 128]⟩, .string ⟨#[226, 148, 156, 226, 148, 128]⟩, .string ⟨#[226, 148, 156, 226, 148, 128]⟩, .string ⟨#[226, 148, 130, 32, 32]⟩, .string ⟨#[226, 149, 176, 226, 148, 128]⟩, .string ⟨#[10]⟩, .string ⟨#[]⟩]) ∧ Below w.heap.size w w' := by
  go_enter Tryz.func26, Tryz.ntmps26
  go_wp2_with (first
    | (go_at_call 45; (with_reducible refine (style0_calls _).mono ?_); rintro e w' ⟨rfl, rfl⟩)
    | (go_at_call 54; (with_reducible refine (style9_calls _).mono ?_); rintro e w' ⟨rfl, rfl⟩))
  go_returns
  exact ⟨rfl, by repeat (first | exact Below.refl _ _ | (refine Below.alloc ?_ (by simp <;> omega) _) | (refine Below.setCell ?_ (by simp <;> omega) _))⟩
theorem listNamed10 (w : World) : Calls Tryz.prog 26 #[.int .i64 10] w fun e w' => e = .returned (.agg #[.int .i64 0, .string ⟨#[42]⟩, .string ⟨#[42]⟩, .string ⟨#[42]⟩, .string ⟨#[42]⟩, .string ⟨#[32, 32]⟩, .string ⟨#[42]⟩, .string ⟨#[60, 98, 114, 47, 62]⟩, .string ⟨#[32, 32]⟩]) ∧ Below w.heap.size w w' := by
  go_enter Tryz.func26, Tryz.ntmps26
  go_wp2_with (first
    | (go_at_call 45; (with_reducible refine (style0_calls _).mono ?_); rintro e w' ⟨rfl, rfl⟩)
    | (go_at_call 55; (with_reducible refine (style10_calls _).mono ?_); rintro e w' ⟨rfl, rfl⟩))
  go_returns
  exact ⟨rfl, by repeat (first | exact Below.refl _ _ | (refine Below.alloc ?_ (by simp <;> omega) _) | (refine Below.setCell ?_ (by simp <;> omega) _))⟩
theorem ltStar_calls (a b : ByteArray) (w : World) : Calls Tryz.prog 57 #[.string a, .string b] w fun e w' => e = .returned (.agg #[.int .i64 0, .string ⟨#[42]⟩, .string ⟨#[42]⟩, .string ⟨#[42]⟩, .string ⟨#[42]⟩, .string ⟨#[32, 32]⟩, .string ⟨#[42]⟩, .string b, .string a]) ∧ w' = w.alloc (.cells #[.int .i64 0, .string ⟨#[42]⟩, .string ⟨#[42]⟩, .string ⟨#[42]⟩, .string ⟨#[42]⟩, .string ⟨#[32, 32]⟩, .string ⟨#[42]⟩, .string b, .string a] 24) := by
  go_enter Tryz.func57, Tryz.ntmps57
  go_wp2_with fail
  go_returns
  exact ⟨rfl, rfl⟩
theorem ltNamed0 (w : World) : Calls Tryz.prog 28 #[.int .i64 0] w fun e w' => e = .returned (.agg #[.int .i64 0, .string ⟨#[42]⟩, .string ⟨#[42]⟩, .string ⟨#[42]⟩, .string ⟨#[42]⟩, .string ⟨#[32, 32]⟩, .string ⟨#[42]⟩, .string ⟨#[10]⟩, .string ⟨#[]⟩]) ∧ Below w.heap.size w w' := by
  go_enter Tryz.func28, Tryz.ntmps28
  go_wp2_with (first
    | (go_at_call 57; (with_reducible refine (ltStar_calls _ _ _).mono ?_); rintro e w' ⟨rfl, rfl⟩))
  go_returns
  exact ⟨rfl, by repeat (first | exact Below.refl _ _ | (refine Below.alloc ?_ (by simp <;> omega) _) | (refine Below.setCell ?_ (by simp <;> omega) _))⟩
theorem ltNamed1 (w : World) : Calls Tryz.prog 28 #[.int .i64 1] w fun e w' => e = .returned (.agg #[.int .i64 0, .string ⟨#[226, 151, 143]⟩, .string ⟨#[226, 151, 143]⟩, .string ⟨#[226, 151, 143]⟩, .string ⟨#[226, 151, 143]⟩, .string ⟨#[32, 32]⟩, .string ⟨#[226, 151, 143]⟩, .string ⟨#[10]⟩, .string ⟨#[]⟩]) ∧ Below w.heap.size w w' := by
  have hix : ∀ w, (Instr.index 71 (.agg #[.string ⟨#[226, 151, 143]⟩, .string ⟨#[226, 156, 189]⟩, .string ⟨#[226, 150, 160]⟩, .string ⟨#[226, 152, 133]⟩, .string ⟨#[226, 150, 182]⟩]) (.int .i64 0)).run Tryz.prog w = .ok (.string ⟨#[226, 151, 143]⟩) w := fun _ => by kernel_rfl
  go_enter Tryz.func28, Tryz.ntmps28
  go_wp2_with (first
    | (go_at_call 57; (with_reducible refine (ltStar_calls _ _ _).mono ?_); rintro e w' ⟨rfl, rfl⟩))
  go_returns
  exact ⟨rfl, by repeat (first | exact Below.refl _ _ | (refine Below.alloc ?_ (by simp <;> omega) _) | (refine Below.setCell ?_ (by simp <;> omega) _))⟩
theorem ltNamed2 (w : World) : Calls Tryz.prog 28 #[.int .i64 2] w fun e w' => e = .returned (.agg #[.int .i64 0, .string ⟨#[226, 156, 189]⟩, .string ⟨#[226, 156, 189]⟩, .string ⟨#[226, 156, 189]⟩, .string ⟨#[226, 156, 189]⟩, .string ⟨#[32, 32]⟩, .string ⟨#[226, 156, 189]⟩, .string ⟨#[10]⟩, .string ⟨#[]⟩]) ∧ Below w.heap.size w w' := by
  have hix : ∀ w, (Instr.index 71 (.agg #[.string ⟨#[226, 151, 143]⟩, .string ⟨#[226, 156, 189]⟩, .string ⟨#[226, 150, 160]⟩, .string ⟨#[226, 152, 133]⟩, .string ⟨#[226, 150, 182]⟩]) (.int .i64 1)).run Tryz.prog w = .ok (.string ⟨#[226, 156, 189]⟩) w := fun _ => by kernel_rfl
  go_enter Tryz.func28, Tryz.ntmps28
  go_wp2_with (first
    | (go_at_call 57; (with_reducible refine (ltStar_calls _ _ _).mono ?_); rintro e w' ⟨rfl, rfl⟩))
  go_returns
  exact ⟨rfl, by repeat (first | exact Below.refl _ _ | (refine Below.alloc ?_ (by simp <;> omega) _) | (refine Below.setCell ?_ (by simp <;> omega) _))⟩
theorem ltNamed3 (w : World) : Calls Tryz.prog 28 #[.int .i64 3] w fun e w' => e = .returned (.agg #[.int .i64 0, .string ⟨#[226, 150, 160]⟩, .string ⟨#[226, 150, 160]⟩, .string ⟨#[226, 150, 160]⟩, .string ⟨#[226, 150, 160]⟩, .string ⟨#[32, 32]⟩, .string ⟨#[226, 150, 160]⟩, .string ⟨#[10]⟩, .string ⟨#[]⟩]) ∧ Below w.heap.size w w' := by
  have hix : ∀ w, (Instr.index 71 (.agg #[.string ⟨#[226, 151, 143]⟩, .string ⟨#[226, 156, 189]⟩, .string ⟨#[226, 150, 160]⟩, .string ⟨#[226, 152, 133]⟩, .string ⟨#[226, 150, 182]⟩]) (.int .i64 2)).run Tryz.prog w = .ok (.string ⟨#[226, 150, 160]⟩) w := fun _ => by kernel_rfl
  go_enter Tryz.func28, Tryz.ntmps28
  go_wp2_with (first
    | (go_at_call 57; (with_reducible refine (ltStar_calls _ _ _).mono ?_); rintro e w' ⟨rfl, rfl⟩))
  go_returns
  exact ⟨rfl, by repeat (first | exact Below.refl _ _ | (refine Below.alloc ?_ (by simp <;> omega) _) | (refine Below.setCell ?_ (by simp <;> omega) _))⟩
theorem ltNamed4 (w : World) : Calls Tryz.prog 28 #[.int .i64 4] w fun e w' => e = .returned (.agg #[.int .i64 0, .string ⟨#[226, 152, 133]⟩, .string ⟨#[226, 152, 133]⟩, .string ⟨#[226, 152, 133]⟩, .string ⟨#[226, 152, 133]⟩, .string ⟨#[32, 32]⟩, .string ⟨#[226, 152, 133]⟩, .string ⟨#[10]⟩, .string ⟨#[]⟩]) ∧ Below w.heap.size w w' := by
  have hix : ∀ w, (Instr.index 71 (.agg #[.string ⟨#[226, 151, 143]⟩, .string ⟨#[226, 156, 189]⟩, .string ⟨#[226, 150, 160]⟩, .string ⟨#[226, 152, 133]⟩, .string ⟨#[226, 150, 182]⟩]) (.int .i64 3)).run Tryz.prog w = .ok (.string ⟨#[226, 152, 133]⟩) w := fun _ => by kernel_rfl
  go_enter Tryz.func28, Tryz.ntmps28
  go_wp2_with (first
    | (go_at_call 57; (with_reducible refine (ltStar_calls _ _ _).mono ?_); rintro e w' ⟨rfl, rfl⟩))
  go_returns
  exact ⟨rfl, by repeat (first | exact Below.refl _ _ | (refine Below.alloc ?_ (by simp <;> omega) _) | (refine Below.setCell ?_ (by simp <;> omega) _))⟩
theorem ltNamed5 (w : World) : Calls Tryz.prog 28 #[.int .i64 5] w fun e w' => e = .returned (.agg #[.int .i64 0, .string ⟨#[226, 150, 182]⟩, .string ⟨#[226, 150, 182]⟩, .string ⟨#[226, 150, 182]⟩, .string ⟨#[226, 150, 182]⟩, .string ⟨#[32, 32]⟩, .string ⟨#[226, 150, 182]⟩, .string ⟨#[10]⟩, .string ⟨#[]⟩]) ∧ Below w.heap.size w w' := by
  have hix : ∀ w, (Instr.index 71 (.agg #[.string ⟨#[226, 151, 143]⟩, .string ⟨#[226, 156, 189]⟩, .string ⟨#[226, 150, 160]⟩, .string ⟨#[226, 152, 133]⟩, .string ⟨#[226, 150, 182]⟩]) (.int .i64 4)).run Tryz.prog w = .ok (.string ⟨#[226, 150, 182]⟩) w := fun _ => by kernel_rfl
  go_enter Tryz.func28, Tryz.ntmps28
  go_wp2_with (first
    | (go_at_call 57; (with_reducible refine (ltStar_calls _ _ _).mono ?_); rintro e w' ⟨rfl, rfl⟩))
  go_returns
  exact ⟨rfl, by repeat (first | exact Below.refl _ _ | (refine Below.alloc ?_ (by simp <;> omega) _) | (refine Below.setCell ?_ (by simp <;> omega) _))⟩
theorem ltNamed6 (w : World) : Calls Tryz.prog 28 #[.int .i64 6] w fun e w' => e = .returned (.agg #[.int .i64 0, .string ⟨#[]⟩, .string ⟨#[226, 148, 143, 226, 148, 129]⟩, .string ⟨#[226, 148, 163, 226, 148, 129]⟩, .string ⟨#[226, 148, 163, 226, 148, 129]⟩, .string ⟨#[226, 148, 131, 32, 32]⟩, .string ⟨#[226, 148, 151, 226, 148, 129]⟩, .string ⟨#[10]⟩, .string ⟨#[]⟩]) ∧ Below w.heap.size w w' := by
  have hix : ∀ w, (Instr.index 72 (.agg #[.string ⟨#[226, 148, 143]⟩, .string ⟨#[226, 148, 129]⟩, .string ⟨#[226, 148, 131]⟩, .string ⟨#[226, 148, 163]⟩, .string ⟨#[226, 148, 151]⟩, .string ⟨#[226, 149, 148]⟩, .string ⟨#[226, 149, 144]⟩, .string ⟨#[226, 149, 145]⟩, .string ⟨#[226, 149, 160]⟩, .string ⟨#[226, 149, 154]⟩, .string ⟨#[226, 148, 140]⟩, .string ⟨#[226, 148, 128]⟩, .string ⟨#[226, 148, 130]⟩, .string ⟨#[226, 148, 156]⟩, .string ⟨#[226, 148, 148]⟩, .string ⟨#[226, 149, 173]⟩, .string ⟨#[226, 148, 128]⟩, .string ⟨#[226, 148, 130]⟩, .string ⟨#[226, 148, 156]⟩, .string ⟨#[226, 149, 176]⟩]) (.int .i64 0)).run Tryz.prog w = .ok (.agg #[.string ⟨#[226, 148, 143]⟩, .string ⟨#[226, 148, 129]⟩, .string ⟨#[226, 148, 131]⟩, .string ⟨#[226, 148, 163]⟩, .string ⟨#[226, 148, 151]⟩]) w := fun _ => by kernel_rfl
  go_enter Tryz.func28, Tryz.ntmps28
  go_wp2_with (first
    | (go_at_call 57; (with_reducible refine (ltStar_calls _ _ _).mono ?_); rintro e w' ⟨rfl, rfl⟩))
  go_returns
  exact ⟨rfl, by repeat (first | exact Below.refl _ _ | (refine Below.alloc ?_ (by simp <;> omega) _) | (refine Below.setCell ?_ (by simp <;> omega) _))⟩
theorem ltNamed7 (w : World) : Calls Tryz.prog 28 #[.int .i64 7] w fun e w' => e = .returned (.agg #[.int .i64 0, .string ⟨#[]⟩, .string ⟨#[226, 149, 148, 226, 149, 144]⟩, .string ⟨#[226, 149, 160, 226, 149, 144]⟩, .string ⟨#[226, 149, 160, 226, 149, 144]⟩, .string ⟨#[226, 149, 145, 32, 32]⟩, .string ⟨#[226, 149, 154, 226, 149, 144]⟩, .string ⟨#[10]⟩, .string ⟨#[]⟩]) ∧ Below w.heap.size w w' := by
  have hix : ∀ w, (Instr.index 72 (.agg #[.string ⟨#[226, 148, 143]⟩, .string ⟨#[226, 148, 129]⟩, .string ⟨#[226, 148, 131]⟩, .string ⟨#[226, 148, 163]⟩, .string ⟨#[226, 148, 151]⟩, .string ⟨#[226, 149, 148]⟩, .string ⟨#[226, 149, 144]⟩, .string ⟨#[226, 149, 145]⟩, .string ⟨#[226, 149, 160]⟩, .string ⟨#[226, 149, 154]⟩, .string ⟨#[226, 148, 140]⟩, .string ⟨#[226, 148, 128]⟩, .string ⟨#[226, 148, 130]⟩, .string ⟨#[226, 148, 156]⟩, .string ⟨#[226, 148, 148]⟩, .string ⟨#[226, 149, 173]⟩, .string ⟨#[226, 148, 128]⟩, .string ⟨#[226, 148, 130]⟩, .string ⟨#[226, 148, 156]⟩, .string ⟨#[226, 149, 176]⟩]) (.int .i64 1)).run Tryz.prog w = .ok (.agg #[.string ⟨#[226, 149, 148]⟩, .string ⟨#[226, 149, 144]⟩, .string ⟨#[226, 149, 145]⟩, .string ⟨#[226, 149, 160]⟩, .string ⟨#[226, 149, 154]⟩]) w := fun _ => by kernel_rfl
  go_enter Tryz.func28, Tryz.ntmps28
  go_wp2_with (first
    | (go_at_call 57; (with_reducible refine (ltStar_calls _ _ _).mono ?_); rintro e w' ⟨rfl, rfl⟩))
  go_returns
  exact ⟨rfl, by repeat (first | exact Below.refl _ _ | (refine Below.alloc ?_ (by simp <;> omega) _) | (refine Below.setCell ?_ (by simp <;> omega) _))⟩
theorem ltNamed8 (w : World) : Calls Tryz.prog 28 #[.int .i64 8] w fun e w' => e = .returned (.agg #[.int .i64 0, .string ⟨#[]⟩, .string ⟨#[226, 148, 140, 226, 148, 128]⟩, .string ⟨#[226, 148, 156, 226, 148, 128]⟩, .string ⟨#[226, 148, 156, 226, 148, 128]⟩, .string ⟨#[226, 148, 130, 32, 32]⟩, .string ⟨#[226, 148, 148, 226, 148, 128]⟩, .string ⟨#[10]⟩, .string ⟨#[]⟩]) ∧ Below w.heap.size w w' := by
  have hix : ∀ w, (Instr.index 72 (.agg #[.string ⟨#[226, 148, 143]⟩, .string ⟨#[226, 148, 129]⟩, .string ⟨#[226, 148, 131]⟩, .string ⟨#[226, 148, 163]⟩, .string ⟨#[226, 148, 151]⟩, .string ⟨#[226, 149, 148]⟩, .string ⟨#[226, 149, 144]⟩, .string ⟨#[226, 149, 145]⟩, .string ⟨#[226, 149, 160]⟩, .string ⟨#[226, 149, 154]⟩, .string ⟨#[226, 148, 140]⟩, .string ⟨#[226, 148, 128]⟩, .string ⟨#[226, 148, 130]⟩, .string ⟨#[226, 148, 156]⟩, .string ⟨#[226, 148, 148]⟩, .string ⟨#[226, 149, 173]⟩, .string ⟨#[226, 148, 128]⟩, .string ⟨#[226, 148, 130]⟩, .string ⟨#[226, 148, 156]⟩, .string ⟨#[226, 149, 176]⟩]) (.int .i64 2)).run Tryz.prog w = .ok (.agg #[.string ⟨#[226, 148, 140]⟩, .string ⟨#[226, 148, 128]⟩, .string ⟨#[226, 148, 130]⟩, .string ⟨#[226, 148, 156]⟩, .string ⟨#[226, 148, 148]⟩]) w := fun _ => by kernel_rfl
  go_enter Tryz.func28, Tryz.ntmps28
  go_wp2_with (first
    | (go_at_call 57; (with_reducible refine (ltStar_calls _ _ _).mono ?_); rintro e w' ⟨rfl, rfl⟩))
  go_returns
  exact ⟨rfl, by repeat (first | exact Below.refl _ _ | (refine Below.alloc ?_ (by simp <;> omega) _) | (refine Below.setCell ?_ (by simp <;> omega) _))⟩
theorem ltNamed9 (w : World) : Calls Tryz.prog 28 #[.int .i64 9] w fun e w' => e = .returned (.agg #[.int .i64 0, .string ⟨#[]⟩, .string ⟨#[226, 149, 173, 226, 148, 128]⟩, .string ⟨#[226, 148, 156, 226, 148, 128]⟩, .string ⟨#[226, 148, 156, 226, 148, 128]⟩, .string ⟨#[226, 148, 130, 32, 32]⟩, .string ⟨#[226, 149, 176, 226, 148, 128]⟩, .string ⟨#[10]⟩, .string ⟨#[]⟩]) ∧ Below w.heap.size w w' := by
  have hix : ∀ w, (Instr.index 72 (.agg #[.string ⟨#[226, 148, 143]⟩, .string ⟨#[226, 148, 129]⟩, .string ⟨#[226, 148, 131]⟩, .string ⟨#[226, 148, 163]⟩, .string ⟨#[226, 148, 151]⟩, .string ⟨#[226, 149, 148]⟩, .string ⟨#[226, 149, 144]⟩, .string ⟨#[226, 149, 145]⟩, .string ⟨#[226, 149, 160]⟩, .string ⟨#[226, 149, 154]⟩, .string ⟨#[226, 148, 140]⟩, .string ⟨#[226, 148, 128]⟩, .string ⟨#[226, 148, 130]⟩, .string ⟨#[226, 148, 156]⟩, .string ⟨#[226, 148, 148]⟩, .string ⟨#[226, 149, 173]⟩, .string ⟨#[226, 148, 128]⟩, .string ⟨#[226, 148, 130]⟩, .string ⟨#[226, 148, 156]⟩, .string ⟨#[226, 149, 176]⟩]) (.int .i64 3)).run Tryz.prog w = .ok (.agg #[.string ⟨#[226, 149, 173]⟩, .string ⟨#[226, 148, 128]⟩, .string ⟨#[226, 148, 130]⟩, .string ⟨#[226, 148, 156]⟩, .string ⟨#[226, 149, 176]⟩]) w := fun _ => by kernel_rfl
  go_enter Tryz.func28, Tryz.ntmps28
  go_wp2_with (first
    | (go_at_call 57; (with_reducible refine (ltStar_calls _ _ _).mono ?_); rintro e w' ⟨rfl, rfl⟩))
  go_returns
  exact ⟨rfl, by repeat (first | exact Below.refl _ _ | (refine Below.alloc ?_ (by simp <;> omega) _) | (refine Below.setCell ?_ (by simp <;> omega) _))⟩
theorem ltNamed10 (w : World) : Calls Tryz.prog 28 #[.int .i64 10] w fun e w' => e = .returned (.agg #[.int .i64 0, .string ⟨#[42]⟩, .string ⟨#[42]⟩, .string ⟨#[42]⟩, .string ⟨#[42]⟩, .string ⟨#[32, 32]⟩, .string ⟨#[42]⟩, .string ⟨#[10]⟩, .string ⟨#[32, 32]⟩]) ∧ Below w.heap.size w w' := by
  go_enter Tryz.func28, Tryz.ntmps28
  go_wp2_with (first
    | (go_at_call 57; (with_reducible refine (ltStar_calls _ _ _).mono ?_); rintro e w' ⟨rfl, rfl⟩))
  go_returns
  exact ⟨rfl, by repeat (first | exact Below.refl _ _ | (refine Below.alloc ?_ (by simp <;> omega) _) | (refine Below.setCell ?_ (by simp <;> omega) _))⟩
theorem ListNamed_calls (n : Nat) (hn : n < 11) (w : World) : Calls Tryz.prog 26 #[.int .i64 n] w fun e w' => e = .returned (.agg #[.int .i64 0, .string ⟨(namedA n).single.toArray⟩, .string ⟨(namedA n).top.toArray⟩, .string ⟨(namedA n).first.toArray⟩, .string ⟨(namedA n).middle.toArray⟩, .string ⟨(namedA n).vert.toArray⟩, .string ⟨(namedA n).bottom.toArray⟩, .string ⟨(namedA n).newline.toArray⟩, .string ⟨(namedA n).pre.toArray⟩]) ∧ Below w.heap.size w w' := by
  match n, hn with
  | 0, _ => exact listNamed0 w
  | 1, _ => exact listNamed1 w
  | 2, _ => exact listNamed2 w
  | 3, _ => exact listNamed3 w
  | 4, _ => exact listNamed4 w
  | 5, _ => exact listNamed5 w
  | 6, _ => exact listNamed6 w
  | 7, _ => exact listNamed7 w
  | 8, _ => exact listNamed8 w
  | 9, _ => exact listNamed9 w
  | 10, _ => exact listNamed10 w
theorem LtNamed_calls (n : Nat) (hn : n < 11) (w : World) : Calls Tryz.prog 28 #[.int .i64 n] w fun e w' => e = .returned (.agg #[.int .i64 0, .string ⟨(namedB n).single.toArray⟩, .string ⟨(namedB n).top.toArray⟩, .string ⟨(namedB n).first.toArray⟩, .string ⟨(namedB n).middle.toArray⟩, .string ⟨(namedB n).vert.toArray⟩, .string ⟨(namedB n).bottom.toArray⟩, .string ⟨(namedB n).newline.toArray⟩, .string ⟨(namedB n).pre.toArray⟩]) ∧ Below w.heap.size w w' := by
  match n, hn with
  | 0, _ => exact ltNamed0 w
  | 1, _ => exact ltNamed1 w
  | 2, _ => exact ltNamed2 w
  | 3, _ => exact ltNamed3 w
  | 4, _ => exact ltNamed4 w
  | 5, _ => exact ltNamed5 w
  | 6, _ => exact ltNamed6 w
  | 7, _ => exact ltNamed7 w
  | 8, _ => exact ltNamed8 w
  | 9, _ => exact ltNamed9 w
  | 10, _ => exact ltNamed10 w
end Go.Proofs.YtejjjenjnfaopaaGreatDoor
