/- The walks of the name tables: nameCharEdge (5), nameStartEdge (6). -/
import Derived.Test.Qxb6603688aRows
import Derived.Test.Qxb6603688aPlain
import Derived.WalkKit
import Derived.WalkLawsBesides
import Derived.WalkSpells
import Derived.Below
namespace Go.Proofs.Qxb6603688a
open Go.RowKit
set_option linter.unusedVariables false

theorem ce_0 (w : World) : Calls Try.prog 5 #[.int .i64 0] w fun e w' => e = .returned (.int .i32 183) ∧ w = w' := by
  go_enter Try.func5, Try.ntmps5
  go_wp2
  go_ret
  exact ⟨rfl, rfl⟩
theorem ce_1 (w : World) : Calls Try.prog 5 #[.int .i64 1] w fun e w' => e = .returned (.int .i32 184) ∧ w = w' := by
  go_enter Try.func5, Try.ntmps5
  go_wp2
  go_ret
  exact ⟨rfl, rfl⟩
theorem ce_2 (w : World) : Calls Try.prog 5 #[.int .i64 2] w fun e w' => e = .returned (.int .i32 192) ∧ w = w' := by
  go_enter Try.func5, Try.ntmps5
  go_wp2
  go_ret
  exact ⟨rfl, rfl⟩
theorem ce_3 (w : World) : Calls Try.prog 5 #[.int .i64 3] w fun e w' => e = .returned (.int .i32 215) ∧ w = w' := by
  go_enter Try.func5, Try.ntmps5
  go_wp2
  go_ret
  exact ⟨rfl, rfl⟩
theorem ce_4 (w : World) : Calls Try.prog 5 #[.int .i64 4] w fun e w' => e = .returned (.int .i32 216) ∧ w = w' := by
  go_enter Try.func5, Try.ntmps5
  go_wp2
  go_ret
  exact ⟨rfl, rfl⟩
theorem ce_5 (w : World) : Calls Try.prog 5 #[.int .i64 5] w fun e w' => e = .returned (.int .i32 247) ∧ w = w' := by
  go_enter Try.func5, Try.ntmps5
  go_wp2
  go_ret
  exact ⟨rfl, rfl⟩
theorem ce_6 (w : World) : Calls Try.prog 5 #[.int .i64 6] w fun e w' => e = .returned (.int .i32 248) ∧ w = w' := by
  go_enter Try.func5, Try.ntmps5
  go_wp2
  go_ret
  exact ⟨rfl, rfl⟩
theorem ce_7 (w : World) : Calls Try.prog 5 #[.int .i64 7] w fun e w' => e = .returned (.int .i32 894) ∧ w = w' := by
  go_enter Try.func5, Try.ntmps5
  go_wp2
  go_ret
  exact ⟨rfl, rfl⟩
theorem ce_8 (w : World) : Calls Try.prog 5 #[.int .i64 8] w fun e w' => e = .returned (.int .i32 895) ∧ w = w' := by
  go_enter Try.func5, Try.ntmps5
  go_wp2
  go_ret
  exact ⟨rfl, rfl⟩
theorem ce_9 (w : World) : Calls Try.prog 5 #[.int .i64 9] w fun e w' => e = .returned (.int .i32 8192) ∧ w = w' := by
  go_enter Try.func5, Try.ntmps5
  go_wp2
  go_ret
  exact ⟨rfl, rfl⟩
theorem ce_10 (w : World) : Calls Try.prog 5 #[.int .i64 10] w fun e w' => e = .returned (.int .i32 8204) ∧ w = w' := by
  go_enter Try.func5, Try.ntmps5
  go_wp2
  go_ret
  exact ⟨rfl, rfl⟩
theorem ce_11 (w : World) : Calls Try.prog 5 #[.int .i64 11] w fun e w' => e = .returned (.int .i32 8206) ∧ w = w' := by
  go_enter Try.func5, Try.ntmps5
  go_wp2
  go_ret
  exact ⟨rfl, rfl⟩
theorem ce_12 (w : World) : Calls Try.prog 5 #[.int .i64 12] w fun e w' => e = .returned (.int .i32 8255) ∧ w = w' := by
  go_enter Try.func5, Try.ntmps5
  go_wp2
  go_ret
  exact ⟨rfl, rfl⟩
theorem ce_13 (w : World) : Calls Try.prog 5 #[.int .i64 13] w fun e w' => e = .returned (.int .i32 8257) ∧ w = w' := by
  go_enter Try.func5, Try.ntmps5
  go_wp2
  go_ret
  exact ⟨rfl, rfl⟩
theorem ce_14 (w : World) : Calls Try.prog 5 #[.int .i64 14] w fun e w' => e = .returned (.int .i32 8304) ∧ w = w' := by
  go_enter Try.func5, Try.ntmps5
  go_wp2
  go_ret
  exact ⟨rfl, rfl⟩
theorem ce_15 (w : World) : Calls Try.prog 5 #[.int .i64 15] w fun e w' => e = .returned (.int .i32 8592) ∧ w = w' := by
  go_enter Try.func5, Try.ntmps5
  go_wp2
  go_ret
  exact ⟨rfl, rfl⟩
theorem ce_16 (w : World) : Calls Try.prog 5 #[.int .i64 16] w fun e w' => e = .returned (.int .i32 11264) ∧ w = w' := by
  go_enter Try.func5, Try.ntmps5
  go_wp2
  go_ret
  exact ⟨rfl, rfl⟩
theorem ce_17 (w : World) : Calls Try.prog 5 #[.int .i64 17] w fun e w' => e = .returned (.int .i32 12272) ∧ w = w' := by
  go_enter Try.func5, Try.ntmps5
  go_wp2
  go_ret
  exact ⟨rfl, rfl⟩
theorem ce_18 (w : World) : Calls Try.prog 5 #[.int .i64 18] w fun e w' => e = .returned (.int .i32 12289) ∧ w = w' := by
  go_enter Try.func5, Try.ntmps5
  go_wp2
  go_ret
  exact ⟨rfl, rfl⟩
theorem ce_19 (w : World) : Calls Try.prog 5 #[.int .i64 19] w fun e w' => e = .returned (.int .i32 55296) ∧ w = w' := by
  go_enter Try.func5, Try.ntmps5
  go_wp2
  go_ret
  exact ⟨rfl, rfl⟩
theorem ce_20 (w : World) : Calls Try.prog 5 #[.int .i64 20] w fun e w' => e = .returned (.int .i32 63744) ∧ w = w' := by
  go_enter Try.func5, Try.ntmps5
  go_wp2
  go_ret
  exact ⟨rfl, rfl⟩
theorem ce_21 (w : World) : Calls Try.prog 5 #[.int .i64 21] w fun e w' => e = .returned (.int .i32 64976) ∧ w = w' := by
  go_enter Try.func5, Try.ntmps5
  go_wp2
  go_ret
  exact ⟨rfl, rfl⟩
theorem ce_22 (w : World) : Calls Try.prog 5 #[.int .i64 22] w fun e w' => e = .returned (.int .i32 65008) ∧ w = w' := by
  go_enter Try.func5, Try.ntmps5
  go_wp2
  go_ret
  exact ⟨rfl, rfl⟩
theorem ce_23 (w : World) : Calls Try.prog 5 #[.int .i64 23] w fun e w' => e = .returned (.int .i32 65534) ∧ w = w' := by
  go_enter Try.func5, Try.ntmps5
  go_wp2
  go_ret
  exact ⟨rfl, rfl⟩
theorem ce_24 (w : World) : Calls Try.prog 5 #[.int .i64 24] w fun e w' => e = .returned (.int .i32 65536) ∧ w = w' := by
  go_enter Try.func5, Try.ntmps5
  go_wp2
  go_ret
  exact ⟨rfl, rfl⟩
theorem ce_25 (w : World) : Calls Try.prog 5 #[.int .i64 25] w fun e w' => e = .returned (.int .i32 983040) ∧ w = w' := by
  go_enter Try.func5, Try.ntmps5
  go_wp2
  go_ret
  exact ⟨rfl, rfl⟩
theorem ce_any (i : Nat) (hi : i < 26) (w : World) : Calls Try.prog 5 #[.int .i64 (i : Int)] w fun e w' => e = .returned (.int .i32 (charE i)) ∧ w = w' := by
  match i, hi with
  | 0, _ => exact ce_0 w
  | 1, _ => exact ce_1 w
  | 2, _ => exact ce_2 w
  | 3, _ => exact ce_3 w
  | 4, _ => exact ce_4 w
  | 5, _ => exact ce_5 w
  | 6, _ => exact ce_6 w
  | 7, _ => exact ce_7 w
  | 8, _ => exact ce_8 w
  | 9, _ => exact ce_9 w
  | 10, _ => exact ce_10 w
  | 11, _ => exact ce_11 w
  | 12, _ => exact ce_12 w
  | 13, _ => exact ce_13 w
  | 14, _ => exact ce_14 w
  | 15, _ => exact ce_15 w
  | 16, _ => exact ce_16 w
  | 17, _ => exact ce_17 w
  | 18, _ => exact ce_18 w
  | 19, _ => exact ce_19 w
  | 20, _ => exact ce_20 w
  | 21, _ => exact ce_21 w
  | 22, _ => exact ce_22 w
  | 23, _ => exact ce_23 w
  | 24, _ => exact ce_24 w
  | 25, _ => exact ce_25 w
  | i + 26, hi => omega

theorem se_0 (w : World) : Calls Try.prog 6 #[.int .i64 0] w fun e w' => e = .returned (.int .i32 192) ∧ w = w' := by
  go_enter Try.func6, Try.ntmps6
  go_wp2
  go_ret
  exact ⟨rfl, rfl⟩
theorem se_1 (w : World) : Calls Try.prog 6 #[.int .i64 1] w fun e w' => e = .returned (.int .i32 215) ∧ w = w' := by
  go_enter Try.func6, Try.ntmps6
  go_wp2
  go_ret
  exact ⟨rfl, rfl⟩
theorem se_2 (w : World) : Calls Try.prog 6 #[.int .i64 2] w fun e w' => e = .returned (.int .i32 216) ∧ w = w' := by
  go_enter Try.func6, Try.ntmps6
  go_wp2
  go_ret
  exact ⟨rfl, rfl⟩
theorem se_3 (w : World) : Calls Try.prog 6 #[.int .i64 3] w fun e w' => e = .returned (.int .i32 247) ∧ w = w' := by
  go_enter Try.func6, Try.ntmps6
  go_wp2
  go_ret
  exact ⟨rfl, rfl⟩
theorem se_4 (w : World) : Calls Try.prog 6 #[.int .i64 4] w fun e w' => e = .returned (.int .i32 248) ∧ w = w' := by
  go_enter Try.func6, Try.ntmps6
  go_wp2
  go_ret
  exact ⟨rfl, rfl⟩
theorem se_5 (w : World) : Calls Try.prog 6 #[.int .i64 5] w fun e w' => e = .returned (.int .i32 768) ∧ w = w' := by
  go_enter Try.func6, Try.ntmps6
  go_wp2
  go_ret
  exact ⟨rfl, rfl⟩
theorem se_6 (w : World) : Calls Try.prog 6 #[.int .i64 6] w fun e w' => e = .returned (.int .i32 880) ∧ w = w' := by
  go_enter Try.func6, Try.ntmps6
  go_wp2
  go_ret
  exact ⟨rfl, rfl⟩
theorem se_7 (w : World) : Calls Try.prog 6 #[.int .i64 7] w fun e w' => e = .returned (.int .i32 894) ∧ w = w' := by
  go_enter Try.func6, Try.ntmps6
  go_wp2
  go_ret
  exact ⟨rfl, rfl⟩
theorem se_8 (w : World) : Calls Try.prog 6 #[.int .i64 8] w fun e w' => e = .returned (.int .i32 895) ∧ w = w' := by
  go_enter Try.func6, Try.ntmps6
  go_wp2
  go_ret
  exact ⟨rfl, rfl⟩
theorem se_9 (w : World) : Calls Try.prog 6 #[.int .i64 9] w fun e w' => e = .returned (.int .i32 8192) ∧ w = w' := by
  go_enter Try.func6, Try.ntmps6
  go_wp2
  go_ret
  exact ⟨rfl, rfl⟩
theorem se_10 (w : World) : Calls Try.prog 6 #[.int .i64 10] w fun e w' => e = .returned (.int .i32 8204) ∧ w = w' := by
  go_enter Try.func6, Try.ntmps6
  go_wp2
  go_ret
  exact ⟨rfl, rfl⟩
theorem se_11 (w : World) : Calls Try.prog 6 #[.int .i64 11] w fun e w' => e = .returned (.int .i32 8206) ∧ w = w' := by
  go_enter Try.func6, Try.ntmps6
  go_wp2
  go_ret
  exact ⟨rfl, rfl⟩
theorem se_12 (w : World) : Calls Try.prog 6 #[.int .i64 12] w fun e w' => e = .returned (.int .i32 8304) ∧ w = w' := by
  go_enter Try.func6, Try.ntmps6
  go_wp2
  go_ret
  exact ⟨rfl, rfl⟩
theorem se_13 (w : World) : Calls Try.prog 6 #[.int .i64 13] w fun e w' => e = .returned (.int .i32 8592) ∧ w = w' := by
  go_enter Try.func6, Try.ntmps6
  go_wp2
  go_ret
  exact ⟨rfl, rfl⟩
theorem se_14 (w : World) : Calls Try.prog 6 #[.int .i64 14] w fun e w' => e = .returned (.int .i32 11264) ∧ w = w' := by
  go_enter Try.func6, Try.ntmps6
  go_wp2
  go_ret
  exact ⟨rfl, rfl⟩
theorem se_15 (w : World) : Calls Try.prog 6 #[.int .i64 15] w fun e w' => e = .returned (.int .i32 12272) ∧ w = w' := by
  go_enter Try.func6, Try.ntmps6
  go_wp2
  go_ret
  exact ⟨rfl, rfl⟩
theorem se_16 (w : World) : Calls Try.prog 6 #[.int .i64 16] w fun e w' => e = .returned (.int .i32 12289) ∧ w = w' := by
  go_enter Try.func6, Try.ntmps6
  go_wp2
  go_ret
  exact ⟨rfl, rfl⟩
theorem se_17 (w : World) : Calls Try.prog 6 #[.int .i64 17] w fun e w' => e = .returned (.int .i32 55296) ∧ w = w' := by
  go_enter Try.func6, Try.ntmps6
  go_wp2
  go_ret
  exact ⟨rfl, rfl⟩
theorem se_18 (w : World) : Calls Try.prog 6 #[.int .i64 18] w fun e w' => e = .returned (.int .i32 63744) ∧ w = w' := by
  go_enter Try.func6, Try.ntmps6
  go_wp2
  go_ret
  exact ⟨rfl, rfl⟩
theorem se_19 (w : World) : Calls Try.prog 6 #[.int .i64 19] w fun e w' => e = .returned (.int .i32 64976) ∧ w = w' := by
  go_enter Try.func6, Try.ntmps6
  go_wp2
  go_ret
  exact ⟨rfl, rfl⟩
theorem se_20 (w : World) : Calls Try.prog 6 #[.int .i64 20] w fun e w' => e = .returned (.int .i32 65008) ∧ w = w' := by
  go_enter Try.func6, Try.ntmps6
  go_wp2
  go_ret
  exact ⟨rfl, rfl⟩
theorem se_21 (w : World) : Calls Try.prog 6 #[.int .i64 21] w fun e w' => e = .returned (.int .i32 65534) ∧ w = w' := by
  go_enter Try.func6, Try.ntmps6
  go_wp2
  go_ret
  exact ⟨rfl, rfl⟩
theorem se_22 (w : World) : Calls Try.prog 6 #[.int .i64 22] w fun e w' => e = .returned (.int .i32 65536) ∧ w = w' := by
  go_enter Try.func6, Try.ntmps6
  go_wp2
  go_ret
  exact ⟨rfl, rfl⟩
theorem se_23 (w : World) : Calls Try.prog 6 #[.int .i64 23] w fun e w' => e = .returned (.int .i32 983040) ∧ w = w' := by
  go_enter Try.func6, Try.ntmps6
  go_wp2
  go_ret
  exact ⟨rfl, rfl⟩
theorem se_any (i : Nat) (hi : i < 24) (w : World) : Calls Try.prog 6 #[.int .i64 (i : Int)] w fun e w' => e = .returned (.int .i32 (startE i)) ∧ w = w' := by
  match i, hi with
  | 0, _ => exact se_0 w
  | 1, _ => exact se_1 w
  | 2, _ => exact se_2 w
  | 3, _ => exact se_3 w
  | 4, _ => exact se_4 w
  | 5, _ => exact se_5 w
  | 6, _ => exact se_6 w
  | 7, _ => exact se_7 w
  | 8, _ => exact se_8 w
  | 9, _ => exact se_9 w
  | 10, _ => exact se_10 w
  | 11, _ => exact se_11 w
  | 12, _ => exact se_12 w
  | 13, _ => exact se_13 w
  | 14, _ => exact se_14 w
  | 15, _ => exact se_15 w
  | 16, _ => exact se_16 w
  | 17, _ => exact se_17 w
  | 18, _ => exact se_18 w
  | 19, _ => exact se_19 w
  | 20, _ => exact se_20 w
  | 21, _ => exact se_21 w
  | 22, _ => exact se_22 w
  | 23, _ => exact se_23 w
  | i + 24, hi => omega

end Go.Proofs.Qxb6603688a
