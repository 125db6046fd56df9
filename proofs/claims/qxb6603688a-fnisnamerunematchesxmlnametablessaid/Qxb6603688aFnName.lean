/- The law FnIsNameRuneMatchesXMLNameTables (3): the walk. -/
import Derived.Test.Qxb6603688aName
import Derived.Test.Qxb6603688aNameEdge
namespace Go.Proofs.Qxb6603688a
open Go.RowKit
set_option linter.unusedVariables false

theorem law_end {b : Bool} {c : Nat} (h : b = decide (c % 2 = 1)) : (b == ((c : Int) % 2 == 1)) = true := by
  have e : ((c : Int) % 2 == 1) = decide (c % 2 = 1) := by
    rw [Bool.eq_iff_iff]
    simp
    omega
  rw [h, e, beq_self_eq_true]

set_option maxHeartbeats 1000000 in
theorem fn3_fst (r : Int) (w : World) : Calls Try.prog 3 #[.int .i32 r, .bool true] w fun e w' => e = .returned (.bool true) ∧ w = w' := by
  have HL : Hid (nameB r true = decide (cross startE r 24 % 2 = 1)) := fst_law r
  go_enter Try.func3, Try.ntmps3
  go_wp2
  go_loop [6, 7] (fun c i => ∃ k : Nat, k ≤ 24 ∧ i = .int .i64 (k : Int) ∧ c = .int .i64 (cross startE r k : Int)) (fun _ i => 24 - (intOf i).toNat)
  case atStart => exact ⟨0, Nat.zero_le _, rfl, rfl⟩
  case round =>
    obtain ⟨k, hk, rfl, rfl⟩ := hrel
    have hcl := cross_le startE r k
    by_cases hlt : k < 24
    · by_cases he : startE k ≤ r
      · have HC : Hid (cross startE r (k + 1) = cross startE r k + 1) := (by rw [cross, if_pos he] : cross startE r (k + 1) = cross startE r k + 1)
        go_wp2_with (first | (go_at_call 5; refine (ce_any k (by omega) _).mono ?_; rintro e w1 ⟨rfl, rfl⟩) | (go_at_call 6; refine (se_any k (by omega) _).mono ?_; rintro e w1 ⟨rfl, rfl⟩))
        go_round
        case rel => exact ⟨k + 1, by omega, by go_num, by rw [HC.out]; go_num⟩
        case measure => simp [intOf]; omega
      · have HC : Hid (cross startE r (k + 1) = cross startE r k) := (by rw [cross, if_neg he]; rfl : cross startE r (k + 1) = cross startE r k)
        go_wp2_with (first | (go_at_call 5; refine (ce_any k (by omega) _).mono ?_; rintro e w1 ⟨rfl, rfl⟩) | (go_at_call 6; refine (se_any k (by omega) _).mono ?_; rintro e w1 ⟨rfl, rfl⟩))
        go_round
        case rel => exact ⟨k + 1, by omega, by go_num, by rw [HC.out]⟩
        case measure => simp [intOf]; omega
    · obtain rfl : k = 24 := by omega
      go_wp2_with fail
      refine (zzname r true _).mono ?_
      rintro e w1 ⟨rfl, rfl⟩
      go_wp2
      go_ret
      exact ⟨ret_bool (law_end HL.out), rfl⟩

set_option maxHeartbeats 1000000 in
theorem fn3_lat (r : Int) (w : World) : Calls Try.prog 3 #[.int .i32 r, .bool false] w fun e w' => e = .returned (.bool true) ∧ w = w' := by
  have HL : Hid (nameB r false = decide (cross charE r 26 % 2 = 1)) := lat_law r
  go_enter Try.func3, Try.ntmps3
  go_wp2
  go_loop [6, 7] (fun c i => ∃ k : Nat, k ≤ 26 ∧ i = .int .i64 (k : Int) ∧ c = .int .i64 (cross charE r k : Int)) (fun _ i => 26 - (intOf i).toNat)
  case atStart => exact ⟨0, Nat.zero_le _, rfl, rfl⟩
  case round =>
    obtain ⟨k, hk, rfl, rfl⟩ := hrel
    have hcl := cross_le charE r k
    by_cases hlt : k < 26
    · by_cases he : charE k ≤ r
      · have HC : Hid (cross charE r (k + 1) = cross charE r k + 1) := (by rw [cross, if_pos he] : cross charE r (k + 1) = cross charE r k + 1)
        go_wp2_with ((go_at_call 5; refine (ce_any k (by omega) _).mono ?_; rintro e w1 ⟨rfl, rfl⟩))
        go_round
        case rel => exact ⟨k + 1, by omega, by go_num, by rw [HC.out]; go_num⟩
        case measure => simp [intOf]; omega
      · have HC : Hid (cross charE r (k + 1) = cross charE r k) := (by rw [cross, if_neg he]; rfl : cross charE r (k + 1) = cross charE r k)
        go_wp2_with ((go_at_call 5; refine (ce_any k (by omega) _).mono ?_; rintro e w1 ⟨rfl, rfl⟩))
        go_round
        case rel => exact ⟨k + 1, by omega, by go_num, by rw [HC.out]⟩
        case measure => simp [intOf]; omega
    · obtain rfl : k = 26 := by omega
      go_wp2_with fail
      refine (zzname r false _).mono ?_
      rintro e w1 ⟨rfl, rfl⟩
      go_wp2
      go_ret
      exact ⟨ret_bool (law_end HL.out), rfl⟩

end Go.Proofs.Qxb6603688a
