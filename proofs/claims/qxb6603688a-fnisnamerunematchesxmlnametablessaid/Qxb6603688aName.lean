/- The walks of the name tables: isNameRune (13) past the first rune, ZZIsNameRune (7). -/
import Derived.Test.Qxb6603688aNameFirst
namespace Go.Proofs.Qxb6603688a
open Go.RowKit
set_option linter.unusedVariables false

set_option maxHeartbeats 2000000 in
theorem isname_later (r : Int) (w : World) : Calls Try.prog 13 #[.int .i32 r, .bool false] w fun e w' => e = .returned (.bool (nameB r false)) ∧ w = w' := by
  go_enter Try.func13, Try.ntmps13
  go_wp2
  all_goals
    go_ret
    first | (refine ⟨ret_bool (nb2t ?_), rfl⟩; omega) | (refine ⟨ret_bool (nb2f ?_), rfl⟩; omega) | (refine ⟨ret_bool ?_, rfl⟩; rw [nameB_later, Bool.eq_iff_iff]; simp only [Bool.or_eq_true, beq_iff_eq, decide_eq_true_eq]; omega)

theorem zzname (r : Int) (first : Bool) (w : World) : Calls Try.prog 7 #[.int .i32 r, .bool first] w fun e w' => e = .returned (.bool (nameB r first)) ∧ w = w' := by
  have h : Calls Try.prog 13 #[.int .i32 r, .bool first] w fun e w' => e = .returned (.bool (nameB r first)) ∧ w = w' := by
    cases first
    · exact isname_later r w
    · exact isname_first r w
  go_enter Try.func7, Try.ntmps7
  go_wp2_with fail
  refine h.mono ?_
  rintro e w' ⟨rfl, rfl⟩
  go_wp2
  go_ret
  exact ⟨rfl, rfl⟩
end Go.Proofs.Qxb6603688a
