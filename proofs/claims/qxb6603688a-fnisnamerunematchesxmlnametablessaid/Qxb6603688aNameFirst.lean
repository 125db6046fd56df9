/- The walks of the name tables: isNameRune (13) at first. -/
import Derived.Test.Qxb6603688aRows
import Derived.Test.Qxb6603688aPlain
import Derived.WalkKit
import Derived.WalkLawsBesides
import Derived.WalkSpells
import Derived.Below
namespace Go.Proofs.Qxb6603688a
open Go.RowKit
set_option linter.unusedVariables false

theorem ret_bool {a b : Bool} (h : a = b) : Ending.returned (.bool a) = .returned (.bool b) := by rw [h]
theorem nb1t {r : Int} (h : (192 ≤ r ∧ r ≤ 214) ∨ (216 ≤ r ∧ r ≤ 246) ∨ (248 ≤ r ∧ r ≤ 767) ∨ (880 ≤ r ∧ r ≤ 893) ∨ (895 ≤ r ∧ r ≤ 8191) ∨ (8204 ≤ r ∧ r ≤ 8205) ∨ (8304 ≤ r ∧ r ≤ 8591) ∨ (11264 ≤ r ∧ r ≤ 12271) ∨ (12289 ≤ r ∧ r ≤ 55295) ∨ (63744 ≤ r ∧ r ≤ 64975) ∨ (65008 ≤ r ∧ r ≤ 65533) ∨ (65536 ≤ r ∧ r ≤ 983039)) : true = nameB r true := by rw [nameB_first, decide_eq_true h]
theorem nb1f {r : Int} (h : ¬ ((192 ≤ r ∧ r ≤ 214) ∨ (216 ≤ r ∧ r ≤ 246) ∨ (248 ≤ r ∧ r ≤ 767) ∨ (880 ≤ r ∧ r ≤ 893) ∨ (895 ≤ r ∧ r ≤ 8191) ∨ (8204 ≤ r ∧ r ≤ 8205) ∨ (8304 ≤ r ∧ r ≤ 8591) ∨ (11264 ≤ r ∧ r ≤ 12271) ∨ (12289 ≤ r ∧ r ≤ 55295) ∨ (63744 ≤ r ∧ r ≤ 64975) ∨ (65008 ≤ r ∧ r ≤ 65533) ∨ (65536 ≤ r ∧ r ≤ 983039))) : false = nameB r true := by rw [nameB_first, decide_eq_false h]
theorem nb2t {r : Int} (h : ((192 ≤ r ∧ r ≤ 214) ∨ (216 ≤ r ∧ r ≤ 246) ∨ (248 ≤ r ∧ r ≤ 767) ∨ (880 ≤ r ∧ r ≤ 893) ∨ (895 ≤ r ∧ r ≤ 8191) ∨ (8204 ≤ r ∧ r ≤ 8205) ∨ (8304 ≤ r ∧ r ≤ 8591) ∨ (11264 ≤ r ∧ r ≤ 12271) ∨ (12289 ≤ r ∧ r ≤ 55295) ∨ (63744 ≤ r ∧ r ≤ 64975) ∨ (65008 ≤ r ∧ r ≤ 65533) ∨ (65536 ≤ r ∧ r ≤ 983039)) ∨ (r = 183 ∨ (768 ≤ r ∧ r ≤ 879) ∨ (8255 ≤ r ∧ r ≤ 8256))) : true = nameB r false := by rw [nameB_later, decide_eq_true h]
theorem nb2f {r : Int} (h : ¬ (((192 ≤ r ∧ r ≤ 214) ∨ (216 ≤ r ∧ r ≤ 246) ∨ (248 ≤ r ∧ r ≤ 767) ∨ (880 ≤ r ∧ r ≤ 893) ∨ (895 ≤ r ∧ r ≤ 8191) ∨ (8204 ≤ r ∧ r ≤ 8205) ∨ (8304 ≤ r ∧ r ≤ 8591) ∨ (11264 ≤ r ∧ r ≤ 12271) ∨ (12289 ≤ r ∧ r ≤ 55295) ∨ (63744 ≤ r ∧ r ≤ 64975) ∨ (65008 ≤ r ∧ r ≤ 65533) ∨ (65536 ≤ r ∧ r ≤ 983039)) ∨ (r = 183 ∨ (768 ≤ r ∧ r ≤ 879) ∨ (8255 ≤ r ∧ r ≤ 8256)))) : false = nameB r false := by rw [nameB_later, decide_eq_false h]

set_option maxHeartbeats 2000000 in
theorem isname_first (r : Int) (w : World) : Calls Try.prog 13 #[.int .i32 r, .bool true] w fun e w' => e = .returned (.bool (nameB r true)) ∧ w = w' := by
  go_enter Try.func13, Try.ntmps13
  go_wp2
  all_goals
    go_ret
    first | (refine ⟨ret_bool (nb1t ?_), rfl⟩; omega) | (refine ⟨ret_bool (nb1f ?_), rfl⟩; omega)

end Go.Proofs.Qxb6603688a
