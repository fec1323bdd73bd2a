/-
  THE WALK OF 'ZZisLetter' (and isLetter below it): it hands back 'letB'.
-/
import Derived.Test.Qxb6615090aProg
import Derived.Test.Qxb6615090aFold
import Derived.WalkKit
namespace Go.Proofs.Qxb6615090a
open Go.RowKit

theorem ret_bool {a b : Bool} (h : a = b) : Ending.returned (.bool a) = .returned (.bool b) := by rw [h]

theorem letter_yes (r : Int) (w : World) (h : (97 ≤ r ∧ r ≤ 122) ∨ (65 ≤ r ∧ r ≤ 90) ∨ (95 ≤ r ∧ r ≤ 95)) :
    Calls Try.prog 4 #[.int .i32 r] w fun e w' => e = .returned (.bool true) ∧ w' = w := by
  rcases h with ⟨a, b⟩ | ⟨a, b⟩ | ⟨a, b⟩
  all_goals
    go_enter Try.func4, Try.ntmps4
    go_wp2
    go_ret
    first
      | exact ⟨rfl, rfl⟩
      | (refine ⟨ret_bool ?_, rfl⟩; simp only [Bool.or_eq_true, decide_eq_true_eq, beq_iff_eq]; omega)
theorem letter_no (r : Int) (w : World) (h : r < 65 ∨ (90 < r ∧ r < 95) ∨ (95 < r ∧ r < 97) ∨ 122 < r) :
    Calls Try.prog 4 #[.int .i32 r] w fun e w' => e = .returned (.bool false) ∧ w' = w := by
  rcases h with a | ⟨a, b⟩ | ⟨a, b⟩ | a
  all_goals
    go_enter Try.func4, Try.ntmps4
    go_wp2
    go_ret
    first
      | exact ⟨rfl, rfl⟩
      | (refine ⟨ret_bool ?_, rfl⟩; simp only [Bool.or_eq_false_iff, decide_eq_false_iff_not, beq_eq_false_iff_ne]; omega)

theorem letter_any (r : Int) (w : World) : Calls Try.prog 4 #[.int .i32 r] w fun e w' => e = .returned (.bool (letB r)) ∧ w' = w := by
  by_cases h : (97 ≤ r ∧ r ≤ 122) ∨ (65 ≤ r ∧ r ≤ 90) ∨ r = 95
  · rw [letB_yes h]; exact letter_yes r w (by omega)
  · rw [letB_no h]; exact letter_no r w (by omega)
end Go.Proofs.Qxb6615090a
