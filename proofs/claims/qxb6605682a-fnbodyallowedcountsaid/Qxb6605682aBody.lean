/- The contract of 'bodyAllowed' and of its thin door 'ZZbodyAllowed': plain arithmetic on the status. -/
import Derived.Test.Qxb6605682aRows
import Derived.WalkKit
import Derived.ProofKit
namespace Go.Proofs.Qxb6605682a
open Go.ChangeShapes Go.WideShapes Go.ChangeAt Go.RowKit

/-- May an answer of this status have a body? -/
def allowB (a : Int) : Bool := decide (200 ≤ a) && (a != 204 && a != 304)

theorem allowB_true {a : Int} (h : 200 ≤ a) (h1 : a ≠ 204) (h2 : a ≠ 304) : allowB a = true := by
  simp [allowB, h, h1, h2]
theorem allowB_low {a : Int} (h : a < 200) : allowB a = false := by
  have : ¬ 200 ≤ a := by omega
  simp [allowB, this]
theorem allowB_204 : allowB 204 = false := by decide
theorem allowB_304 : allowB 304 = false := by decide

theorem ret_bool {a b : Bool} (h : a = b) : Ending.returned (.bool a) = .returned (.bool b) := by rw [h]

theorem body_any (a : Int) (w : World) : Calls Try.prog 13 #[.int .i64 a] w fun e w' => e = .returned (.bool (allowB a)) ∧ w' = w := by
  by_cases h : 200 ≤ a
  · go_enter Try.func13, Try.ntmps13
    go_wp2
    all_goals
      go_ret
      exact ⟨ret_bool (by unfold allowB; simp; omega), rfl⟩
  · have h' : a < 200 := by omega
    go_enter Try.func13, Try.ntmps13
    go_wp2
    all_goals
      go_ret
      exact ⟨ret_bool (by unfold allowB; simp; omega), rfl⟩

theorem zzbody_any (a : Int) (w : World) : Calls Try.prog 11 #[.int .i64 a] w fun e w' => e = .returned (.bool (allowB a)) ∧ w' = w := by
  go_enter Try.func11, Try.ntmps11
  go_wp2_with (go_at_call 13; refine (body_any _ _).mono ?_; rintro e w' ⟨rfl, rfl⟩)
  go_ret
  exact ⟨rfl, rfl⟩
end Go.Proofs.Qxb6605682a
