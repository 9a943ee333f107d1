import Derived.Test.Qxb6601352aRows
import Derived.WalkKit
import Derived.ProofKit
import Derived.OpenShut
namespace Go.Proofs.Qxb6601352a.Small
open Go.ChangeShapes Go.WideShapes Go.ChangeAt Go.RowKit

/-- JSON white space -/
def spB (c : Int) : Bool := c == 32 || c == 9 || c == 13 || c == 10
/-- a decimal digit -/
def dig (c : Int) : Bool := decide (48 ≤ c) && decide (c ≤ 57)
/-- a byte that can stand in a number -/
def nb (c : Int) : Bool := dig c || c == 45 || c == 43 || c == 46 || c == 101 || c == 69

theorem ret_bool {a b : Bool} (h : a = b) : Ending.returned (.bool a) = .returned (.bool b) := by rw [h]
theorem isSpace_any (c : Int) (w : World) : Calls Try.prog 29 #[.int .u8 c] w fun e w' => e = .returned (.bool (spB c)) ∧ w' = w := by
  go_enter Try.func29, Try.ntmps29
  go_wp2
  all_goals (go_ret; exact ⟨ret_bool (by rw [Bool.eq_iff_iff]; simp [spB]; try omega), rfl⟩)
theorem jsonSpace_any (c : Int) (w : World) : Calls Try.prog 20 #[.int .u8 c] w fun e w' => e = .returned (.bool (spB c)) ∧ w' = w := by
  go_enter Try.func20, Try.ntmps20
  go_wp2
  all_goals (go_ret; exact ⟨ret_bool (by simp_all [spB]), rfl⟩)
theorem numByte_any (c : Int) (w : World) : Calls Try.prog 17 #[.int .u8 c] w fun e w' => e = .returned (.bool (nb c)) ∧ w' = w := by
  go_enter Try.func17, Try.ntmps17
  go_wp2
  all_goals (go_ret; exact ⟨ret_bool (by rw [Bool.eq_iff_iff]; simp [nb, dig]; try omega), rfl⟩)
end Go.Proofs.Qxb6601352a.Small
