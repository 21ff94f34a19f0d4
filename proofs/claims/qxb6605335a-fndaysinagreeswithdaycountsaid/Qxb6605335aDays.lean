/-
  daysIn and ZZdaysIn compute 'Cal.dim'.
-/
import Derived.Test.Qxb6605335aRows
import Derived.Test.Qxb6605335aCal
import Derived.WalkKit
namespace Go.Proofs.Qxb6605335a
open Go.RowKit

theorem ret_int {k : IntKind} {a b : Int} (h : a = b) : Ending.returned (.int k a) = .returned (.int k b) := by rw [h]

set_option maxHeartbeats 1000000 in
theorem daysIn_any (m y : Int) (w : World) :
    Calls Try.prog 26 #[.int .i64 m, .int .i64 y] w fun e w' => e = .returned (.int .i64 (Cal.dim m y)) ∧ w' = w := by
  go_enter Try.func26, Try.ntmps26
  go_wp2
  all_goals
    go_ret
    refine ⟨ret_int ?_, rfl⟩
    unfold Cal.dim Cal.lpB
    simp only [ne_eq, ← Cal.tmod_zero]
    simp_all

theorem zzdaysIn_any (m y : Int) (w : World) :
    Calls Try.prog 14 #[.int .i64 m, .int .i64 y] w fun e w' => e = .returned (.int .i64 (Cal.dim m y)) ∧ w' = w := by
  go_enter Try.func14, Try.ntmps14
  go_wp2_with (go_at_call 26; refine (daysIn_any _ _ _).mono ?_; rintro e w' ⟨rfl, rfl⟩)
  go_ret
  exact ⟨rfl, rfl⟩
end Go.Proofs.Qxb6605335a
