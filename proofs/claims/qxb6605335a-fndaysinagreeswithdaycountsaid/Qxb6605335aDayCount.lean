/-
  FnDaysInAgreesWithDayCount: the walk.
-/
import Derived.Test.Qxb6605335aDays
import Derived.OpenShut
namespace Go.Proofs.Qxb6605335a.fnDaysInAgreesWithDayCount
open Go.RowKit
set_option linter.unusedVariables false

set_option maxHeartbeats 1000000 in
theorem first_any (m : Int) (h0 : 0 ≤ m) (h1 : m ≤ 12) (w : World) :
    Calls Try.prog 27 #[.int .i64 m] w fun e w' => e = .returned (.int .i64 ((153 * m + 2) / 5)) ∧ w' = w := by
  go_enter Try.func27, Try.ntmps27
  go_wp2
  go_ret
  exact ⟨rfl, rfl⟩

set_option maxHeartbeats 1000000 in
theorem year_any (y : Int) (h0 : 0 ≤ y) (h1 : y ≤ 400) (w : World) :
    Calls Try.prog 28 #[.int .i64 y] w fun e w' => e = .returned (.int .i64 (365 * y + y / 4 - y / 100 + y / 400)) ∧ w' = w := by
  go_enter Try.func28, Try.ntmps28
  go_wp2
  go_ret
  exact ⟨rfl, rfl⟩

/-- months other than February -/
def mlen (m : Int) : Int := (153 * ((m + 9) % 12 + 1) + 2) / 5 - (153 * ((m + 9) % 12) + 2) / 5
theorem mlen_eq (m y : Int) (h1 : 1 ≤ m) (h2 : m ≤ 12) (h : m ≠ 2) : mlen m = Cal.dim m y := by
  have h : m = 1 ∨ m = 3 ∨ m = 4 ∨ m = 5 ∨ m = 6 ∨ m = 7 ∨ m = 8 ∨ m = 9 ∨ m = 10 ∨ m = 11 ∨ m = 12 := by omega
  rcases h with h | h | h | h | h | h | h | h | h | h | h <;> subst h <;> rfl

set_option maxHeartbeats 1000000 in
theorem month_other (m y : Int) (h1 : 1 ≤ m) (h2 : m ≤ 12) (hm : (m + 9) % 12 < 11) (w : World) :
    Calls Try.prog 15 #[.int .i64 m, .int .i64 y] w fun e w' => e = .returned (.int .i64 (mlen m)) ∧ w' = w := by
  go_enter Try.func15, Try.ntmps15
  go_wp2_with (go_at_call 27; refine (first_any _ (by omega) (by omega) _).mono ?_; rintro e w' ⟨rfl, rfl⟩)
  go_ret
  exact ⟨rfl, rfl⟩

def ys (y : Int) : Int := 365 * y + y / 4 - y / 100 + y / 400
theorem feb (y r q t : Int) (h : y = 400 * q + r) (h0 : 0 ≤ t) (h1 : t < 400) (h2 : t = r ∨ t = r + 400) :
    ys ((t + 399) % 400 + 1) - ys ((t + 399) % 400) - 337 = Cal.dim 2 y := by
  have e : Cal.dim 2 y = if y % 4 = 0 ∧ (y % 100 ≠ 0 ∨ y % 400 = 0) then 29 else 28 := by simp [Cal.dim, Cal.lpB]
  rw [e]
  unfold ys
  rcases (show t = 0 ∨ 0 < t by omega) with ht | ht
  · subst ht
    rw [if_pos (by omega)]; rfl
  · have e1 : (t + 399) % 400 = t - 1 := by omega
    rw [e1]
    have ey4 : y % 4 = t % 4 := by omega
    have ey100 : y % 100 = t % 100 := by omega
    have ey400 : y % 400 = t % 400 := by omega
    rw [ey4, ey100, ey400]
    split <;> omega

theorem ty (y : Int) : -400 < y.tmod 400 ∧ y.tmod 400 < 400 ∧ y = 400 * y.tdiv 400 + y.tmod 400 := by
  refine ⟨Int.lt_tmod_of_pos _ (by omega), Int.tmod_lt_of_pos _ (by omega), ?_⟩
  have := Int.mul_tdiv_add_tmod y 400
  omega

set_option maxHeartbeats 1000000 in
theorem month_feb (y : Int) (w : World) :
    Calls Try.prog 15 #[.int .i64 2, .int .i64 y] w fun e w' => e = .returned (.int .i64 (Cal.dim 2 y)) ∧ w' = w := by
  obtain ⟨h1, h2, h3⟩ := ty y
  have H3 : Hid _ := h3
  clear h3
  by_cases hn : y.tmod 400 < 0
  · go_enter Try.func15, Try.ntmps15
    go_wp2_with (first | (go_at_call 27; refine (first_any _ (by omega) (by omega) _).mono ?_; rintro e w' ⟨rfl, rfl⟩) | (go_at_call 28; refine (year_any _ (by omega) (by omega) _).mono ?_; rintro e w' ⟨rfl, rfl⟩))
    go_ret
    exact ⟨ret_int (feb y _ _ (y.tmod 400 + 400) H3.out (by omega) (by omega) (.inr rfl)), rfl⟩
  · go_enter Try.func15, Try.ntmps15
    go_wp2_with (first | (go_at_call 27; refine (first_any _ (by omega) (by omega) _).mono ?_; rintro e w' ⟨rfl, rfl⟩) | (go_at_call 28; refine (year_any _ (by omega) (by omega) _).mono ?_; rintro e w' ⟨rfl, rfl⟩))
    go_ret
    exact ⟨ret_int (feb y _ _ (y.tmod 400) H3.out (by omega) (by omega) (.inl rfl)), rfl⟩

theorem month_any (m y : Int) (h1 : 1 ≤ m) (h2 : m ≤ 12) (w : World) :
    Calls Try.prog 15 #[.int .i64 m, .int .i64 y] w fun e w' => e = .returned (.int .i64 (Cal.dim m y)) ∧ w' = w := by
  by_cases h : m = 2
  · subst h; exact month_feb y w
  · rw [← mlen_eq m y h1 h2 h]
    exact month_other m y h1 h2 (by omega) w

set_option maxHeartbeats 1000000 in
theorem walk (a0 : Int) (a1 : Int) (w0 : (Lit.int .i64 a0).wf = true) (w1 : (Lit.int .i64 a1).wf = true) (w : World) :
    Calls Try.prog 5 #[.int .i64 a0, .int .i64 a1] w fun e w' => e = .returned (.bool true) ∧ Grown w w' := by

  by_cases hlo : a0 < 1
  · go_enter Try.func5, Try.ntmps5
    go_wp2_with fail
    go_ret
    exact ⟨rfl, Grown.refl _⟩
  · by_cases hhi : 12 < a0
    · go_enter Try.func5, Try.ntmps5
      go_wp2_with fail
      go_ret
      exact ⟨rfl, Grown.refl _⟩
    · go_enter Try.func5, Try.ntmps5
      go_wp2_with (first | (go_at_call 14; refine (zzdaysIn_any _ _ _).mono ?_; rintro e w' ⟨rfl, rfl⟩) | (go_at_call 15; refine (month_any _ _ (by omega) (by omega) _).mono ?_; rintro e w' ⟨rfl, rfl⟩))
      go_ret
      exact ⟨by simp, Grown.refl _⟩
end Go.Proofs.Qxb6605335a.fnDaysInAgreesWithDayCount
