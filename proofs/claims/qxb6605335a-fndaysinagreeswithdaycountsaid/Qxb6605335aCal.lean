/-
  The calendar: the plain functions that daysIn computes, and their sums. No Go in sight.
-/
namespace Go.Proofs.Qxb6605335a.Cal

/-- a leap year, by floor remainders -/
def lpB (y : Int) : Bool := decide (y % 4 = 0 ∧ (y % 100 ≠ 0 ∨ y % 400 = 0))
/-- the days of month m of year y -/
def dim (m y : Int) : Int := if m = 2 then (if lpB y = true then 29 else 28) else if m = 4 ∨ m = 6 ∨ m = 9 ∨ m = 11 then 30 else 31
/-- 1 in a leap year -/
def lp (y : Int) : Int := if lpB y = true then 1 else 0
/-- the days of the months before month m (1 <= m <= 13) -/
def cum (m y : Int) : Int :=
  if m ≤ 1 then 0 else if m ≤ 2 then 31 else lp y + (if m ≤ 3 then 59 else if m ≤ 4 then 90 else if m ≤ 5 then 120 else if m ≤ 6 then 151 else if m ≤ 7 then 181 else if m ≤ 8 then 212 else if m ≤ 9 then 243 else if m ≤ 10 then 273 else if m ≤ 11 then 304 else if m ≤ 12 then 334 else 365)
/-- the leap years before y, up to a constant -/
def cnt (y : Int) : Int := (y + 3) / 4 - (y + 99) / 100 + (y + 399) / 400

theorem lp_01 (y : Int) : 0 ≤ lp y ∧ lp y ≤ 1 := by unfold lp; split <;> omega
theorem dim_bd (m y : Int) : 28 ≤ dim m y ∧ dim m y ≤ 31 := by
  unfold dim
  repeat' split
  all_goals omega
theorem cum_bd (m y : Int) (h1 : 1 ≤ m) (h2 : m ≤ 13) : 0 ≤ cum m y ∧ cum m y ≤ 366 := by
  have := lp_01 y
  have h : m = 1 ∨ m = 2 ∨ m = 3 ∨ m = 4 ∨ m = 5 ∨ m = 6 ∨ m = 7 ∨ m = 8 ∨ m = 9 ∨ m = 10 ∨ m = 11 ∨ m = 12 ∨ m = 13 := by omega
  rcases h with h | h | h | h | h | h | h | h | h | h | h | h | h <;> subst h <;> simp [cum] <;> omega
theorem cum_one (y : Int) : cum 1 y = 0 := rfl
theorem cum_end (y : Int) : cum 13 y = 365 + lp y := by simp [cum]; omega
theorem cum_succ (m y : Int) (h1 : 1 ≤ m) (h2 : m ≤ 12) : cum (m + 1) y = cum m y + dim m y := by
  have h : m = 1 ∨ m = 2 ∨ m = 3 ∨ m = 4 ∨ m = 5 ∨ m = 6 ∨ m = 7 ∨ m = 8 ∨ m = 9 ∨ m = 10 ∨ m = 11 ∨ m = 12 := by omega
  rcases h with h | h | h | h | h | h | h | h | h | h | h | h <;> subst h <;> simp [cum, dim] <;> first | omega | (unfold lp; split <;> omega)
theorem cnt_succ (y : Int) : cnt (y + 1) = cnt y + lp y := by
  unfold cnt lp lpB
  split
  · rename_i h; simp at h; omega
  · rename_i h; simp at h; omega
theorem cnt_400 (y : Int) : cnt (y + 400) = cnt y + 97 := by unfold cnt; omega
theorem dim_feb (y : Int) : (dim 2 y == 29) = (365 + lp y == 366) := by
  unfold dim lp; cases lpB y <;> rfl
theorem tmod_zero (y : Int) (n : Int) : y.tmod n = 0 ↔ y % n = 0 :=
  ⟨fun h => Int.emod_eq_zero_of_dvd (Int.dvd_of_tmod_eq_zero h), fun h => Int.tmod_eq_zero_of_dvd (Int.dvd_of_emod_eq_zero h)⟩
end Go.Proofs.Qxb6605335a.Cal
