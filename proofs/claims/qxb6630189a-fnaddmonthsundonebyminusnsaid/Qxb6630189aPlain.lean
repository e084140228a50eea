/- Seat b6630189a: the plain calendar: months counted from the start of the year 0. No Go in sight. -/
namespace Go.Proofs.Qxb6630189a.Cal

def leap (y : Int) : Bool := if y % 400 = 0 then true else if y % 100 = 0 then false else decide (y % 4 = 0)

def dim (y m : Int) : Int := if m = 2 then (if leap y = true then 29 else 28) else if m = 4 ∨ m = 6 ∨ m = 9 ∨ m = 11 then 30 else 31

theorem dim_bd (y m : Int) : 28 ≤ dim y m ∧ dim y m ≤ 31 := by
  unfold dim
  split
  · split <;> omega
  · split <;> omega

theorem dim_feb_yes (y : Int) (h : leap y = true) : dim y 2 = 29 := by simp [dim, h]
theorem dim_feb_no (y : Int) (h : leap y = false) : dim y 2 = 28 := by simp [dim, h]
theorem dim_30 (y m : Int) (h : m = 4 ∨ m = 6 ∨ m = 9 ∨ m = 11) : dim y m = 30 := by
  unfold dim; rw [if_neg (by omega), if_pos h]
theorem dim_31 (y m : Int) (h2 : m ≠ 2) (h : ¬ (m = 4 ∨ m = 6 ∨ m = 9 ∨ m = 11)) : dim y m = 31 := by
  unfold dim; rw [if_neg h2, if_neg h]

theorem leap_400 (y : Int) (h : y % 400 = 0) : leap y = true := by simp [leap, h]
theorem leap_100 (y : Int) (h4 : ¬ y % 400 = 0) (h : y % 100 = 0) : leap y = false := by simp [leap, h4, h]
theorem leap_4 (y : Int) (h4 : ¬ y % 400 = 0) (h : ¬ y % 100 = 0) : leap y = decide (y % 4 = 0) := by simp [leap, h4, h]

theorem tmod_zero (y k : Int) : (y.tmod k = 0) ↔ (y % k = 0) := by
  rw [← Int.dvd_iff_tmod_eq_zero, ← Int.dvd_iff_emod_eq_zero]

theorem tm (y k : Int) : (y.tmod k == 0) = decide (y % k = 0) := by
  rw [Bool.eq_iff_iff]; simp [tmod_zero]

end Go.Proofs.Qxb6630189a.Cal
