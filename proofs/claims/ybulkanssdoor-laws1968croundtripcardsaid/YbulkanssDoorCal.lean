/- THE PLAIN CALENDAR: no Go in sight. The proleptic Gregorian calendar over the years 0 to 9999; days are counted from 0000-01-01, day 0. -/
namespace Go.Proofs.YbulkanssDoor.Cal

/-- A leap year, as a Bool that the walks do not open. -/
def leap (y : Int) : Bool := decide (y % 4 = 0 ∧ (y % 100 ≠ 0 ∨ y % 400 = 0))
/-- How many days a month has. -/
def dim (y m : Int) : Int := if m = 2 then (if leap y then 29 else 28) else if m = 4 ∨ m = 6 ∨ m = 9 ∨ m = 11 then 30 else 31
/-- The year that begins on 1 March, counted from 400 years before year 0. -/
def my (y m : Int) : Int := if m < 3 then y + 399 else y + 400
/-- The month of that year, 0 for March. -/
def mm (m : Int) : Int := if m < 3 then m + 9 else m - 3
/-- The day of that year, from 0. -/
def doy (m d : Int) : Int := (153 * mm m + 2) / 5 + d - 1
/-- The day number of a date. -/
def dn (y m d : Int) : Int := 365 * my y m + my y m / 4 - my y m / 100 + my y m / 400 + doy m d - 146037

theorem dim_bd (y m : Int) : 28 ≤ dim y m ∧ dim y m ≤ 31 := by
  unfold dim
  by_cases h : m = 2
  · rw [if_pos h]; split <;> omega
  · rw [if_neg h]; split <;> omega

/-- A date that exists, in the range. -/
structure Date (y m d : Int) : Prop where
  y0 : 0 ≤ y
  y1 : y ≤ 9999
  m0 : 1 ≤ m
  m1 : m ≤ 12
  d0 : 1 ≤ d
  d1 : d ≤ dim y m

theorem leap_iff (y : Int) : leap y = true ↔ y % 4 = 0 ∧ (y % 100 ≠ 0 ∨ y % 400 = 0) := by simp [leap]

/-- The day of the year from 1 March lies in its month, and the 366th is there only where the year after is a leap year. -/
theorem doy_bd {y m d : Int} (h : Date y m d) : 0 ≤ doy m d ∧ doy m d ≤ 365 ∧ (5 * doy m d + 2) / 153 = mm m ∧ (doy m d = 365 → (my y m + 1) % 4 = 0 ∧ ((my y m + 1) % 100 ≠ 0 ∨ (my y m + 1) % 400 = 0)) := by
  obtain ⟨y0, y1, m0, m1, d0, d1⟩ := h
  have hl := leap_iff y
  have hc : m = 1 ∨ m = 2 ∨ m = 3 ∨ m = 4 ∨ m = 5 ∨ m = 6 ∨ m = 7 ∨ m = 8 ∨ m = 9 ∨ m = 10 ∨ m = 11 ∨ m = 12 := by omega
  rcases hc with rfl | rfl | rfl | rfl | rfl | rfl | rfl | rfl | rfl | rfl | rfl | rfl
  all_goals simp [dim] at d1
  all_goals simp only [doy, mm, my]
  all_goals try (simp; omega)
  · cases hb : leap y with
    | true =>
      rw [hb] at d1 hl
      have := hl.1 rfl
      simp at d1 ⊢
      omega
    | false =>
      rw [hb] at d1
      simp at d1 ⊢
      omega

/-- The day number in parts: cycles of 400 years, centuries, years. -/
theorem dn_parts {y m d : Int} (_h : Date y m d) : dn y m d + 146037 = 146097 * (my y m / 400) + 36524 * (my y m % 400 / 100) + 365 * (my y m % 100) + my y m % 100 / 4 + doy m d := by
  unfold dn
  omega

theorem my_bd {y m d : Int} (h : Date y m d) : 399 ≤ my y m ∧ my y m ≤ 10399 := by
  obtain ⟨y0, y1, m0, m1, d0, d1⟩ := h
  unfold my
  split <;> omega

theorem mm_bd {y m d : Int} (h : Date y m d) : 0 ≤ mm m ∧ mm m ≤ 11 := by
  obtain ⟨y0, y1, m0, m1, d0, d1⟩ := h
  unfold mm
  split <;> omega

theorem dn_bd {y m d : Int} (h : Date y m d) : 0 ≤ dn y m d ∧ dn y m d ≤ 3652424 := by
  have h1 := doy_bd h
  have hp := dn_parts h
  obtain ⟨y0, y1, m0, m1, d0, d1⟩ := h
  have hd := dim_bd y m
  by_cases hm : m < 3
  · have e1 : my y m = y + 399 := by simp [my, hm]
    have e2 : mm m = m + 9 := by simp [mm, hm]
    have e3 : doy m d = (153 * (m + 9) + 2) / 5 + d - 1 := by simp only [doy, e2]
    rw [e1] at hp
    omega
  · have e1 : my y m = y + 400 := by simp [my, hm]
    have e2 : mm m = m - 3 := by simp [mm, hm]
    have e3 : doy m d = (153 * (m - 3) + 2) / 5 + d - 1 := by simp only [doy, e2]
    rw [e1] at hp
    omega

/-- THE STEPS OF civilDate AT THE DAY NUMBER OF A DATE: cycle, century, year of the century, day of the year, month. -/
structure CivSteps (n q D1 c D2 r x M : Int) : Prop where
  e1 : (n + 146037) / 146097 = q
  e2 : n + 146037 - q * 146097 = D1
  e3 : (4 * D1 + 3) / 146097 = c
  e4 : D1 - c * 36524 = D2
  e5 : (4 * D2 + 3) / 1461 = r
  e6 : D2 - (365 * r + r / 4) = x
  e7 : (5 * x + 2) / 153 = M
  q0 : 0 ≤ q ∧ q ≤ 26
  d1 : 0 ≤ D1 ∧ D1 ≤ 146096
  c0 : 0 ≤ c ∧ c ≤ 3
  d2 : 0 ≤ D2 ∧ D2 ≤ 36524
  r0 : 0 ≤ r ∧ r ≤ 99
  x0 : 0 ≤ x ∧ x ≤ 365
  m0 : 0 ≤ M ∧ M ≤ 11

theorem steps {y m d : Int} (h : Date y m d) : ∃ q D1 c D2 r, CivSteps (dn y m d) q D1 c D2 r (doy m d) (mm m) ∧ 400 * q + 100 * c + r = my y m := by
  have h1 := doy_bd h
  have hp := dn_parts h
  have hy := my_bd h
  have hm := mm_bd h
  obtain ⟨x0, x1, x2, x3⟩ := h1
  refine ⟨my y m / 400, 36524 * (my y m % 400 / 100) + 365 * (my y m % 100) + my y m % 100 / 4 + doy m d, my y m % 400 / 100, 365 * (my y m % 100) + my y m % 100 / 4 + doy m d, my y m % 100, ⟨?_, ?_, ?_, ?_, ?_, ?_, x2, ?_, ?_, ?_, ?_, ?_, ⟨x0, x1⟩, hm⟩, ?_⟩
  all_goals clear x2 hm h
  all_goals generalize my y m = Y at *
  all_goals generalize doy m d = x at *
  all_goals generalize dn y m d = n at *
  all_goals
    have x4 : x = 365 → Y % 100 % 4 = 3 ∧ (Y % 100 = 99 → Y % 400 / 100 = 3) := by
      intro hx
      have := x3 hx
      omega
    clear x3
    have hY : Y = 400 * (Y / 400) + 100 * (Y % 400 / 100) + Y % 100 := by omega
    have b1 : 0 ≤ Y % 400 / 100 ∧ Y % 400 / 100 ≤ 3 := by omega
    have b2 : 0 ≤ Y % 100 ∧ Y % 100 ≤ 99 := by omega
    have b3 : 0 ≤ Y / 400 ∧ Y / 400 ≤ 26 := by omega
    generalize Y / 400 = q at *
    generalize Y % 400 / 100 = c at *
    generalize Y % 100 = r at *
    omega

theorem year_back {y m : Int} : my y m - 400 = if m < 3 then y - 1 else y := by
  unfold my
  split <;> omega

theorem day_back {m d : Int} : doy m d - (153 * mm m + 2) / 5 + 1 = d := by
  unfold doy
  omega
end Go.Proofs.YbulkanssDoor.Cal
