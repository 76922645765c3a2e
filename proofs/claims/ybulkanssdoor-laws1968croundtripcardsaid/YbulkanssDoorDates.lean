import Derived.Test.YbulkanssDoorRows
import Derived.Test.YbulkanssDoorCal
import Derived.WalkKit
import Derived.WalkSpells
import Derived.WalkLawsBesides
import Derived.Deep.QuietTactic
import Derived.BigQuiet
namespace Go.Proofs.YbulkanssDoor.Wk
open Go.RowKit Cal

theorem march (M : Int) (w : World) (h0 : 0 ≤ M) (h1 : M ≤ 11) : Calls Ybad.prog 12 #[.int .u32 M] w fun e w' => e = .returned (.int .u32 ((153 * M + 2) / 5)) ∧ w' = w := by
  go_enter Ybad.func12, Ybad.ntmps12
  go_wp2
  go_ret
  exact ⟨rfl, rfl⟩

theorem ret_bool {a b : Bool} (h : a = b) : Ending.returned (.bool a) = .returned (.bool b) := by rw [h]
theorem ret_int {k : IntKind} {a b : Int} (h : a = b) : Ending.returned (.int k a) = .returned (.int k b) := by rw [h]

/-- The three ways through the test for a leap year. -/
theorem leap_a {y : Int} (h1 : y % 4 = 0) (h2 : y % 100 = 0) : (y % 400 == 0) = leap y := by
  unfold leap
  by_cases h : y % 400 = 0 <;> simp [h1, h2, h]
theorem leap_b {y : Int} (h1 : y % 4 = 0) (h2 : ¬ y % 100 = 0) : true = leap y := by unfold leap; simp [h1, h2]
theorem leap_c {y : Int} (h1 : ¬ y % 4 = 0) : false = leap y := by unfold leap; simp [h1]

theorem leap11 (y : Int) (w : World) (h0 : 0 ≤ y) (h1 : y ≤ 9999) : Calls Ybad.prog 11 #[.int .i64 y] w fun e w' => e = .returned (.bool (leap y)) ∧ w' = w := by
  go_enter Ybad.func11, Ybad.ntmps11
  go_wp2
  · go_ret; exact ⟨ret_bool (leap_a ‹_› ‹_›), rfl⟩
  · go_ret; exact ⟨ret_bool (leap_b ‹_› ‹_›), rfl⟩
  · go_ret; exact ⟨ret_bool (leap_c ‹_›), rfl⟩

theorem leap13 (y : Int) (w : World) (h0 : 0 ≤ y) (h1 : y ≤ 9999) : Calls Ybad.prog 13 #[.int .i64 y] w fun e w' => e = .returned (.bool (leap y)) ∧ w' = w := by
  go_enter Ybad.func13, Ybad.ntmps13
  go_wp2
  · go_ret; exact ⟨ret_bool (leap_a ‹_› ‹_›), rfl⟩
  · go_ret; exact ⟨ret_bool (leap_b ‹_› ‹_›), rfl⟩
  · go_ret; exact ⟨ret_bool (leap_c ‹_›), rfl⟩

theorem day_number (y m d : Int) (w : World) (h : Date y m d) : Calls Ybad.prog 8 #[.int .i64 y, .int .i64 m, .int .i64 d] w fun e w' => e = .returned (.int .i64 (dn y m d)) ∧ w' = w := by
  have hd := dim_bd y m
  obtain ⟨y0, y1, m0, m1, d0, d1⟩ := h
  by_cases hm : m < 3
  · go_enter Ybad.func8, Ybad.ntmps8
    go_wp2_with (go_at_call 12; refine (march _ _ (by omega) (by omega)).mono ?_; rintro e w' ⟨rfl, rfl⟩)
    go_ret
    refine ⟨ret_int ?_, rfl⟩
    simp only [dn, my, mm, doy, if_pos hm, show y + 400 - 1 = y + 399 from by omega, show (m - 3 + 12) % 4294967296 = m + 9 from by omega]
    omega
  · go_enter Ybad.func8, Ybad.ntmps8
    go_wp2_with (go_at_call 12; refine (march _ _ (by omega) (by omega)).mono ?_; rintro e w' ⟨rfl, rfl⟩)
    go_ret
    exact ⟨ret_int (by simp only [dn, my, mm, doy, if_neg (show ¬ m < 3 by omega)]; omega), rfl⟩

set_option maxHeartbeats 2000000 in
/-- 'zzs1968cdim': the law's own table. -/
theorem dim7 (y m : Int) (w : World) (y0 : 0 ≤ y) (y1 : y ≤ 9999) (m0 : 1 ≤ m) (m1 : m ≤ 12) : Calls Ybad.prog 7 #[.int .i64 y, .int .i64 m] w fun e w' => e = .returned (.int .i64 (dim y m)) ∧ Below w.heap.size w w' := by
  by_cases h2 : m = 2
  · subst h2
    go_enter Ybad.func7, Ybad.ntmps7
    go_wp2_with (go_at_call 11; refine (leap11 y _ y0 y1).mono ?_; rintro e w' ⟨rfl, rfl⟩)
    · have hl : leap y = true := by assumption
      go_ret
      exact ⟨ret_int (by simp [dim, hl]), (Below.refl _ _).alloc (Nat.le_refl _) _⟩
    · have hl : leap y = false := by assumption
      go_ret
      exact ⟨ret_int (by simp [dim, hl]), (Below.refl _ _).alloc (Nat.le_refl _) _⟩
  · have hc : m = 1 ∨ m = 3 ∨ m = 4 ∨ m = 5 ∨ m = 6 ∨ m = 7 ∨ m = 8 ∨ m = 9 ∨ m = 10 ∨ m = 11 ∨ m = 12 := by omega
    rcases hc with rfl | rfl | rfl | rfl | rfl | rfl | rfl | rfl | rfl | rfl | rfl
    all_goals
      clear h2
      go_enter Ybad.func7, Ybad.ntmps7
      go_wp2
      go_ret
      exact ⟨ret_int (by simp [dim]), (Below.refl _ _).alloc (Nat.le_refl _) _⟩

/-- What the variable 'daysBeforeMonth' holds. -/
def tab : List Int := [0, 0, 31, 59, 90, 120, 151, 181, 212, 243, 273, 304, 334, 365]
def Tab (w : World) : Prop := ∀ j, j < 14 → w.cell? ⟨0, j, none⟩ = some (.int .i64 (tab.getD j 0))

set_option maxHeartbeats 4000000 in
/-- 'daysInMonth': the program's table. -/
theorem dim10 (y m : Int) (w : World) (hT : Tab w) (y0 : 0 ≤ y) (y1 : y ≤ 9999) (m0 : 1 ≤ m) (m1 : m ≤ 12) : Calls Ybad.prog 10 #[.int .i64 y, .int .i64 m] w fun e w' => e = .returned (.int .i64 (dim y m)) ∧ ∃ q, w' = w.drewN q := by
  have t1 : w.cell? ⟨0, 1, none⟩ = some (.int .i64 0) := hT 1 (by omega)
  have t2 : w.cell? ⟨0, 2, none⟩ = some (.int .i64 31) := hT 2 (by omega)
  have t3 : w.cell? ⟨0, 3, none⟩ = some (.int .i64 59) := hT 3 (by omega)
  have t4 : w.cell? ⟨0, 4, none⟩ = some (.int .i64 90) := hT 4 (by omega)
  have t5 : w.cell? ⟨0, 5, none⟩ = some (.int .i64 120) := hT 5 (by omega)
  have t6 : w.cell? ⟨0, 6, none⟩ = some (.int .i64 151) := hT 6 (by omega)
  have t7 : w.cell? ⟨0, 7, none⟩ = some (.int .i64 181) := hT 7 (by omega)
  have t8 : w.cell? ⟨0, 8, none⟩ = some (.int .i64 212) := hT 8 (by omega)
  have t9 : w.cell? ⟨0, 9, none⟩ = some (.int .i64 243) := hT 9 (by omega)
  have t10 : w.cell? ⟨0, 10, none⟩ = some (.int .i64 273) := hT 10 (by omega)
  have t11 : w.cell? ⟨0, 11, none⟩ = some (.int .i64 304) := hT 11 (by omega)
  have t12 : w.cell? ⟨0, 12, none⟩ = some (.int .i64 334) := hT 12 (by omega)
  have t13 : w.cell? ⟨0, 13, none⟩ = some (.int .i64 365) := hT 13 (by omega)
  clear hT
  by_cases h2 : m = 2
  · subst h2
    go_enter Ybad.func10, Ybad.ntmps10
    go_wp2_with (go_at_call 13; refine (leap13 y _ y0 y1).mono ?_; rintro e w' ⟨rfl, rfl⟩)
    · have hl : leap y = true := by assumption
      go_ret
      exact ⟨ret_int (by simp [dim, hl]), 0, rfl⟩
    · have hl : leap y = false := by assumption
      go_quiet (fail)
      go_wp2
      go_ret
      exact ⟨ret_int (by simp [dim, hl]), _, rfl⟩
  · have hc : m = 1 ∨ m = 3 ∨ m = 4 ∨ m = 5 ∨ m = 6 ∨ m = 7 ∨ m = 8 ∨ m = 9 ∨ m = 10 ∨ m = 11 ∨ m = 12 := by omega
    rcases hc with rfl | rfl | rfl | rfl | rfl | rfl | rfl | rfl | rfl | rfl | rfl
    all_goals
      clear h2
      go_enter Ybad.func10, Ybad.ntmps10
      go_wp2
      go_quiet (fail)
      go_wp2
      go_ret
      exact ⟨ret_int (by simp [dim]), _, rfl⟩
end Go.Proofs.YbulkanssDoor.Wk
