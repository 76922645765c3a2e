import Derived.Test.YbulkanssDoorDates
namespace Go.Proofs.YbulkanssDoor.Wk
open Go.RowKit Cal

set_option maxHeartbeats 1000000 in
theorem civil_hi (n q D1 c D2 r x M : Int) (w : World) (h : CivSteps n q D1 c D2 r x M) (hn0 : 0 ≤ n) (hn1 : n ≤ 3652424) (hx : (153 * M + 2) / 5 ≤ x) (hM : 10 ≤ M) :
    Calls Ybad.prog 9 #[.int .i64 n] w fun e w' => e = .returned (.tuple #[.int .i64 (400 * q + 100 * c + r - 400 + 1), .int .i64 (M - 9), .int .i64 (x - (153 * M + 2) / 5 + 1)]) ∧ w' = w := by
  obtain ⟨e1, e2, e3, e4, e5, e6, e7, q0, b1, c0, b2, r0, x0, m0⟩ := h
  have e1' : (n + 146097 - 60) / 146097 = q := by omega
  have e2' : n + 146097 - 60 - q * 146097 = D1 := by omega
  clear e1 e2
  go_enter Ybad.func9, Ybad.ntmps9
  go_wp2_with (go_at_call 12; refine (march _ _ (by omega) (by omega)).mono ?_; rintro e w' ⟨rfl, rfl⟩)
  go_ret3
  exact ⟨rfl, rfl⟩

set_option maxHeartbeats 1000000 in
theorem civil_lo (n q D1 c D2 r x M : Int) (w : World) (h : CivSteps n q D1 c D2 r x M) (hn0 : 0 ≤ n) (hn1 : n ≤ 3652424) (hx : (153 * M + 2) / 5 ≤ x) (hM : M < 10) :
    Calls Ybad.prog 9 #[.int .i64 n] w fun e w' => e = .returned (.tuple #[.int .i64 (400 * q + 100 * c + r - 400), .int .i64 (M + 3), .int .i64 (x - (153 * M + 2) / 5 + 1)]) ∧ w' = w := by
  obtain ⟨e1, e2, e3, e4, e5, e6, e7, q0, b1, c0, b2, r0, x0, m0⟩ := h
  have e1' : (n + 146097 - 60) / 146097 = q := by omega
  have e2' : n + 146097 - 60 - q * 146097 = D1 := by omega
  clear e1 e2
  go_enter Ybad.func9, Ybad.ntmps9
  go_wp2_with (go_at_call 12; refine (march _ _ (by omega) (by omega)).mono ?_; rintro e w' ⟨rfl, rfl⟩)
  go_ret3
  exact ⟨rfl, rfl⟩

/-- 'civilDate' reads back the date whose day number it is given. -/
theorem civil_date (y m d : Int) (w : World) (h : Date y m d) : Calls Ybad.prog 9 #[.int .i64 (dn y m d)] w fun e w' => e = .returned (.tuple #[.int .i64 y, .int .i64 m, .int .i64 d]) ∧ w' = w := by
  obtain ⟨q, D1, c, D2, r, hs, hy⟩ := steps h
  have hb := dn_bd h
  have hd := day_back (m := m) (d := d)
  have hx : (153 * mm m + 2) / 5 ≤ doy m d := by have := h.d0; omega
  by_cases hm : m < 3
  · have e1 : my y m = y + 399 := by simp [my, hm]
    have e2 : mm m = m + 9 := by simp [mm, hm]
    have := civil_hi (dn y m d) q D1 c D2 r (doy m d) (mm m) w hs hb.1 hb.2 hx (by have := h.m0; omega)
    rw [hd, show 400 * q + 100 * c + r - 400 + 1 = y by omega, show mm m - 9 = m by omega] at this
    exact this
  · have e1 : my y m = y + 400 := by simp [my, hm]
    have e2 : mm m = m - 3 := by simp [mm, hm]
    have := civil_lo (dn y m d) q D1 c D2 r (doy m d) (mm m) w hs hb.1 hb.2 hx (by have := h.m1; omega)
    rw [hd, show 400 * q + 100 * c + r - 400 = y by omega, show mm m + 3 = m by omega] at this
    exact this

/-! ### addMonths -/
set_option maxHeartbeats 1000000 in
/-- No month: the point itself. -/
theorem add_zero (sec nsec prec : Int) (w : World) : Calls Ybad.prog 6 #[.agg #[.int .i64 sec, .int .i32 nsec, .int .u8 prec], .int .i64 0] w fun e w' =>
    e = .returned (.tuple #[.agg #[.int .i64 sec, .int .i32 nsec, .int .u8 prec], .bool true]) ∧ Below w.heap.size w w' := by
  go_enter Ybad.func6, Ybad.ntmps6
  go_wp2
  exact bodyPost_ret (v := .tuple #[.agg #[.int .i64 sec, .int .i32 nsec, .int .u8 prec], .bool true]) (by simp [results, Ybad.results6, go_sem]) rfl ⟨rfl, ((Below.refl _ _).alloc (Nat.le_refl _) _).alloc (by simp) _⟩

set_option maxRecDepth 20000 in
set_option maxHeartbeats 1000000 in
/-- Out of the range: the zero point and false. -/
theorem add_out (y m d sod n nsec prec S t : Int) (w : World) (h : Date y m d) (s0 : 0 ≤ sod) (s1 : sod < 86400) (hS : S = dn y m d * 86400 + sod) (ht : t = y * 12 + (m - 1) + n) (n0 : n ≠ 0) (n1 : -360000 < n) (n2 : n < 360000) (hout : t < 0 ∨ 120000 ≤ t) :
    Calls Ybad.prog 6 #[.agg #[.int .i64 S, .int .i32 nsec, .int .u8 prec], .int .i64 n] w fun e w' =>
      e = .returned (.tuple #[.agg #[.int .i64 0, .int .i32 0, .int .u8 0], .bool false]) ∧ Below w.heap.size w w' := by
  obtain ⟨N, hN⟩ : ∃ N, N = dn y m d := ⟨_, rfl⟩
  have HC : Hid (∀ w, Calls Ybad.prog 9 #[.int .i64 N] w fun e w' => e = .returned (.tuple #[.int .i64 y, .int .i64 m, .int .i64 d]) ∧ w' = w) := by rw [hN]; exact fun w => civil_date y m d w h
  have hb := dn_bd h
  rw [← hN] at hb hS
  have E1 : S / 86400 = N := by omega
  have E2 : S % 86400 = sod := by omega
  have S0 : 0 ≤ S ∧ S ≤ 315569520000 := by omega
  have E3 : y * 12 + (m - 1) + n = t := ht.symm
  have hz : (n == 0) = false := by simpa using n0
  obtain ⟨y0, y1, m0, m1, d0, d1⟩ := h
  clear hS hN ht n0
  rcases hout with ho | ho
  all_goals
    go_enter Ybad.func6, Ybad.ntmps6
    go_wp2_with fail
    go_quiet (fail)
    go_wp2_with (go_at_call 9; refine (HC.out _).mono ?_; rintro e w' ⟨rfl, rfl⟩)
    refine bodyPost_ret (v := .tuple #[.agg #[.int .i64 0, .int .i32 0, .int .u8 0], .bool false]) (by simp [results, Ybad.results6, go_sem]) rfl ⟨rfl, ?_⟩
    exact (((below_drewN (((Below.refl _ _).alloc (Nat.le_refl _) _).alloc (by simp) _) _).setCell (by simp) _).setCell (by simp) _).setCell (by simp) _

/-- The day, cut to the month's length. -/
def clip (d k : Int) : Int := if k < d then k else d

set_option maxRecDepth 20000 in
set_option maxHeartbeats 1000000 in
/-- In the range: the same day of the new month, or its last day. -/
theorem add_in (y m d sod n nsec prec S t Y2 M2 : Int) (w : World) (hT : Tab w) (h : Date y m d) (s0 : 0 ≤ sod) (s1 : sod < 86400) (hS : S = dn y m d * 86400 + sod) (ht : t = y * 12 + (m - 1) + n) (n0 : n ≠ 0) (n1 : -360000 < n) (n2 : n < 360000)
    (t0 : 0 ≤ t) (t1 : t < 120000) (hY : t / 12 = Y2) (hM : t % 12 + 1 = M2) :
    Calls Ybad.prog 6 #[.agg #[.int .i64 S, .int .i32 nsec, .int .u8 prec], .int .i64 n] w fun e w' =>
      e = .returned (.tuple #[.agg #[.int .i64 (dn Y2 M2 (clip d (dim Y2 M2)) * 86400 + sod), .int .i32 nsec, .int .u8 prec], .bool true]) ∧ Below w.heap.size w w' := by
  obtain ⟨N, hN⟩ : ∃ N, N = dn y m d := ⟨_, rfl⟩
  have HC : Hid (∀ w, Calls Ybad.prog 9 #[.int .i64 N] w fun e w' => e = .returned (.tuple #[.int .i64 y, .int .i64 m, .int .i64 d]) ∧ w' = w) := by rw [hN]; exact fun w => civil_date y m d w h
  have hb := dn_bd h
  rw [← hN] at hb hS
  have E1 : S / 86400 = N := by omega
  have E2 : S % 86400 = sod := by omega
  have S0 : 0 ≤ S ∧ S ≤ 315569520000 := by omega
  have E3 : y * 12 + (m - 1) + n = t := ht.symm
  have hz : (n == 0) = false := by simpa using n0
  have hk := dim_bd Y2 M2
  have hk' := dim_bd y m
  have hY2 : 0 ≤ Y2 ∧ Y2 ≤ 9999 := by omega
  have hM2 : 1 ≤ M2 ∧ M2 ≤ 12 := by omega
  obtain ⟨y0, y1, m0, m1, d0, d1⟩ := h
  have hd2 : Date Y2 M2 (clip d (dim Y2 M2)) := ⟨hY2.1, hY2.2, hM2.1, hM2.2, by unfold clip; split <;> omega, by unfold clip; split <;> omega⟩
  have hb2 := dn_bd hd2
  have HD : Hid (Date Y2 M2 (clip d (dim Y2 M2))) := hd2
  obtain ⟨k, hkk⟩ : ∃ k, k = dim Y2 M2 := ⟨_, rfl⟩
  have HK : Hid (k = dim Y2 M2) := hkk
  have HT : Hid (Tab w) := hT
  have H0 : Hid (0 < w.heap.size) := World.block_lt_of_cell? w ⟨0, 0, none⟩ (hT 0 (by omega))
  clear hS hN ht n0 hT hd2 hkk
  by_cases hd : d ≤ 28
  · have e28 : clip d (dim Y2 M2) = d := by unfold clip; rw [if_neg (by omega)]
    rw [e28] at hb2 HD ⊢
    clear e28
    go_enter Ybad.func6, Ybad.ntmps6
    go_wp2_with fail
    go_quiet (fail)
    go_wp2_with (first | (go_at_call 9; refine (HC.out _).mono ?_; rintro e w' ⟨rfl, rfl⟩) | (go_at_call 8; refine (day_number Y2 M2 d _ HD.out).mono ?_; rintro e w' ⟨rfl, rfl⟩))
    refine bodyPost_ret (v := .tuple #[.agg #[.int .i64 (dn Y2 M2 d * 86400 + sod), .int .i32 nsec, .int .u8 prec], .bool true]) (by simp [results, Ybad.results6, go_sem]) rfl ⟨rfl, ?_⟩
    exact ((((below_drewN (((Below.refl _ _).alloc (Nat.le_refl _) _).alloc (by simp) _) _).setCell (by simp) _).setCell (by simp) _).setCell (by simp) _).setCell (by simp) _
  · have HTW : Hid (∀ O1 O2 q, Tab (((w.alloc O1).alloc O2).drewN q)) := by
      intro O1 O2 q j hj
      have := H0.out
      rw [World.cell?_drewN, World.cell?_alloc_past _ _ _ (by simp), World.cell?_alloc_past _ _ _ this]
      exact HT.out j hj
    by_cases hcl : dim Y2 M2 < d
    · have ec : clip d (dim Y2 M2) = dim Y2 M2 := by unfold clip; rw [if_pos hcl]
      rw [ec] at hb2 HD ⊢
      clear ec
      go_enter Ybad.func6, Ybad.ntmps6
      go_wp2_with fail
      go_quiet (fail)
      go_wp2_with (first | (go_at_call 9; refine (HC.out _).mono ?_; rintro e w' ⟨rfl, rfl⟩) | (go_at_call 10; refine (dim10 Y2 M2 _ (HTW.out _ _ _) hY2.1 hY2.2 hM2.1 hM2.2).mono ?_; rintro e w' ⟨rfl, q2, rfl⟩) | (go_at_call 8; refine (day_number Y2 M2 (dim Y2 M2) _ HD.out).mono ?_; rintro e w' ⟨rfl, rfl⟩))
      refine bodyPost_ret (v := .tuple #[.agg #[.int .i64 (dn Y2 M2 (dim Y2 M2) * 86400 + sod), .int .i32 nsec, .int .u8 prec], .bool true]) (by simp [results, Ybad.results6, go_sem]) rfl ⟨rfl, ?_⟩
      exact ((((below_drewN (((Below.refl _ _).alloc (Nat.le_refl _) _).alloc (by simp) _) _).setCell (by simp) _).setCell (by simp) _).setCell (by simp) _).setCell (by simp) _
    · have ec : clip d (dim Y2 M2) = d := by unfold clip; rw [if_neg hcl]
      rw [ec] at hb2 HD ⊢
      clear ec
      go_enter Ybad.func6, Ybad.ntmps6
      go_wp2_with fail
      go_quiet (fail)
      go_wp2_with (first | (go_at_call 9; refine (HC.out _).mono ?_; rintro e w' ⟨rfl, rfl⟩) | (go_at_call 10; refine (dim10 Y2 M2 _ (HTW.out _ _ _) hY2.1 hY2.2 hM2.1 hM2.2).mono ?_; rintro e w' ⟨rfl, q2, rfl⟩) | (go_at_call 8; refine (day_number Y2 M2 (d) _ HD.out).mono ?_; rintro e w' ⟨rfl, rfl⟩))
      refine bodyPost_ret (v := .tuple #[.agg #[.int .i64 (dn Y2 M2 (d) * 86400 + sod), .int .i32 nsec, .int .u8 prec], .bool true]) (by simp [results, Ybad.results6, go_sem]) rfl ⟨rfl, ?_⟩
      exact ((((below_drewN (((Below.refl _ _).alloc (Nat.le_refl _) _).alloc (by simp) _) _).setCell (by simp) _).setCell (by simp) _).setCell (by simp) _).setCell (by simp) _
end Go.Proofs.YbulkanssDoor.Wk
