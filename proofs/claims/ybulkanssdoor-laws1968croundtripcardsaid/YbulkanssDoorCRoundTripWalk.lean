import Derived.Test.YbulkanssDoorPoint
namespace Go.Proofs.YbulkanssDoor.Wk
open Go.RowKit Cal

theorem zero26' (w : World) : (binOp .eql 26 (.agg #[.int .i64 0, .int .i32 0, .int .u8 0]) (.agg #[.int .i64 0, .int .i32 0, .int .u8 0])).run Ybad.prog w = .ok (.bool true) w := by kernel_rfl

set_option maxHeartbeats 400000 in
theorem same26' (a b c : Int) (w : World) : (binOp .eql 26 (.agg #[.int .i64 a, .int .i32 b, .int .u8 c]) (.agg #[.int .i64 a, .int .i32 b, .int .u8 c])).run Ybad.prog w = .ok (.bool true) w := by
  go_simp

theorem Tab.later {w w' : World} (h : Tab w) (hb : Below w.heap.size w w') : Tab w' := by
  intro j hj
  have h0 : 0 < w.heap.size := World.block_lt_of_cell? w ⟨0, 0, none⟩ (h 0 (by omega))
  rw [hb.cell (by exact h0)]
  exact h j hj

set_option maxRecDepth 20000 in
set_option maxHeartbeats 2000000 in
theorem round_out (y mo d s ns pr n nn Yr Mo Dr sod N P t : Int) (w : World) (y0 : 0 ≤ y ∧ y ≤ 65535) (mo0 : 0 ≤ mo ∧ mo ≤ 255) (d0 : 0 ≤ d ∧ d ≤ 255) (s0 : 0 ≤ s ∧ s ≤ 4294967295) (ns0 : 0 ≤ ns ∧ ns ≤ 4294967295) (pr0 : 0 ≤ pr ∧ pr ≤ 255)
    (hY : y % 10000 = Yr) (hM : mo % 12 + 1 = Mo) (hD : d % 28 = Dr) (hs : s % 86400 = sod) (hN : ns % 1000000000 = N) (hP : pr % 3 = P)
    (hn : n.tmod 360000 = nn) (n1 : -360000 < nn) (n2 : nn < 360000) (ht : t = Yr * 12 + (Mo - 1) + nn) (hout : t < 0 ∨ 120000 ≤ t) :
    Calls Ybad.prog 4 #[.int .u16 y, .int .u8 mo, .int .u8 d, .int .u32 s, .int .u32 ns, .int .u8 pr, .int .i64 n] w fun e w' => e = .returned (.bool true) ∧ Below w.heap.size w w' := by
  have hk := dim_bd Yr Mo
  have hYr : 0 ≤ Yr ∧ Yr ≤ 9999 := by omega
  have hMo : 1 ≤ Mo ∧ Mo ≤ 12 := by omega
  have hsod : 0 ≤ sod ∧ sod < 86400 := by omega
  have hDr : 0 ≤ Dr ∧ Dr < 28 := by omega
  have hdate : Date Yr Mo (Dr + 1) := ⟨hYr.1, hYr.2, hMo.1, hMo.2, by omega, by omega⟩
  have hz26 := zero26'
  have HP := point_short y mo d s ns pr Yr Mo Dr sod N P w y0 mo0 d0 s0 ns0 pr0 hY hM hD hs hN hP
  obtain ⟨S, hS⟩ : ∃ S, S = dn Yr Mo (Dr + 1) * 86400 + sod := ⟨_, rfl⟩
  have HA : Hid (∀ w, Calls Ybad.prog 6 #[.agg #[.int .i64 S, .int .i32 N, .int .u8 P], .int .i64 nn] w fun e w' => e = .returned (.tuple #[.agg #[.int .i64 0, .int .i32 0, .int .u8 0], .bool false]) ∧ Below w.heap.size w w') :=
    fun w => add_out Yr Mo (Dr + 1) sod nn N P S t w hdate hsod.1 hsod.2 hS ht (by omega) n1 n2 hout
  rw [← hS] at HP
  have HPP : Hid (Calls Ybad.prog 5 #[.int .u16 y, .int .u8 mo, .int .u8 d, .int .u32 s, .int .u32 ns, .int .u8 pr, .bool true] w fun e w' =>
      e = .returned (.tuple #[.agg #[.int .i64 S, .int .i32 N, .int .u8 P], .int .i64 Yr, .int .i64 Mo, .int .i64 (Dr + 1), .int .i64 sod]) ∧ Below w.heap.size w w') := HP
  clear HP hS ht hdate hY hM hD hs hN hP hout
  go_enter Ybad.func4, Ybad.ntmps4
  go_wp2_with fail
  refine Calls.mono HPP.out ?_
  rintro e w1 ⟨rfl, hb1⟩
  go_wp2_with fail
  refine (HA.out _).mono ?_
  rintro e w2 ⟨rfl, hb2⟩
  have hbel : Hid (Below w.heap.size w w2) := (hb1.alloc hb1.size _).trans (hb2.mono (by have := hb1.size; simp; omega))
  clear hb1 hb2
  go_wp2
  go_ret
  exact ⟨rfl, hbel.out.alloc hbel.out.size _⟩

set_option maxRecDepth 20000 in
set_option maxHeartbeats 2000000 in
theorem round_in (y mo d s ns pr n nn Yr Mo Dr sod N P t Y2 M2 : Int) (w : World) (hT : Tab w) (y0 : 0 ≤ y ∧ y ≤ 65535) (mo0 : 0 ≤ mo ∧ mo ≤ 255) (d0 : 0 ≤ d ∧ d ≤ 255) (s0 : 0 ≤ s ∧ s ≤ 4294967295) (ns0 : 0 ≤ ns ∧ ns ≤ 4294967295) (pr0 : 0 ≤ pr ∧ pr ≤ 255)
    (hY : y % 10000 = Yr) (hM : mo % 12 + 1 = Mo) (hD : d % 28 = Dr) (hs : s % 86400 = sod) (hN : ns % 1000000000 = N) (hP : pr % 3 = P)
    (hn : n.tmod 360000 = nn) (n1 : -360000 < nn) (n2 : nn < 360000) (ht : t = Yr * 12 + (Mo - 1) + nn) (t0 : 0 ≤ t) (t1 : t < 120000) (hY2 : t / 12 = Y2) (hM2 : t % 12 + 1 = M2) :
    Calls Ybad.prog 4 #[.int .u16 y, .int .u8 mo, .int .u8 d, .int .u32 s, .int .u32 ns, .int .u8 pr, .int .i64 n] w fun e w' => e = .returned (.bool true) ∧ Below w.heap.size w w' := by
  have hk := dim_bd Yr Mo
  have hk2 := dim_bd Y2 M2
  have hYr : 0 ≤ Yr ∧ Yr ≤ 9999 := by omega
  have hMo : 1 ≤ Mo ∧ Mo ≤ 12 := by omega
  have bY2 : 0 ≤ Y2 ∧ Y2 ≤ 9999 := by omega
  have bM2 : 1 ≤ M2 ∧ M2 ≤ 12 := by omega
  have hsod : 0 ≤ sod ∧ sod < 86400 := by omega
  have hDr : 0 ≤ Dr ∧ Dr < 28 := by omega
  have hdate : Date Yr Mo (Dr + 1) := ⟨hYr.1, hYr.2, hMo.1, hMo.2, by omega, by omega⟩
  have hdate2 : Date Y2 M2 (Dr + 1) := ⟨bY2.1, bY2.2, bM2.1, bM2.2, by omega, by omega⟩
  have hc1 : clip (Dr + 1) (dim Yr Mo) = Dr + 1 := by unfold clip; rw [if_neg (by omega)]
  have hc2 : clip (Dr + 1) (dim Y2 M2) = Dr + 1 := by unfold clip; rw [if_neg (by omega)]
  have h26 := same26'
  have HP := point_short y mo d s ns pr Yr Mo Dr sod N P w y0 mo0 d0 s0 ns0 pr0 hY hM hD hs hN hP
  obtain ⟨S, hS⟩ : ∃ S, S = dn Yr Mo (Dr + 1) * 86400 + sod := ⟨_, rfl⟩
  obtain ⟨S2, hS2⟩ : ∃ S2, S2 = dn Y2 M2 (Dr + 1) * 86400 + sod := ⟨_, rfl⟩
  have HA : Hid (∀ w, Tab w → Calls Ybad.prog 6 #[.agg #[.int .i64 S, .int .i32 N, .int .u8 P], .int .i64 nn] w fun e w' => e = .returned (.tuple #[.agg #[.int .i64 S2, .int .i32 N, .int .u8 P], .bool true]) ∧ Below w.heap.size w w') := by
    intro w hT
    by_cases n0 : nn = 0
    · have e1 : Y2 = Yr := by omega
      have e2 : M2 = Mo := by omega
      have e4 : S2 = S := by rw [hS2, hS, e1, e2]
      rw [e4, n0]
      exact add_zero S N P w
    · have := add_in Yr Mo (Dr + 1) sod nn N P S t Y2 M2 w hT hdate hsod.1 hsod.2 hS ht n0 n1 n2 t0 t1 hY2 hM2
      rw [hc2, ← hS2] at this
      exact this
  have HB : Hid (∀ w, Tab w → Calls Ybad.prog 6 #[.agg #[.int .i64 S2, .int .i32 N, .int .u8 P], .int .i64 (-nn)] w fun e w' => e = .returned (.tuple #[.agg #[.int .i64 S, .int .i32 N, .int .u8 P], .bool true]) ∧ Below w.heap.size w w') := by
    intro w hT
    by_cases n0 : nn = 0
    · have e1 : Y2 = Yr := by omega
      have e2 : M2 = Mo := by omega
      have e4 : S2 = S := by rw [hS2, hS, e1, e2]
      rw [e4, n0]
      exact add_zero S N P w
    · have := add_in Y2 M2 (Dr + 1) sod (-nn) N P S2 (Yr * 12 + (Mo - 1)) Yr Mo w hT hdate2 hsod.1 hsod.2 hS2 (by omega) (by omega) (by omega) (by omega) (by omega) (by omega) (by omega) (by omega)
      rw [hc1, ← hS] at this
      exact this
  rw [← hS] at HP
  have HPP : Hid (Calls Ybad.prog 5 #[.int .u16 y, .int .u8 mo, .int .u8 d, .int .u32 s, .int .u32 ns, .int .u8 pr, .bool true] w fun e w' =>
      e = .returned (.tuple #[.agg #[.int .i64 S, .int .i32 N, .int .u8 P], .int .i64 Yr, .int .i64 Mo, .int .i64 (Dr + 1), .int .i64 sod]) ∧ Below w.heap.size w w') := HP
  have HT : Hid (Tab w) := hT
  clear HP hS ht hdate hdate2 hY hM hD hs hN hP hS2 hT hc1 hc2 hY2 hM2
  go_enter Ybad.func4, Ybad.ntmps4
  go_wp2_with fail
  refine Calls.mono HPP.out ?_
  rintro e w1 ⟨rfl, hb1⟩
  go_wp2_with fail
  have T1 := (HT.out.later hb1).later ((Below.refl _ _).alloc (Nat.le_refl _) (.cells #[.int .i64 S, .int .i32 N, .int .u8 P] 26))
  refine (HA.out _ T1).mono ?_
  rintro e w2 ⟨rfl, hb2⟩
  have hz1 : w1.heap.size < w2.heap.size := by have := hb2.size; simp at this; omega
  have p0 : w2.cell? ⟨w1.heap.size, 0, none⟩ = some (.int .i64 S) := by rw [hb2.cell (by simp), World.cell?_alloc_at _ _ _ _ rfl]; rfl
  have p1 : w2.cell? ⟨w1.heap.size, 1, none⟩ = some (.int .i32 N) := by rw [hb2.cell (by simp), World.cell?_alloc_at _ _ _ _ rfl]; rfl
  have p2 : w2.cell? ⟨w1.heap.size, 2, none⟩ = some (.int .u8 P) := by rw [hb2.cell (by simp), World.cell?_alloc_at _ _ _ _ rfl]; rfl
  have hbel : Hid (Below w.heap.size w w2) := (hb1.alloc hb1.size _).trans (hb2.mono (by have := hb1.size; simp; omega))
  have T2 : Hid (Tab w2) := T1.later hb2
  clear hb1 hb2 T1
  go_wp2_with fail
  refine (HB.out _ (T2.out.later ((Below.refl _ _).alloc (Nat.le_refl _) _))).mono ?_
  rintro e w3 ⟨rfl, hb3⟩
  have hz2 : w1.heap.size < w3.heap.size := by have := hb3.size; simp at this; omega
  have r0 : w3.cell? ⟨w1.heap.size, 0, none⟩ = some (.int .i64 S) := by rw [hb3.cell (by simp; omega), World.cell?_alloc_past _ _ _ hz1]; exact p0
  have r1 : w3.cell? ⟨w1.heap.size, 1, none⟩ = some (.int .i32 N) := by rw [hb3.cell (by simp; omega), World.cell?_alloc_past _ _ _ hz1]; exact p1
  have r2 : w3.cell? ⟨w1.heap.size, 2, none⟩ = some (.int .u8 P) := by rw [hb3.cell (by simp; omega), World.cell?_alloc_past _ _ _ hz1]; exact p2
  have hbel3 : Hid (Below w.heap.size w w3) := (hbel.out.alloc hbel.out.size _).trans (hb3.mono (by have := hbel.out.size; simp; omega))
  clear hb3 hbel p0 p1 p2
  go_wp2
  go_ret
  exact ⟨rfl, hbel3.out.alloc hbel3.out.size _⟩
end Go.Proofs.YbulkanssDoor.Wk
