import Derived.Test.YbulkanssDoorMonths
namespace Go.Proofs.YbulkanssDoor.Wk
open Go.RowKit Cal

set_option maxRecDepth 20000 in
set_option maxHeartbeats 1000000 in
theorem point_long (y mo d s ns pr Yr Mo Dr sod N P : Int) (w : World) (y0 : 0 ≤ y ∧ y ≤ 65535) (mo0 : 0 ≤ mo ∧ mo ≤ 255) (d0 : 0 ≤ d ∧ d ≤ 255) (s0 : 0 ≤ s ∧ s ≤ 4294967295) (ns0 : 0 ≤ ns ∧ ns ≤ 4294967295) (pr0 : 0 ≤ pr ∧ pr ≤ 255)
    (hY : y % 10000 = Yr) (hM : mo % 12 + 1 = Mo) (hD : d % dim Yr Mo = Dr) (hs : s % 86400 = sod) (hN : ns % 1000000000 = N) (hP : pr % 3 = P) :
    Calls Ybad.prog 5 #[.int .u16 y, .int .u8 mo, .int .u8 d, .int .u32 s, .int .u32 ns, .int .u8 pr, .bool false] w fun e w' =>
      e = .returned (.tuple #[.agg #[.int .i64 (dn Yr Mo (Dr + 1) * 86400 + sod), .int .i32 N, .int .u8 P], .int .i64 Yr, .int .i64 Mo, .int .i64 (Dr + 1), .int .i64 sod]) ∧ Below w.heap.size w w' := by
  have hk := dim_bd Yr Mo
  have hYr : 0 ≤ Yr ∧ Yr ≤ 9999 := by omega
  have hMo : 1 ≤ Mo ∧ Mo ≤ 12 := by omega
  have hsod : 0 ≤ sod ∧ sod < 86400 := by omega
  have hN0 : 0 ≤ N ∧ N < 1000000000 := by omega
  have hP0 : 0 ≤ P ∧ P < 3 := by omega
  have hDr : 0 ≤ Dr ∧ Dr < dim Yr Mo := by rw [← hD]; exact ⟨Int.emod_nonneg _ (by omega), Int.emod_lt_of_pos _ (by omega)⟩
  have hdate : Date Yr Mo (Dr + 1) := ⟨hYr.1, hYr.2, hMo.1, hMo.2, by omega, by omega⟩
  have hb2 := dn_bd hdate
  have HD : Hid (Date Yr Mo (Dr + 1)) := hdate
  clear hdate
  go_enter Ybad.func5, Ybad.ntmps5
  go_wp2_with fail
  refine (dim7 Yr Mo _ hYr.1 hYr.2 hMo.1 hMo.2).mono ?_
  rintro e w1 ⟨rfl, hb⟩
  have hz : w.heap.size < w1.heap.size := by have := hb.size; simp at this; omega
  have p0 : w1.cell? ⟨w.heap.size, 0, none⟩ = some (.int .i64 0) := by rw [hb.cell (by simp), World.cell?_alloc_at _ _ _ _ rfl]; rfl
  have p1 : w1.cell? ⟨w.heap.size, 1, none⟩ = some (.int .i32 0) := by rw [hb.cell (by simp), World.cell?_alloc_at _ _ _ _ rfl]; rfl
  have p2 : w1.cell? ⟨w.heap.size, 2, none⟩ = some (.int .u8 0) := by rw [hb.cell (by simp), World.cell?_alloc_at _ _ _ _ rfl]; rfl
  have q0 : w1.frozen? ⟨w.heap.size, 0, none⟩ = false := by rw [hb.frozen (by simp), World.frozen?_alloc_at _ _ _ _ rfl]
  have q1 : w1.frozen? ⟨w.heap.size, 1, none⟩ = false := by rw [hb.frozen (by simp), World.frozen?_alloc_at _ _ _ _ rfl]
  have q2 : w1.frozen? ⟨w.heap.size, 2, none⟩ = false := by rw [hb.frozen (by simp), World.frozen?_alloc_at _ _ _ _ rfl]
  have hbel : Hid (Below w.heap.size w w1) := ((Below.refl _ _).alloc (Nat.le_refl _) _).trans (hb.mono (by simp))
  clear hb
  go_wp2_with (go_at_call 8; refine (day_number Yr Mo (Dr + 1) _ HD.out).mono ?_; rintro e w' ⟨rfl, rfl⟩)
  refine bodyPost_ret (v := .tuple #[.agg #[.int .i64 (dn Yr Mo (Dr + 1) * 86400 + sod), .int .i32 N, .int .u8 P], .int .i64 Yr, .int .i64 Mo, .int .i64 (Dr + 1), .int .i64 sod]) (by simp [results, Ybad.results5, go_sem, p0, p1, p2, hz]) rfl ⟨rfl, ?_⟩
  exact (((hbel.out.setCell (by simp) _).setCell (by simp) _).setCell (by simp) _).alloc (by simp; omega) _

set_option maxRecDepth 20000 in
set_option maxHeartbeats 1000000 in
theorem point_short (y mo d s ns pr Yr Mo Dr sod N P : Int) (w : World) (y0 : 0 ≤ y ∧ y ≤ 65535) (mo0 : 0 ≤ mo ∧ mo ≤ 255) (d0 : 0 ≤ d ∧ d ≤ 255) (s0 : 0 ≤ s ∧ s ≤ 4294967295) (ns0 : 0 ≤ ns ∧ ns ≤ 4294967295) (pr0 : 0 ≤ pr ∧ pr ≤ 255)
    (hY : y % 10000 = Yr) (hM : mo % 12 + 1 = Mo) (hD : d % 28 = Dr) (hs : s % 86400 = sod) (hN : ns % 1000000000 = N) (hP : pr % 3 = P) :
    Calls Ybad.prog 5 #[.int .u16 y, .int .u8 mo, .int .u8 d, .int .u32 s, .int .u32 ns, .int .u8 pr, .bool true] w fun e w' =>
      e = .returned (.tuple #[.agg #[.int .i64 (dn Yr Mo (Dr + 1) * 86400 + sod), .int .i32 N, .int .u8 P], .int .i64 Yr, .int .i64 Mo, .int .i64 (Dr + 1), .int .i64 sod]) ∧ Below w.heap.size w w' := by
  have hk := dim_bd Yr Mo
  have hYr : 0 ≤ Yr ∧ Yr ≤ 9999 := by omega
  have hMo : 1 ≤ Mo ∧ Mo ≤ 12 := by omega
  have hsod : 0 ≤ sod ∧ sod < 86400 := by omega
  have hN0 : 0 ≤ N ∧ N < 1000000000 := by omega
  have hP0 : 0 ≤ P ∧ P < 3 := by omega
  have hDr : 0 ≤ Dr ∧ Dr < 28 := by omega
  have hdate : Date Yr Mo (Dr + 1) := ⟨hYr.1, hYr.2, hMo.1, hMo.2, by omega, by omega⟩
  have hb2 := dn_bd hdate
  have HD : Hid (Date Yr Mo (Dr + 1)) := hdate
  clear hdate
  go_enter Ybad.func5, Ybad.ntmps5
  go_wp2_with fail
  refine (dim7 Yr Mo _ hYr.1 hYr.2 hMo.1 hMo.2).mono ?_
  rintro e w1 ⟨rfl, hb⟩
  have hz : w.heap.size < w1.heap.size := by have := hb.size; simp at this; omega
  have p0 : w1.cell? ⟨w.heap.size, 0, none⟩ = some (.int .i64 0) := by rw [hb.cell (by simp), World.cell?_alloc_at _ _ _ _ rfl]; rfl
  have p1 : w1.cell? ⟨w.heap.size, 1, none⟩ = some (.int .i32 0) := by rw [hb.cell (by simp), World.cell?_alloc_at _ _ _ _ rfl]; rfl
  have p2 : w1.cell? ⟨w.heap.size, 2, none⟩ = some (.int .u8 0) := by rw [hb.cell (by simp), World.cell?_alloc_at _ _ _ _ rfl]; rfl
  have q0 : w1.frozen? ⟨w.heap.size, 0, none⟩ = false := by rw [hb.frozen (by simp), World.frozen?_alloc_at _ _ _ _ rfl]
  have q1 : w1.frozen? ⟨w.heap.size, 1, none⟩ = false := by rw [hb.frozen (by simp), World.frozen?_alloc_at _ _ _ _ rfl]
  have q2 : w1.frozen? ⟨w.heap.size, 2, none⟩ = false := by rw [hb.frozen (by simp), World.frozen?_alloc_at _ _ _ _ rfl]
  have hbel : Hid (Below w.heap.size w w1) := ((Below.refl _ _).alloc (Nat.le_refl _) _).trans (hb.mono (by simp))
  clear hb
  go_wp2_with (go_at_call 8; refine (day_number Yr Mo (Dr + 1) _ HD.out).mono ?_; rintro e w' ⟨rfl, rfl⟩)
  refine bodyPost_ret (v := .tuple #[.agg #[.int .i64 (dn Yr Mo (Dr + 1) * 86400 + sod), .int .i32 N, .int .u8 P], .int .i64 Yr, .int .i64 Mo, .int .i64 (Dr + 1), .int .i64 sod]) (by simp [results, Ybad.results5, go_sem, p0, p1, p2, hz]) rfl ⟨rfl, ?_⟩
  exact (((hbel.out.setCell (by simp) _).setCell (by simp) _).setCell (by simp) _).alloc (by simp; omega) _

end Go.Proofs.YbulkanssDoor.Wk
