import Derived.Test.YbulkanseFmtReader
namespace Go.Proofs.YbulkanseFmt.Wk
open Go.RowKit

/-- A label entry of the call's own, cell by cell. -/
def Le (w : World) (k : Nat) (c0 c1 c2 c3 : Value) : Prop := w.heap[k]? = some (.cells #[c0, c1, c2, c3] 39 (0, 0))

section
variable {w : World} {k : Nat} {c0 c1 c2 c3 : Value}
theorem Le.k0 (h : Le w k c0 c1 c2 c3) : w.cell? ⟨k, 0, none⟩ = some c0 := by rw [cell_of_row w k 0 _ _ _ h]; rfl
theorem Le.k1 (h : Le w k c0 c1 c2 c3) : w.cell? ⟨k, 1, none⟩ = some c1 := by rw [cell_of_row w k 1 _ _ _ h]; rfl
theorem Le.k2 (h : Le w k c0 c1 c2 c3) : w.cell? ⟨k, 2, none⟩ = some c2 := by rw [cell_of_row w k 2 _ _ _ h]; rfl
theorem Le.k3 (h : Le w k c0 c1 c2 c3) : w.cell? ⟨k, 3, none⟩ = some c3 := by rw [cell_of_row w k 3 _ _ _ h]; rfl
theorem Le.fz (h : Le w k c0 c1 c2 c3) (o : Nat) : w.frozen? ⟨k, o, none⟩ = false := frozen_of_row w k o _ _ h
theorem Le.lt (h : Le w k c0 c1 c2 c3) : k < w.heap.size := (Array.getElem?_eq_some_iff.1 h).1
theorem Le.set0 (h : Le w k c0 c1 c2 c3) (u : Value) : Le (w.setCell ⟨k, 0, none⟩ u) k u c1 c2 c3 := heap_setCell_same w k 0 _ _ u h
theorem Le.set1 (h : Le w k c0 c1 c2 c3) (u : Value) : Le (w.setCell ⟨k, 1, none⟩ u) k c0 u c2 c3 := heap_setCell_same w k 1 _ _ u h
theorem Le.set2 (h : Le w k c0 c1 c2 c3) (u : Value) : Le (w.setCell ⟨k, 2, none⟩ u) k c0 c1 u c3 := heap_setCell_same w k 2 _ _ u h
theorem Le.set3 (h : Le w k c0 c1 c2 c3) (u : Value) : Le (w.setCell ⟨k, 3, none⟩ u) k c0 c1 c2 u := heap_setCell_same w k 3 _ _ u h
theorem Le.other (h : Le w k c0 c1 c2 c3) (c o : Nat) (hc : c ≠ k) (u : Value) : Le (w.setCell ⟨c, o, none⟩ u) k c0 c1 c2 c3 :=
  (heap_setCell_other w ⟨c, o, none⟩ k u (by intro e; exact hc e.symm)).trans h
theorem Le.grown {w' : World} {r : Nat} (h : Le w k c0 c1 c2 c3) (hg : w.grownBy w' (some r)) (hk : k ≠ r) : Le w' k c0 c1 c2 c3 :=
  (hg.block k h.lt (by intro e; exact hk (Option.some.inj e))).trans h
theorem Le.alloc (h : Le w k c0 c1 c2 c3) (O : Obj) : Le (w.alloc O) k c0 c1 c2 c3 := (Below.heap_alloc w O k h.lt).trans h
theorem le_new (w : World) (n : Nat) (c0 c1 c2 c3 : Value) (hn : n = w.heap.size) : Le (w.alloc (.cells #[c0, c1, c2, c3] 39)) n c0 c1 c2 c3 := by subst hn; exact heap_alloc_new w _
end

/-- A byte of a slice that is none of the reader's cells reads as it did. -/
theorem byte_later {w w' : World} {rb b o : Nat} {u : Value} (hg : w.grownBy w' (some rb)) (hb : b ≠ rb) (h : w.cell? ⟨b, o, none⟩ = some u) : w'.cell? ⟨b, o, none⟩ = some u :=
  hg.cell h (by intro e; exact hb (Option.some.inj e))

set_option maxRecDepth 20000 in
set_option maxHeartbeats 800000 in
theorem readLabel_ok (rb b off len cap : Nat) (z0 z1 z2 z3 : Int) (w : World) (hr : Rd w rb (.slice (some ⟨b, off, none⟩) len cap) 0 false ⟨#[]⟩ .nilIface)
    (hl : 4 ≤ len) (hl2 : len ≤ 1024) (hcap : len ≤ cap) (hb : b ≠ rb)
    (d0 : w.cell? ⟨b, off, none⟩ = some (.int .u8 z0)) (d1 : w.cell? ⟨b, off + 1, none⟩ = some (.int .u8 z1)) (d2 : w.cell? ⟨b, off + 2, none⟩ = some (.int .u8 z2)) (d3 : w.cell? ⟨b, off + 3, none⟩ = some (.int .u8 z3))
    (h0 : 0 ≤ z0 ∧ z0 ≤ 255) (h1 : 0 ≤ z1 ∧ z1 ≤ 255) (h2 : 0 ≤ z2 ∧ z2 ≤ 255) (h3 : 0 ≤ z3 ∧ z3 ≤ 255) :
    Calls Ybaf.prog 16 #[.pointer (some ⟨rb, 0, none⟩)] w fun e w' =>
      e = .returned (.agg #[.int .u32 (z0 * 4096 + z1 * 16 + z2 / 16), .int .u8 (z2 / 2 % 8), .bool (z2 % 2 == 1), .int .u8 z3]) ∧
        Rd w' rb (.slice (some (adv b (off + 3) (cap - 3))) (len - 4) (cap - 4)) 0 false ⟨#[109, 112, 108, 115, 46]⟩ .nilIface ∧ w.grownBy w' (some rb) := by
  have r3 := hr.c3
  have rf3 := hr.fz 3
  have rlt := hr.lt
  go_enter Ybaf.func16, Ybaf.ntmps16
  go_wp2_with fail
  have R0 : Rd (((w.setCell ⟨rb, 3, none⟩ (.string ⟨#[109, 112, 108, 115, 46]⟩)).alloc (.cells #[.int .u32 0, .int .u8 0, .bool false, .int .u8 0] 39)).alloc (.cells #[.int .u32 0, .int .u8 0, .bool false, .int .u8 0] 39))
      rb (.slice (some ⟨b, off, none⟩) len cap) 0 false ⟨#[109, 112, 108, 115, 46]⟩ .nilIface := ((hr.set3 _).alloc _).alloc _
  have A0 : Le (((w.setCell ⟨rb, 3, none⟩ (.string ⟨#[109, 112, 108, 115, 46]⟩)).alloc (.cells #[.int .u32 0, .int .u8 0, .bool false, .int .u8 0] 39)).alloc (.cells #[.int .u32 0, .int .u8 0, .bool false, .int .u8 0] 39))
      w.heap.size (.int .u32 0) (.int .u8 0) (.bool false) (.int .u8 0) := (le_new _ _ _ _ _ _ (by simp)).alloc _
  have B0 : Le (((w.setCell ⟨rb, 3, none⟩ (.string ⟨#[109, 112, 108, 115, 46]⟩)).alloc (.cells #[.int .u32 0, .int .u8 0, .bool false, .int .u8 0] 39)).alloc (.cells #[.int .u32 0, .int .u8 0, .bool false, .int .u8 0] 39))
      (w.heap.size + 1) (.int .u32 0) (.int .u8 0) (.bool false) (.int .u8 0) := le_new _ _ _ _ _ _ (by simp)
  have G0 := grown_alloc (grown_alloc (grown_own (grown_refl w (some rb)) 3 (.string ⟨#[109, 112, 108, 115, 46]⟩)) (.cells #[.int .u32 0, .int .u8 0, .bool false, .int .u8 0] 39)) (.cells #[.int .u32 0, .int .u8 0, .bool false, .int .u8 0] 39)
  refine (uint_label rb b off len cap _ z0 z1 z2 _ false _ R0 (by omega) hl2 hcap (byte_later G0 hb d0) (byte_later G0 hb d1) (byte_later G0 hb d2) h0 h1 h2).mono ?_
  rintro e w1 ⟨rfl, R1, G1⟩
  have A1 := A0.grown G1 (by omega)
  have B1 := B0.grown G1 (by omega)
  have G01 := grown_trans G0 G1
  have k0 := B1.k0
  have f0 := B1.fz 0
  have HD : Hid (w.cell? ⟨b, off + 2, none⟩ = some (.int .u8 z2) ∧ w.cell? ⟨b, off + 3, none⟩ = some (.int .u8 z3)) := ⟨d2, d3⟩
  clear A0 B0 R0 G0 G1 r3 rf3 d0 d1 d2 d3
  go_wp2_with fail
  refine (uint_tc rb b (off + 2) (len - 2) (cap - 2) _ z2 _ false _ (R1.other _ _ (by omega) _) (by omega) (by omega) (by omega) (byte_later (grown_new G01 _ _ (by omega) _) hb HD.out.1) h2).mono ?_
  rintro e w2 ⟨rfl, R2, G2⟩
  have A2 := (A1.other _ 0 (by omega) (.int .u32 (z0 * 4096 + z1 * 16 + z2 / 16))).grown G2 (by omega)
  have B2 := (B1.set0 (.int .u32 (z0 * 4096 + z1 * 16 + z2 / 16))).grown G2 (by omega)
  have G02 := grown_trans (grown_new G01 (w.heap.size + 1) 0 (by omega) (.int .u32 (z0 * 4096 + z1 * 16 + z2 / 16))) G2
  have k1 := B2.k1
  have f1 := B2.fz 1
  clear A1 B1 R1 G2 G01 k0 f0
  go_wp2_with fail
  refine (uint_s rb b (off + 2) (len - 2) (cap - 2) _ z2 _ false _ (R2.other _ _ (by omega) _) (by omega) (by omega) (by omega) (byte_later (grown_new G02 _ _ (by omega) _) hb HD.out.1) h2).mono ?_
  rintro e w3 ⟨rfl, R3, G3⟩
  have A3 := (A2.other _ 1 (by omega) (.int .u8 (z2 / 2 % 8))).grown G3 (by omega)
  have B3 := (B2.set1 (.int .u8 (z2 / 2 % 8))).grown G3 (by omega)
  have G03 := grown_trans (grown_new G02 (w.heap.size + 1) 1 (by omega) (.int .u8 (z2 / 2 % 8))) G3
  have k2 := B3.k2
  have f2 := B3.fz 2
  have ha : adv b (off + 2) (cap - 2) = ⟨b, off + 3, none⟩ := by simp [adv]; omega
  rw [ha, show len - 2 - 1 = len - 3 from by omega, show cap - 2 - 1 = cap - 3 from by omega] at R3
  clear A2 B2 R2 G3 G02 k1 f1 ha
  go_wp2_with fail
  refine (uint_ttl rb b (off + 3) (len - 3) (cap - 3) _ z3 _ false _ (R3.other _ _ (by omega) _) (by omega) (by omega) (by omega) (byte_later (grown_new G03 _ _ (by omega) _) hb HD.out.2) h3).mono ?_
  rintro e w4 ⟨rfl, R4, G4⟩
  have A4 := (A3.other _ 2 (by omega) (.bool (z2 % 2 == 1))).grown G4 (by omega)
  have B4 := (B3.set2 (.bool (z2 % 2 == 1))).grown G4 (by omega)
  have G04 := grown_trans (grown_new G03 (w.heap.size + 1) 2 (by omega) (.bool (z2 % 2 == 1))) G4
  have k0 := B4.k0
  have k1 := B4.k1
  have k2' := B4.k2
  have k3 := B4.k3
  have f3 := B4.fz 3
  have a0 := A4.k0
  have a1 := A4.k1
  have a2 := A4.k2
  have a3 := A4.k3
  have af0 := A4.fz 0
  have af1 := A4.fz 1
  have af2 := A4.fz 2
  have af3 := A4.fz 3
  rw [show len - 3 - 1 = len - 4 from by omega, show cap - 3 - 1 = cap - 4 from by omega] at R4
  clear A3 B3 R3 G4 G03 k2 f2
  go_wp2
  refine bodyPost_ret (v := .agg #[.int .u32 (z0 * 4096 + z1 * 16 + z2 / 16), .int .u8 (z2 / 2 % 8), .bool (z2 % 2 == 1), .int .u8 z3]) (by simp [results, Ybaf.results16, go_sem, a0, a1, a2, a3]) rfl ⟨rfl, ?_, ?_⟩
  · exact ((((R4.other _ _ (by omega) _).other _ _ (by omega) _).other _ _ (by omega) _).other _ _ (by omega) _).other _ _ (by omega) _
  · exact grown_new (grown_new (grown_new (grown_new (grown_new G04 _ _ (by omega) _) _ _ (by omega) _) _ _ (by omega) _) _ _ (by omega) _) _ _ (by omega) _
end Go.Proofs.YbulkanseFmt.Wk
