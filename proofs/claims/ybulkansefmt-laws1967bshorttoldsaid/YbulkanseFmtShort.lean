import Derived.Test.YbulkanseFmtFail
namespace Go.Proofs.YbulkanseFmt.Wk
open Go.RowKit

theorem uint_err (rb : Nat) (v : Value) (k width : Int) (sh : Bool) (pf field : ByteArray) (x : Value) (w : World) (hr : Rd w rb v k sh pf (.iface 80 x)) :
    Calls Ybaf.prog 22 #[.pointer (some ⟨rb, 0, none⟩), .string field, .int .i64 width] w fun e w' => e = .returned (.int .u64 0) ∧ w' = w :=
  uint_no rb field width w (fun w' => w' = w) (take_err rb v k width sh pf field x w hr)

/-- The failure stands where a cell of another block is written. -/
theorem Failed.other {w w' : World} {rb : Nat} {v : Value} {k : Int} {sh : Bool} {pf : ByteArray} {a : Addr} (h : Failed w w' rb v k sh pf a) {w0 : World} (hg : w0.grownBy w (some rb)) : Failed w0 w' rb v k sh pf a := by
  obtain ⟨E, h1, h2, h3, h4, h5⟩ := h
  exact ⟨E, by have := hg.size; omega, h2, h3, h4, grown_trans hg h5⟩

/-- What is left of a failure behind stores into blocks of the call's own. -/
structure Fell (w w' : World) (rb E : Nat) (v : Value) (k : Int) (pf : ByteArray) (a : Addr) : Prop where
  lo : w.heap.size ≤ E
  lt : E < w'.heap.size
  rd : Rd w' rb v k false pf (.iface 80 (.pointer (some ⟨E, 0, none⟩)))
  inner : w'.cell? ⟨E, 1, none⟩ = some (.iface 88 (.pointer (some a)))
  grown : w.grownBy w' (some rb)

theorem Fell.set {w w' : World} {rb E : Nat} {v : Value} {k : Int} {pf : ByteArray} {a : Addr} (h : Fell w w' rb E v k pf a) (c o : Nat) (hc : c ≠ rb) (hE : c ≠ E) (hw : w.heap.size ≤ c) (u : Value) : Fell w (w'.setCell ⟨c, o, none⟩ u) rb E v k pf a :=
  ⟨h.lo, by have := h.lt; simpa using this, h.rd.other _ _ hc _, by rw [World.cell?_setCell_other _ _ _ _ (by intro e; injection e with e1 e2; omega)]; exact h.inner, grown_new h.grown _ _ hw _⟩

set_option maxRecDepth 20000 in
set_option maxHeartbeats 800000 in
/-- Fewer than three octets: the label itself is not there. -/
theorem readLabel_none (rb : Nat) (a0 : Option Addr) (len cap : Nat) (a : Addr) (s : ByteArray) (w : World) (hr : Rd w rb (.slice a0 len cap) 0 false ⟨#[]⟩ .nilIface) (hl : len ≤ 2)
    (hs : w.cell? a = some (.string s)) (hab : a.block ≠ rb) (hg : w.cell? ⟨0, 0, none⟩ = some (.iface 88 (.pointer (some a)))) (h0b : (0 : Nat) ≠ rb) :
    Calls Ybaf.prog 16 #[.pointer (some ⟨rb, 0, none⟩)] w fun e w' =>
      ∃ E v k, e = .returned (.agg #[.int .u32 0, .int .u8 0, .bool false, .int .u8 0]) ∧ Fell w w' rb E v k ⟨#[109, 112, 108, 115, 46]⟩ a := by
  have r3 := hr.c3
  have rf3 := hr.fz 3
  have rlt := hr.lt
  go_enter Ybaf.func16, Ybaf.ntmps16
  go_wp2_with fail
  have R0 : Rd (((w.setCell ⟨rb, 3, none⟩ (.string ⟨#[109, 112, 108, 115, 46]⟩)).alloc (.cells #[.int .u32 0, .int .u8 0, .bool false, .int .u8 0] 39)).alloc (.cells #[.int .u32 0, .int .u8 0, .bool false, .int .u8 0] 39))
      rb (.slice a0 len cap) 0 false ⟨#[109, 112, 108, 115, 46]⟩ .nilIface := ((hr.set3 _).alloc _).alloc _
  have A0 : Le (((w.setCell ⟨rb, 3, none⟩ (.string ⟨#[109, 112, 108, 115, 46]⟩)).alloc (.cells #[.int .u32 0, .int .u8 0, .bool false, .int .u8 0] 39)).alloc (.cells #[.int .u32 0, .int .u8 0, .bool false, .int .u8 0] 39))
      w.heap.size (.int .u32 0) (.int .u8 0) (.bool false) (.int .u8 0) := (le_new _ _ _ _ _ _ (by simp)).alloc _
  have B0 : Le (((w.setCell ⟨rb, 3, none⟩ (.string ⟨#[109, 112, 108, 115, 46]⟩)).alloc (.cells #[.int .u32 0, .int .u8 0, .bool false, .int .u8 0] 39)).alloc (.cells #[.int .u32 0, .int .u8 0, .bool false, .int .u8 0] 39))
      (w.heap.size + 1) (.int .u32 0) (.int .u8 0) (.bool false) (.int .u8 0) := le_new _ _ _ _ _ _ (by simp)
  have G0 := grown_alloc (grown_alloc (grown_own (grown_refl w (some rb)) 3 (.string ⟨#[109, 112, 108, 115, 46]⟩)) (.cells #[.int .u32 0, .int .u8 0, .bool false, .int .u8 0] 39)) (.cells #[.int .u32 0, .int .u8 0, .bool false, .int .u8 0] 39)
  have HS : Hid (w.cell? a = some (.string s) ∧ w.cell? ⟨0, 0, none⟩ = some (.iface 88 (.pointer (some a)))) := ⟨hs, hg⟩
  clear hs hg
  refine (uint_no rb _ 20 _ _ (take_fail rb a0 len cap 20 false _ _ a s _ R0 (by decide) (by decide) (G0.cell HS.out.1 (by intro e; exact hab (Option.some.inj e))) (byte_later G0 h0b HS.out.2) (by omega) (by omega))).mono ?_
  rintro e w1 ⟨rfl, hF⟩
  obtain ⟨E, e1, e2, R1, hE, G1⟩ := hF
  have hsz0 : w.heap.size + 2 ≤ E := by simpa using e1
  have A1 := A0.grown G1 (by omega)
  have B1 := B0.grown G1 (by omega)
  have F1 : Fell w w1 rb E (.slice a0 len cap) 0 ⟨#[109, 112, 108, 115, 46]⟩ a := ⟨by omega, e2, R1, hE, grown_trans G0 G1⟩
  have k0 := B1.k0
  have f0 := B1.fz 0
  clear A0 B0 R0 G0 G1 r3 rf3 R1 hE e1
  go_wp2_with fail
  refine (uint_err rb _ _ 3 false _ _ _ _ (F1.set (w.heap.size + 1) 0 (by omega) (by omega) (by omega) (.int .u32 0)).rd).mono ?_
  rintro e w2 ⟨rfl, hw⟩
  have A2 : Le w2 w.heap.size (.int .u32 0) (.int .u8 0) (.bool false) (.int .u8 0) := by rw [hw]; exact A1.other (w.heap.size + 1) 0 (by omega) (.int .u32 0)
  have B2 := hw ▸ B1.set0 (.int .u32 0)
  have F2 := hw ▸ F1.set (w.heap.size + 1) 0 (by omega) (by omega) (by omega) (.int .u32 0)
  have k1 := B2.k1
  have f1 := B2.fz 1
  clear A1 B1 F1 k0 f0 hw
  go_wp2_with fail
  refine (uint_err rb _ _ 1 false _ _ _ _ (F2.set (w.heap.size + 1) 1 (by omega) (by omega) (by omega) (.int .u8 0)).rd).mono ?_
  rintro e w3 ⟨rfl, hw⟩
  have A3 : Le w3 w.heap.size (.int .u32 0) (.int .u8 0) (.bool false) (.int .u8 0) := by rw [hw]; exact A2.other (w.heap.size + 1) 1 (by omega) (.int .u8 0)
  have B3 := hw ▸ B2.set1 (.int .u8 0)
  have F3 := hw ▸ F2.set (w.heap.size + 1) 1 (by omega) (by omega) (by omega) (.int .u8 0)
  have k2 := B3.k2
  have f2 := B3.fz 2
  clear A2 B2 F2 k1 f1 hw
  go_wp2_with fail
  refine (uint_err rb _ _ 8 false _ _ _ _ (F3.set (w.heap.size + 1) 2 (by omega) (by omega) (by omega) (.bool false)).rd).mono ?_
  rintro e w4 ⟨rfl, hw⟩
  have A4 : Le w4 w.heap.size (.int .u32 0) (.int .u8 0) (.bool false) (.int .u8 0) := by rw [hw]; exact A3.other (w.heap.size + 1) 2 (by omega) (.bool false)
  have B4 := hw ▸ B3.set2 (.bool false)
  have F4 := hw ▸ F3.set (w.heap.size + 1) 2 (by omega) (by omega) (by omega) (.bool false)
  have k3 := B4.k3
  have f3 := B4.fz 3
  clear A3 B3 F3 k2 f2 hw
  have b0 := B4.k0
  have b1 := B4.k1
  have b2 := B4.k2
  have a0' := A4.k0
  have a1' := A4.k1
  have a2' := A4.k2
  have a3' := A4.k3
  have af0 := A4.fz 0
  have af1 := A4.fz 1
  have af2 := A4.fz 2
  have af3 := A4.fz 3
  clear B4 A4
  go_wp2
  refine bodyPost_ret (v := .agg #[.int .u32 0, .int .u8 0, .bool false, .int .u8 0]) (by simp [results, Ybaf.results16, go_sem, a0', a1', a2', a3']) rfl ⟨E, .slice a0 len cap, 0, rfl, ?_⟩
  exact ((((F4.set _ _ (by omega) (by omega) (by omega) _).set _ _ (by omega) (by omega) (by omega) _).set _ _ (by omega) (by omega) (by omega) _).set _ _ (by omega) (by omega) (by omega) _).set _ _ (by omega) (by omega) (by omega) _

set_option maxRecDepth 20000 in
set_option maxHeartbeats 800000 in
/-- Three octets: the label, the traffic class and the bottom-of-stack bit are there, the TTL is not. -/
theorem readLabel_three (rb b off len cap : Nat) (z0 z1 z2 : Int) (a : Addr) (s : ByteArray) (w : World) (hr : Rd w rb (.slice (some ⟨b, off, none⟩) len cap) 0 false ⟨#[]⟩ .nilIface)
    (hl : len = 3) (hcap : len ≤ cap) (hb : b ≠ rb)
    (d0 : w.cell? ⟨b, off, none⟩ = some (.int .u8 z0)) (d1 : w.cell? ⟨b, off + 1, none⟩ = some (.int .u8 z1)) (d2 : w.cell? ⟨b, off + 2, none⟩ = some (.int .u8 z2))
    (h0 : 0 ≤ z0 ∧ z0 ≤ 255) (h1 : 0 ≤ z1 ∧ z1 ≤ 255) (h2 : 0 ≤ z2 ∧ z2 ≤ 255)
    (hs : w.cell? a = some (.string s)) (hab : a.block ≠ rb) (hg : w.cell? ⟨0, 0, none⟩ = some (.iface 88 (.pointer (some a)))) (h0b : (0 : Nat) ≠ rb) :
    Calls Ybaf.prog 16 #[.pointer (some ⟨rb, 0, none⟩)] w fun e w' =>
      ∃ E v k, e = .returned (.agg #[.int .u32 (z0 * 4096 + z1 * 16 + z2 / 16), .int .u8 (z2 / 2 % 8), .bool (z2 % 2 == 1), .int .u8 0]) ∧ Fell w w' rb E v k ⟨#[109, 112, 108, 115, 46]⟩ a := by
  have r3 := hr.c3
  have rf3 := hr.fz 3
  have rlt := hr.lt
  have HS : Hid (w.cell? a = some (.string s) ∧ w.cell? ⟨0, 0, none⟩ = some (.iface 88 (.pointer (some a)))) := ⟨hs, hg⟩
  have HL : Hid (len = 3) := hl
  have hl' : 3 ≤ len ∧ len ≤ 3 := by omega
  clear hs hg hl
  go_enter Ybaf.func16, Ybaf.ntmps16
  go_wp2_with fail
  have R0 : Rd (((w.setCell ⟨rb, 3, none⟩ (.string ⟨#[109, 112, 108, 115, 46]⟩)).alloc (.cells #[.int .u32 0, .int .u8 0, .bool false, .int .u8 0] 39)).alloc (.cells #[.int .u32 0, .int .u8 0, .bool false, .int .u8 0] 39))
      rb (.slice (some ⟨b, off, none⟩) len cap) 0 false ⟨#[109, 112, 108, 115, 46]⟩ .nilIface := ((hr.set3 _).alloc _).alloc _
  have A0 : Le (((w.setCell ⟨rb, 3, none⟩ (.string ⟨#[109, 112, 108, 115, 46]⟩)).alloc (.cells #[.int .u32 0, .int .u8 0, .bool false, .int .u8 0] 39)).alloc (.cells #[.int .u32 0, .int .u8 0, .bool false, .int .u8 0] 39))
      w.heap.size (.int .u32 0) (.int .u8 0) (.bool false) (.int .u8 0) := (le_new _ _ _ _ _ _ (by simp)).alloc _
  have B0 : Le (((w.setCell ⟨rb, 3, none⟩ (.string ⟨#[109, 112, 108, 115, 46]⟩)).alloc (.cells #[.int .u32 0, .int .u8 0, .bool false, .int .u8 0] 39)).alloc (.cells #[.int .u32 0, .int .u8 0, .bool false, .int .u8 0] 39))
      (w.heap.size + 1) (.int .u32 0) (.int .u8 0) (.bool false) (.int .u8 0) := le_new _ _ _ _ _ _ (by simp)
  have G0 := grown_alloc (grown_alloc (grown_own (grown_refl w (some rb)) 3 (.string ⟨#[109, 112, 108, 115, 46]⟩)) (.cells #[.int .u32 0, .int .u8 0, .bool false, .int .u8 0] 39)) (.cells #[.int .u32 0, .int .u8 0, .bool false, .int .u8 0] 39)
  refine (uint_label rb b off len cap _ z0 z1 z2 _ false _ R0 (by omega) (by omega) hcap (byte_later G0 hb d0) (byte_later G0 hb d1) (byte_later G0 hb d2) h0 h1 h2).mono ?_
  rintro e w1 ⟨rfl, R1, G1⟩
  have A1 := A0.grown G1 (by omega)
  have B1 := B0.grown G1 (by omega)
  have G01 := grown_trans G0 G1
  have k0 := B1.k0
  have f0 := B1.fz 0
  have HD : Hid (w.cell? ⟨b, off + 2, none⟩ = some (.int .u8 z2)) := d2
  clear A0 B0 R0 G0 G1 r3 rf3 d0 d1 d2
  go_wp2_with fail
  refine (uint_tc rb b (off + 2) (len - 2) (cap - 2) _ z2 _ false _ (R1.other _ _ (by omega) _) (by omega) (by omega) (by omega) (byte_later (grown_new G01 _ _ (by omega) _) hb HD.out) h2).mono ?_
  rintro e w2 ⟨rfl, R2, G2⟩
  have A2 := (A1.other _ 0 (by omega) (.int .u32 (z0 * 4096 + z1 * 16 + z2 / 16))).grown G2 (by omega)
  have B2 := (B1.set0 (.int .u32 (z0 * 4096 + z1 * 16 + z2 / 16))).grown G2 (by omega)
  have G02 := grown_trans (grown_new G01 (w.heap.size + 1) 0 (by omega) (.int .u32 (z0 * 4096 + z1 * 16 + z2 / 16))) G2
  have k1 := B2.k1
  have f1 := B2.fz 1
  clear A1 B1 R1 G2 G01 k0 f0
  go_wp2_with fail
  refine (uint_s rb b (off + 2) (len - 2) (cap - 2) _ z2 _ false _ (R2.other _ _ (by omega) _) (by omega) (by omega) (by omega) (byte_later (grown_new G02 _ _ (by omega) _) hb HD.out) h2).mono ?_
  rintro e w3 ⟨rfl, R3, G3⟩
  have A3 := (A2.other _ 1 (by omega) (.int .u8 (z2 / 2 % 8))).grown G3 (by omega)
  have B3 := (B2.set1 (.int .u8 (z2 / 2 % 8))).grown G3 (by omega)
  have G03 := grown_trans (grown_new G02 (w.heap.size + 1) 1 (by omega) (.int .u8 (z2 / 2 % 8))) G3
  have k2 := B3.k2
  have f2 := B3.fz 2
  clear A2 B2 R2 G3 G02 k1 f1
  go_wp2_with fail
  refine (uint_no rb _ 8 _ _ (take_fail rb (some (adv b (off + 2) (cap - 2))) (len - 2 - 1) (cap - 2 - 1) 8 false _ _ a s _ (R3.other _ _ (by omega) _) (by decide) (by decide) ((grown_new G03 _ _ (by omega) _).cell HS.out.1 (by intro e; exact hab (Option.some.inj e))) (byte_later (grown_new G03 _ _ (by omega) _) h0b HS.out.2) (by omega) (by omega))).mono ?_
  rintro e w4 ⟨rfl, hF⟩
  obtain ⟨E, e1, e2, R4, hE, G4⟩ := hF
  have hsz0 : w.heap.size + 2 ≤ E := by have := B3.lt; simp at e1; omega
  have A4 := (A3.other _ 2 (by omega) (.bool (z2 % 2 == 1))).grown G4 (by omega)
  have B4 := (B3.set2 (.bool (z2 % 2 == 1))).grown G4 (by omega)
  have F4 : Fell w w4 rb E (.slice (some (adv b (off + 2) (cap - 2))) (len - 2 - 1) (cap - 2 - 1)) 0 ⟨#[109, 112, 108, 115, 46]⟩ a := ⟨by omega, e2, R4, hE, grown_trans (grown_new G03 (w.heap.size + 1) 2 (by omega) (.bool (z2 % 2 == 1))) G4⟩
  have k3 := B4.k3
  have f3 := B4.fz 3
  clear A3 B3 R3 G4 G03 k2 f2 R4 hE e1
  have b0 := B4.k0
  have b1 := B4.k1
  have b2 := B4.k2
  have a0' := A4.k0
  have a1' := A4.k1
  have a2' := A4.k2
  have a3' := A4.k3
  have af0 := A4.fz 0
  have af1 := A4.fz 1
  have af2 := A4.fz 2
  have af3 := A4.fz 3
  clear B4 A4
  go_wp2
  refine bodyPost_ret (v := .agg #[.int .u32 (z0 * 4096 + z1 * 16 + z2 / 16), .int .u8 (z2 / 2 % 8), .bool (z2 % 2 == 1), .int .u8 0]) (by simp [results, Ybaf.results16, go_sem, a0', a1', a2', a3']) rfl ⟨E, .slice (some (adv b (off + 2) (cap - 2))) (len - 2 - 1) (cap - 2 - 1), 0, rfl, ?_⟩
  exact ((((F4.set _ _ (by omega) (by omega) (by omega) _).set _ _ (by omega) (by omega) (by omega) _).set _ _ (by omega) (by omega) (by omega) _).set _ _ (by omega) (by omega) (by omega) _).set _ _ (by omega) (by omega) (by omega) _

end Go.Proofs.YbulkanseFmt.Wk
