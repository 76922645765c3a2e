import Derived.Test.YbulkanseFmtRest
namespace Go.Proofs.YbulkanseFmt.Wk
open Go.RowKit

theorem rd_made (w : World) (n : Nat) (v : Value) (k : Int) (sh : Bool) (pf : ByteArray) (er : Value) (hn : n = w.heap.size) :
    Rd (w.alloc (.cells #[v, .int .i64 k, .bool sh, .string pf, .int .i64 0, .int .i64 0, er, .nilFunc] 53)) n v k sh pf er := by subst hn; exact heap_alloc_new w _

theorem Rd.grown {w w' : World} {rb r : Nat} {v : Value} {k : Int} {sh : Bool} {pf : ByteArray} {er : Value} (h : Rd w rb v k sh pf er) (hg : w.grownBy w' (some r)) (hk : rb ≠ r) : Rd w' rb v k sh pf er :=
  (hg.block rb h.lt (by intro e; exact hk (Option.some.inj e))).trans h

set_option maxRecDepth 20000 in
set_option maxHeartbeats 800000 in
theorem parseValue_ok (b off len cap : Nat) (z : Int) (what : ByteArray) (w : World) (hl : 1 ≤ len) (hl2 : len ≤ 1025) (hcap : len ≤ cap)
    (d0 : w.cell? ⟨b, off, none⟩ = some (.int .u8 z)) (h0 : 0 ≤ z ∧ z ≤ 255) :
    Calls Ybaf.prog 14 #[.slice (some ⟨b, off, none⟩) len cap, .string what, .func (.func 15) #[] #[]] w fun e w' =>
      e = .returned (.tuple #[.agg #[.bool (z / 128 == 1), .int .u8 (z % 128), .slice (some (adv b off cap)) (len - 1) (cap - 1)], .nilIface]) ∧ Below w.heap.size w w' := by
  have hb : b < w.heap.size := World.block_lt_of_cell? w ⟨b, off, none⟩ d0
  go_enter Ybaf.func14, Ybaf.ntmps14
  go_wp2_with fail
  have R0 : Rd ((w.alloc (.cells #[.bool false, .int .u8 0, .slice none 0 0] 31)).alloc (.cells #[.slice (some ⟨b, off, none⟩) len cap, .int .i64 0, .bool false, .string ⟨#[]⟩, .int .i64 0, .int .i64 0, .nilIface, .nilFunc] 53))
      (w.heap.size + 1) (.slice (some ⟨b, off, none⟩) len cap) 0 false ⟨#[]⟩ .nilIface := rd_made _ _ _ _ _ _ _ (by simp)
  have A0 : Me ((w.alloc (.cells #[.bool false, .int .u8 0, .slice none 0 0] 31)).alloc (.cells #[.slice (some ⟨b, off, none⟩) len cap, .int .i64 0, .bool false, .string ⟨#[]⟩, .int .i64 0, .int .i64 0, .nilIface, .nilFunc] 53))
      w.heap.size (.bool false) (.int .u8 0) (.slice none 0 0) := (me_new _ _ _ _ _ rfl).alloc _
  have G0 := grown_alloc (grown_alloc (grown_refl w (some (w.heap.size + 1))) (.cells #[.bool false, .int .u8 0, .slice none 0 0] 31)) (.cells #[.slice (some ⟨b, off, none⟩) len cap, .int .i64 0, .bool false, .string ⟨#[]⟩, .int .i64 0, .int .i64 0, .nilIface, .nilFunc] 53)
  refine (within_all (w.heap.size + 1) b off len cap _ R0 hcap hl2).mono ?_
  rintro e w1 ⟨rfl, x, c, R1, G1⟩
  have A1 := A0.grown G1 (by omega)
  have G01 := grown_trans G0 G1
  have hs1 : w.heap.size + 1 < w1.heap.size := R1.lt
  have HD : Hid (w1.cell? ⟨b, off, none⟩ = some (.int .u8 z)) := byte_kept G01 (by omega) d0
  clear A0 R0 G0 G1 d0
  go_wp2_with fail
  refine (readMultipath_ok w1.heap.size b off len cap z _ (rd_made _ _ _ _ _ _ _ rfl) hl hl2 hcap (by omega) (by rw [World.cell?_alloc_past _ _ _ (by omega)]; exact HD.out) h0).mono ?_
  rintro e w2 ⟨rfl, x2, c2, R2, G2⟩
  have T2 := (R1.alloc (.cells #[.slice (some ⟨b, off, none⟩) len cap, .int .i64 0, .bool false, .string ⟨#[]⟩, .int .i64 0, .int .i64 0, .nilIface, .nilFunc] 53)).grown G2 (by omega)
  have A2 := (A1.alloc (.cells #[.slice (some ⟨b, off, none⟩) len cap, .int .i64 0, .bool false, .string ⟨#[]⟩, .int .i64 0, .int .i64 0, .nilIface, .nilFunc] 53)).grown G2 (by omega)
  have hs2 : w1.heap.size < w2.heap.size := R2.lt
  have hs3 : w.heap.size < w2.heap.size := by omega
  have hs4 : w.heap.size + 1 < w2.heap.size := by omega
  have hbel : Hid (Below w.heap.size w w2) := by
    have b1 : Below w.heap.size w w1 := (Below.refl _ _).grown G01 (Nat.le_refl _) (by intro k hk; cases hk; omega)
    exact (b1.alloc b1.size _).grown G2 (by simp; omega) (by intro k hk; cases hk; omega)
  have HR2 : Hid (Rd w2 w1.heap.size (.slice (some x2) 0 c2) 0 false ⟨#[]⟩ .nilIface) := R2
  have HT2 : Hid (Rd w2 (w.heap.size + 1) (.slice (some x) 0 c) 0 false ⟨#[]⟩ .nilIface) := T2
  have a0 := A2.k0
  have a1 := A2.k1
  have a2 := A2.k2
  have af0 := A2.fz 0
  have af1 := A2.fz 1
  have af2 := A2.fz 2
  have t6 := T2.c6
  clear A1 R1 G01 G2 HD A2 R2 T2
  go_wp2_with fail
  refine (close_ok (w.heap.size + 1) w1.heap.size _ _ _ _ _ _ _ _ _ _ (HT2.out.alloc _) (HR2.out.alloc _)).mono ?_
  rintro e w3 ⟨rfl, rfl⟩
  go_wp2
  refine bodyPost_ret (v := .tuple #[.agg #[.bool (z / 128 == 1), .int .u8 (z % 128), .slice (some (adv b off cap)) (len - 1) (cap - 1)], .nilIface]) (by simp [results, Ybaf.results14, go_sem, a0, a1, a2, hs3]) rfl ⟨rfl, ?_⟩
  exact (((hbel.out.setCell (by simp) _).setCell (by simp) _).setCell (by simp) _).alloc (by simp; omega) _

set_option maxRecDepth 20000 in
set_option maxHeartbeats 800000 in
theorem parseMultipath_ok (b off len cap : Nat) (z : Int) (w : World) (hl : 1 ≤ len) (hl2 : len ≤ 1025) (hcap : len ≤ cap)
    (d0 : w.cell? ⟨b, off, none⟩ = some (.int .u8 z)) (h0 : 0 ≤ z ∧ z ≤ 255) :
    Calls Ybaf.prog 9 #[.slice (some ⟨b, off, none⟩) len cap] w fun e w' =>
      e = .returned (.tuple #[.agg #[.bool (z / 128 == 1), .int .u8 (z % 128), .slice (some (adv b off cap)) (len - 1) (cap - 1)], .nilIface]) ∧ Below w.heap.size w w' := by
  have hb : b < w.heap.size := World.block_lt_of_cell? w ⟨b, off, none⟩ d0
  have HD : Hid (w.cell? ⟨b, off, none⟩ = some (.int .u8 z)) := d0
  clear d0
  go_enter Ybaf.func9, Ybaf.ntmps9
  go_wp2_with fail
  refine (parseValue_ok b off len cap z _ _ hl hl2 hcap (by rw [World.cell?_alloc_past _ _ _ hb]; exact HD.out) h0).mono ?_
  rintro e w1 ⟨rfl, hb1⟩
  have A1 : Me w1 w.heap.size (.bool false) (.int .u8 0) (.slice none 0 0) := (hb1.block w.heap.size (by simp)).trans (me_new _ _ _ _ _ rfl)
  have a0 := A1.k0
  have a1 := A1.k1
  have a2 := A1.k2
  have af0 := A1.fz 0
  have af1 := A1.fz 1
  have af2 := A1.fz 2
  clear A1
  go_wp2
  refine bodyPost_ret (v := .tuple #[.agg #[.bool (z / 128 == 1), .int .u8 (z % 128), .slice (some (adv b off cap)) (len - 1) (cap - 1)], .nilIface]) (by simp [results, Ybaf.results9, go_sem, a0, a1, a2]) rfl ⟨rfl, ?_⟩
  exact (((((Below.refl _ _).alloc (Nat.le_refl _) _).trans (hb1.mono (by simp))).setCell (by simp) _).setCell (by simp) _).setCell (by simp) _
end Go.Proofs.YbulkanseFmt.Wk
