import Derived.Test.YbulkanseFmtLabel
import Derived.BigRegion
import Derived.Laws.EntriesVeiled
namespace Go.Proofs.YbulkanseFmt.Wk
open Go.RowKit

theorem rd_new (w : World) (n : Nat) (v : Value) (k : Int) (sh : Bool) (pf : ByteArray) (er : Value) (hn : n = w.heap.size) :
    Rd (w.alloc (.cells #[v, .int .i64 k, .bool sh, .string pf, .int .i64 0, .int .i64 0, er, .nilFunc] 53)) n v k sh pf er := by subst hn; exact heap_alloc_new w _

set_option maxRecDepth 20000 in
set_option maxHeartbeats 800000 in
theorem parse_ok (b off len cap : Nat) (z0 z1 z2 z3 : Int) (w : World) (hl : 4 ≤ len) (hl2 : len ≤ 1024) (hcap : len ≤ cap)
    (d0 : w.cell? ⟨b, off, none⟩ = some (.int .u8 z0)) (d1 : w.cell? ⟨b, off + 1, none⟩ = some (.int .u8 z1)) (d2 : w.cell? ⟨b, off + 2, none⟩ = some (.int .u8 z2)) (d3 : w.cell? ⟨b, off + 3, none⟩ = some (.int .u8 z3))
    (h0 : 0 ≤ z0 ∧ z0 ≤ 255) (h1 : 0 ≤ z1 ∧ z1 ≤ 255) (h2 : 0 ≤ z2 ∧ z2 ≤ 255) (h3 : 0 ≤ z3 ∧ z3 ≤ 255) :
    Calls Ybaf.prog 10 #[.slice (some ⟨b, off, none⟩) len cap] w fun e w' =>
      e = .returned (.tuple #[.agg #[.int .u32 (z0 * 4096 + z1 * 16 + z2 / 16), .int .u8 (z2 / 2 % 8), .bool (z2 % 2 == 1), .int .u8 z3], .slice (some (adv b (off + 3) (cap - 3))) (len - 4) (cap - 4), .nilIface]) ∧
        Below w.heap.size w w' := by
  have hb : b < w.heap.size := World.block_lt_of_cell? w ⟨b, off, none⟩ d0
  go_enter Ybaf.func10, Ybaf.ntmps10
  go_wp2_with fail
  have R0 : Rd ((w.alloc (.cells #[.int .u32 0, .int .u8 0, .bool false, .int .u8 0] 39)).alloc (.cells #[.slice (some ⟨b, off, none⟩) len cap, .int .i64 0, .bool false, .string ⟨#[]⟩, .int .i64 0, .int .i64 0, .nilIface, .nilFunc] 53))
      (w.heap.size + 1) (.slice (some ⟨b, off, none⟩) len cap) 0 false ⟨#[]⟩ .nilIface := rd_new _ _ _ _ _ _ _ (by simp)
  have A0 : Le ((w.alloc (.cells #[.int .u32 0, .int .u8 0, .bool false, .int .u8 0] 39)).alloc (.cells #[.slice (some ⟨b, off, none⟩) len cap, .int .i64 0, .bool false, .string ⟨#[]⟩, .int .i64 0, .int .i64 0, .nilIface, .nilFunc] 53))
      w.heap.size (.int .u32 0) (.int .u8 0) (.bool false) (.int .u8 0) := (le_new _ _ _ _ _ _ rfl).alloc _
  have G0 := grown_alloc (grown_alloc (grown_refl w (some (w.heap.size + 1))) (.cells #[.int .u32 0, .int .u8 0, .bool false, .int .u8 0] 39)) (.cells #[.slice (some ⟨b, off, none⟩) len cap, .int .i64 0, .bool false, .string ⟨#[]⟩, .int .i64 0, .int .i64 0, .nilIface, .nilFunc] 53)
  refine (readLabel_ok (w.heap.size + 1) b off len cap z0 z1 z2 z3 _ R0 hl hl2 hcap (by omega) (byte_later G0 (by omega) d0) (byte_later G0 (by omega) d1) (byte_later G0 (by omega) d2) (byte_later G0 (by omega) d3) h0 h1 h2 h3).mono ?_
  rintro e w1 ⟨rfl, R1, G1⟩
  have A1 := A0.grown G1 (by omega)
  have G01 := grown_trans G0 G1
  have hs : w.heap.size + 1 < w1.heap.size := R1.lt
  have hs' : w.heap.size < w1.heap.size := by omega
  have r6 := R1.c6
  have r0 := R1.c0
  have a0 := A1.k0
  have a1 := A1.k1
  have a2 := A1.k2
  have a3 := A1.k3
  have af0 := A1.fz 0
  have af1 := A1.fz 1
  have af2 := A1.fz 2
  have af3 := A1.fz 3
  clear R0 A0 G0 R1 G1 d0 d1 d2 d3
  go_wp2
  go_region
  go_wp2
  refine bodyPost_ret (v := .tuple #[.agg #[.int .u32 (z0 * 4096 + z1 * 16 + z2 / 16), .int .u8 (z2 / 2 % 8), .bool (z2 % 2 == 1), .int .u8 z3], .slice (some (adv b (off + 3) (cap - 3))) (len - 4) (cap - 4), .nilIface]) (by simp [results, Ybaf.results10, go_sem, a0, a1, a2, a3, hs']) rfl ⟨rfl, ?_⟩
  have hbel : Below w.heap.size w w1 := (Below.refl _ _).grown G01 (Nat.le_refl _) (by intro k hk; cases hk; omega)
  exact (((((hbel.setCell (by simp) _).setCell (by simp) _).setCell (by simp) _).setCell (by simp) _).alloc (by simp; omega) _).drew
end Go.Proofs.YbulkanseFmt.Wk
