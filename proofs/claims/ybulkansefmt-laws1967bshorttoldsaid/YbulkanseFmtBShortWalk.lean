import Derived.Test.YbulkanseFmtShort
import Derived.Test.YbulkanseFmtParse
import Derived.Test.YbulkanseFmtSame
import Derived.Test.YbulkanseFmtIs
namespace Go.Proofs.YbulkanseFmt.Wk
open Go.RowKit

set_option maxRecDepth 20000 in
set_option maxHeartbeats 800000 in
theorem parse_fail (a0 : Option Addr) (len cap : Nat) (x0 x1 x3 : Int) (x2 : Bool) (a : Addr) (w : World)
    (ht : Calls Ybaf.prog 16 #[.pointer (some ⟨w.heap.size + 1, 0, none⟩)] ((w.alloc (.cells #[.int .u32 0, .int .u8 0, .bool false, .int .u8 0] 39)).alloc (.cells #[.slice a0 len cap, .int .i64 0, .bool false, .string ⟨#[]⟩, .int .i64 0, .int .i64 0, .nilIface, .nilFunc] 53)) fun e w' =>
      ∃ E v k, e = .returned (.agg #[.int .u32 x0, .int .u8 x1, .bool x2, .int .u8 x3]) ∧
        Fell ((w.alloc (.cells #[.int .u32 0, .int .u8 0, .bool false, .int .u8 0] 39)).alloc (.cells #[.slice a0 len cap, .int .i64 0, .bool false, .string ⟨#[]⟩, .int .i64 0, .int .i64 0, .nilIface, .nilFunc] 53)) w' (w.heap.size + 1) E v k ⟨#[109, 112, 108, 115, 46]⟩ a) :
    Calls Ybaf.prog 10 #[.slice a0 len cap] w fun e w' =>
      ∃ E, e = .returned (.tuple #[.agg #[.int .u32 0, .int .u8 0, .bool false, .int .u8 0], .slice a0 len cap, .iface 80 (.pointer (some ⟨E, 0, none⟩))]) ∧
        w'.cell? ⟨E, 1, none⟩ = some (.iface 88 (.pointer (some a))) ∧ E < w'.heap.size ∧ Below w.heap.size w w' := by
  have HT : Hid (Calls Ybaf.prog 16 #[.pointer (some ⟨w.heap.size + 1, 0, none⟩)] ((w.alloc (.cells #[.int .u32 0, .int .u8 0, .bool false, .int .u8 0] 39)).alloc (.cells #[.slice a0 len cap, .int .i64 0, .bool false, .string ⟨#[]⟩, .int .i64 0, .int .i64 0, .nilIface, .nilFunc] 53)) fun e w' =>
      ∃ E v k, e = .returned (.agg #[.int .u32 x0, .int .u8 x1, .bool x2, .int .u8 x3]) ∧
        Fell ((w.alloc (.cells #[.int .u32 0, .int .u8 0, .bool false, .int .u8 0] 39)).alloc (.cells #[.slice a0 len cap, .int .i64 0, .bool false, .string ⟨#[]⟩, .int .i64 0, .int .i64 0, .nilIface, .nilFunc] 53)) w' (w.heap.size + 1) E v k ⟨#[109, 112, 108, 115, 46]⟩ a) := ht
  clear ht
  go_enter Ybaf.func10, Ybaf.ntmps10
  go_wp2_with fail
  refine Calls.mono HT.out ?_
  rintro e w1 ⟨E, v, k, rfl, hF⟩
  have A0 : Le ((w.alloc (.cells #[.int .u32 0, .int .u8 0, .bool false, .int .u8 0] 39)).alloc (.cells #[.slice a0 len cap, .int .i64 0, .bool false, .string ⟨#[]⟩, .int .i64 0, .int .i64 0, .nilIface, .nilFunc] 53))
      w.heap.size (.int .u32 0) (.int .u8 0) (.bool false) (.int .u8 0) := (le_new _ _ _ _ _ _ rfl).alloc _
  have A1 := A0.grown hF.grown (by omega)
  have hEl : w.heap.size + 2 ≤ E := by have := hF.lo; simpa using this
  have hs : w.heap.size + 1 < w1.heap.size := hF.rd.lt
  have hs' : w.heap.size < w1.heap.size := by omega
  have r6 := hF.rd.c6
  have a0' := A1.k0
  have a1' := A1.k1
  have a2' := A1.k2
  have a3' := A1.k3
  have af0 := A1.fz 0
  have af1 := A1.fz 1
  have af2 := A1.fz 2
  have af3 := A1.fz 3
  clear A0 HT
  go_wp2
  go_region
  go_wp2
  refine bodyPost_ret (v := .tuple #[.agg #[.int .u32 0, .int .u8 0, .bool false, .int .u8 0], .slice a0 len cap, .iface 80 (.pointer (some ⟨E, 0, none⟩))]) (by simp [results, Ybaf.results10, go_sem, a0', a1', a2', a3', hs']) rfl ⟨E, rfl, ?_, ?_, ?_⟩
  · rw [World.cell?_drew, World.cell?_alloc_past _ _ _ (by have := hF.lt; simpa using this)]
    rw [World.cell?_setCell_other _ _ _ _ (by intro e; injection e with e1 e2; omega), World.cell?_setCell_other _ _ _ _ (by intro e; injection e with e1 e2; omega), World.cell?_setCell_other _ _ _ _ (by intro e; injection e with e1 e2; omega), World.cell?_setCell_other _ _ _ _ (by intro e; injection e with e1 e2; omega)]
    exact hF.inner
  · have := hF.lt
    simp
    omega
  · have G := grown_trans (grown_alloc (grown_alloc (grown_refl w (some (w.heap.size + 1))) _) _) hF.grown
    have hbel : Below w.heap.size w w1 := (Below.refl _ _).grown G (Nat.le_refl _) (by intro j hj; cases hj; omega)
    exact (((((hbel.setCell (by simp) _).setCell (by simp) _).setCell (by simp) _).setCell (by simp) _).alloc (by simp; omega) _).drew

set_option maxHeartbeats 400000 in
theorem short_long (a0 : Option Addr) (len cap : Nat) (w : World) (h : 4 ≤ len) (hm : len ≤ maxLen) :
    Calls Ybaf.prog 6 #[.slice a0 len cap] w fun e w' => e = .returned (.bool true) ∧ Below w.heap.size w w' := by
  unfold maxLen at hm
  go_enter Ybaf.func6, Ybaf.ntmps6
  go_wp2
  go_ret
  exact ⟨rfl, Below.refl _ _⟩

theorem neq_zero39 (w : World) : (binOp .neq 39 (.agg #[.int .u32 0, .int .u8 0, .bool false, .int .u8 0]) (.agg #[.int .u32 0, .int .u8 0, .bool false, .int .u8 0])).run Ybaf.prog w = .ok (.bool false) w := by kernel_rfl

theorem elems_after {w w' : World} {a : Option Addr} {n : Nat} {z : List Int} (h : Elems w a n z) (hb : Below w.heap.size w w') (O : Obj) : Elems (w'.alloc O) a n z := by
  intro j hj
  obtain ⟨b, off, h1, h2⟩ := h j hj
  have hlt : b < w.heap.size := World.block_lt_of_cell? w ⟨b, off + j, none⟩ h2
  refine ⟨b, off, h1, ?_⟩
  rw [World.cell?_alloc_past _ _ _ (by have := hb.size; omega), hb.cell (by exact hlt)]
  exact h2

set_option maxRecDepth 20000 in
set_option maxHeartbeats 800000 in
theorem short_any (a0 : Option Addr) (len cap : Nat) (z : List Int) (a : Addr) (w : World) (h : len < 4) (hz : Elems w a0 len z) (hg : w.cell? ⟨0, 0, none⟩ = some (.iface 88 (.pointer (some a))))
    (hp : Calls Ybaf.prog 10 #[.slice a0 len cap] w fun e w' =>
      ∃ E, e = .returned (.tuple #[.agg #[.int .u32 0, .int .u8 0, .bool false, .int .u8 0], .slice a0 len cap, .iface 80 (.pointer (some ⟨E, 0, none⟩))]) ∧
        w'.cell? ⟨E, 1, none⟩ = some (.iface 88 (.pointer (some a))) ∧ E < w'.heap.size ∧ Below w.heap.size w w') :
    Calls Ybaf.prog 6 #[.slice a0 len cap] w fun e w' => e = .returned (.bool true) ∧ Below w.heap.size w w' := by
  have h0 : 0 < w.heap.size := World.block_lt_of_cell? w ⟨0, 0, none⟩ hg
  have HP : Hid (Calls Ybaf.prog 10 #[.slice a0 len cap] w fun e w' =>
      ∃ E, e = .returned (.tuple #[.agg #[.int .u32 0, .int .u8 0, .bool false, .int .u8 0], .slice a0 len cap, .iface 80 (.pointer (some ⟨E, 0, none⟩))]) ∧
        w'.cell? ⟨E, 1, none⟩ = some (.iface 88 (.pointer (some a))) ∧ E < w'.heap.size ∧ Below w.heap.size w w') := hp
  have HZ : Hid (Elems w a0 len z) := hz
  clear hp hz
  go_enter Ybaf.func6, Ybaf.ntmps6
  go_wp2_with fail
  refine Calls.mono HP.out ?_
  rintro e w1 ⟨E, rfl, hE, hlt, hb⟩
  have g0 := (hb.cell (p := ⟨0, 0, none⟩) h0).trans hg
  have h1 : 0 < w1.heap.size := by have := hb.size; omega
  have hne := neq_zero39
  clear HP hg
  go_wp2_with fail
  refine (Is.is_wrap_same E 0 a _ (by rw [World.cell?_alloc_past _ _ _ hlt]; exact hE)).mono ?_
  rintro e w2 ⟨rfl, rfl⟩
  go_wp2_with fail
  refine (bsame_any _ _ len _ _ z _ (by omega) (elems_after HZ.out hb _) (elems_after HZ.out hb _)).mono ?_
  rintro e w2 ⟨rfl, q, rfl⟩
  go_wp2
  go_ret
  exact ⟨rfl, below_drewN (hb.alloc hb.size _) _⟩

theorem parse_two (a0 : Option Addr) (len cap : Nat) (a : Addr) (s : ByteArray) (w : World) (hl : len ≤ 2) (hs : w.cell? a = some (.string s)) (hg : w.cell? ⟨0, 0, none⟩ = some (.iface 88 (.pointer (some a)))) :
    Calls Ybaf.prog 10 #[.slice a0 len cap] w fun e w' =>
      ∃ E, e = .returned (.tuple #[.agg #[.int .u32 0, .int .u8 0, .bool false, .int .u8 0], .slice a0 len cap, .iface 80 (.pointer (some ⟨E, 0, none⟩))]) ∧
        w'.cell? ⟨E, 1, none⟩ = some (.iface 88 (.pointer (some a))) ∧ E < w'.heap.size ∧ Below w.heap.size w w' := by
  have ha : a.block < w.heap.size := World.block_lt_of_cell? w a hs
  refine parse_fail a0 len cap 0 0 0 false a w (readLabel_none (w.heap.size + 1) a0 len cap a s _ (rd_new _ _ _ _ _ _ _ (by simp)) hl ?_ (by omega) ?_ (by omega))
  · rw [World.cell?_alloc_lt _ _ _ (by simp; omega), World.cell?_alloc_lt _ _ _ (by omega)]; exact hs
  · have h0 : 0 < w.heap.size := World.block_lt_of_cell? w ⟨0, 0, none⟩ hg
    rw [World.cell?_alloc_past _ _ _ (by simp), World.cell?_alloc_past _ _ _ h0]; exact hg

theorem parse_three (b off len cap : Nat) (z0 z1 z2 : Int) (a : Addr) (s : ByteArray) (w : World) (hl : len = 3) (hcap : len ≤ cap)
    (d0 : w.cell? ⟨b, off, none⟩ = some (.int .u8 z0)) (d1 : w.cell? ⟨b, off + 1, none⟩ = some (.int .u8 z1)) (d2 : w.cell? ⟨b, off + 2, none⟩ = some (.int .u8 z2))
    (h0 : 0 ≤ z0 ∧ z0 ≤ 255) (h1 : 0 ≤ z1 ∧ z1 ≤ 255) (h2 : 0 ≤ z2 ∧ z2 ≤ 255) (hs : w.cell? a = some (.string s)) (hg : w.cell? ⟨0, 0, none⟩ = some (.iface 88 (.pointer (some a)))) :
    Calls Ybaf.prog 10 #[.slice (some ⟨b, off, none⟩) len cap] w fun e w' =>
      ∃ E, e = .returned (.tuple #[.agg #[.int .u32 0, .int .u8 0, .bool false, .int .u8 0], .slice (some ⟨b, off, none⟩) len cap, .iface 80 (.pointer (some ⟨E, 0, none⟩))]) ∧
        w'.cell? ⟨E, 1, none⟩ = some (.iface 88 (.pointer (some a))) ∧ E < w'.heap.size ∧ Below w.heap.size w w' := by
  have ha : a.block < w.heap.size := World.block_lt_of_cell? w a hs
  have hb : b < w.heap.size := World.block_lt_of_cell? w ⟨b, off, none⟩ d0
  have old : ∀ (o1 o2 : Obj) (o : Nat) (u : Value), w.cell? ⟨b, o, none⟩ = some u → ((w.alloc o1).alloc o2).cell? ⟨b, o, none⟩ = some u := by
    intro o1 o2 o u h
    rw [World.cell?_alloc_past _ _ _ (by simp; omega), World.cell?_alloc_past _ _ _ hb]; exact h
  refine parse_fail _ len cap _ _ 0 _ a w (readLabel_three (w.heap.size + 1) b off len cap z0 z1 z2 a s _ (rd_new _ _ _ _ _ _ _ (by simp)) hl hcap (by omega) (old _ _ _ _ d0) (old _ _ _ _ d1) (old _ _ _ _ d2) h0 h1 h2 ?_ (by omega) ?_ (by omega))
  · rw [World.cell?_alloc_lt _ _ _ (by simp; omega), World.cell?_alloc_lt _ _ _ (by omega)]; exact hs
  · have h0 : 0 < w.heap.size := World.block_lt_of_cell? w ⟨0, 0, none⟩ hg
    rw [World.cell?_alloc_past _ _ _ (by simp), World.cell?_alloc_past _ _ _ h0]; exact hg
end Go.Proofs.YbulkanseFmt.Wk
