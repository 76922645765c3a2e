import Derived.Test.YbulkanseFmtReader
import Derived.Laws.EntriesVeiled
import Derived.BigRegion
namespace Go.Proofs.YbulkanseFmt.Wk
open Go.RowKit

theorem Rd.set0 {w : World} {rb : Nat} {v : Value} {k : Int} {sh : Bool} {pf : ByteArray} {er : Value} (h : Rd w rb v k sh pf er) (u : Value) : Rd (w.setCell ⟨rb, 0, none⟩ u) rb u k sh pf er := heap_setCell_same w rb 0 _ _ u h

/-- The reader has used up its octets; what was there is as it was but for the reader. -/
def Drained (w w' : World) (rb : Nat) (sh : Bool) (pf : ByteArray) : Prop := ∃ x c, Rd w' rb (.slice (some x) 0 c) 0 sh pf .nilIface ∧ w.grownBy w' (some rb)

set_option maxRecDepth 20000 in
set_option maxHeartbeats 400000 in
/-- '(*reader).octets' where it takes all that is left. -/
theorem octets_all (rb b off n cap : Nat) (sh : Bool) (pf field : ByteArray) (w : World) (hr : Rd w rb (.slice (some ⟨b, off, none⟩) n cap) 0 sh pf .nilIface) (hn : n ≤ cap) :
    Calls Ybaf.prog 30 #[.pointer (some ⟨rb, 0, none⟩), .string field, .int .i64 n] w fun e w' => e = .returned (.slice (some ⟨b, off, none⟩) n cap) ∧ Drained w w' rb sh pf := by
  have c0 := hr.c0
  have c6 := hr.c6
  have f0 := hr.fz 0
  have HR : Hid (Rd w rb (.slice (some ⟨b, off, none⟩) n cap) 0 sh pf .nilIface) := hr
  clear hr
  go_enter Ybaf.func30, Ybaf.ntmps30
  go_wp2
  all_goals
    go_ret
    exact ⟨rfl, _, _, HR.out.set0 _, grown_own (grown_refl _ _) _ _⟩

set_option maxRecDepth 20000 in
set_option maxHeartbeats 400000 in
theorem rest_all (rb b off n cap : Nat) (pf field : ByteArray) (w : World) (hr : Rd w rb (.slice (some ⟨b, off, none⟩) n cap) 0 false pf .nilIface) (hn : n ≤ cap) :
    Calls Ybaf.prog 23 #[.pointer (some ⟨rb, 0, none⟩), .string field] w fun e w' => e = .returned (.slice (some ⟨b, off, none⟩) n cap) ∧ Drained w w' rb false pf := by
  have c0 := hr.c0
  have c2 := hr.c2
  have hnf := neq_nilFunc
  have HR : Hid (Rd w rb (.slice (some ⟨b, off, none⟩) n cap) 0 false pf .nilIface) := hr
  clear hr
  go_enter Ybaf.func23, Ybaf.ntmps23
  go_wp2_with fail
  refine (octets_all rb b off n cap false pf field _ HR.out hn).mono ?_
  rintro e w1 ⟨rfl, x, c, R1, G1⟩
  have d6 := R1.c6
  have d7 := R1.c7
  have HR1 : Hid (Rd w1 rb (.slice (some x) 0 c) 0 false pf .nilIface) := R1
  clear R1 c0 c2
  go_wp2
  go_ret
  exact ⟨rfl, x, c, HR1.out, G1⟩

set_option maxRecDepth 20000 in
set_option maxHeartbeats 400000 in
/-- '(*reader).close' where all is well: it does nothing. -/
theorem close_ok (rb cb : Nat) (v : Value) (k k' : Int) (sh : Bool) (pf pf' name : ByteArray) (a : Addr) (cap : Nat) (w : World) (hr : Rd w rb v k sh pf .nilIface) (hc : Rd w cb (.slice (some a) 0 cap) k' false pf' .nilIface) :
    Calls Ybaf.prog 21 #[.pointer (some ⟨rb, 0, none⟩), .pointer (some ⟨cb, 0, none⟩), .string name] w fun e w' => e = .returned (.tuple #[]) ∧ w' = w := by
  have c6 := hr.c6
  have d6 := hc.c6
  have d2 := hc.c2
  have d0 := hc.c0
  clear hr hc
  go_enter Ybaf.func21, Ybaf.ntmps21
  go_wp2
  go_end0
  exact ⟨rfl, rfl⟩

set_option maxRecDepth 20000 in
set_option maxHeartbeats 800000 in
/-- '(*reader).within' over all octets that are left. -/
theorem within_all (rb b off n cap : Nat) (w : World) (hr : Rd w rb (.slice (some ⟨b, off, none⟩) n cap) 0 false ⟨#[]⟩ .nilIface) (hn : n ≤ cap) (hn2 : n ≤ 1025) :
    Calls Ybaf.prog 20 #[.pointer (some ⟨rb, 0, none⟩), .int .u64 n] w fun e w' =>
      e = .returned (.agg #[.slice (some ⟨b, off, none⟩) n cap, .int .i64 0, .bool false, .string ⟨#[]⟩, .int .i64 0, .int .i64 0, .nilIface, .nilFunc]) ∧ Drained w w' rb false ⟨#[]⟩ := by
  have c0 := hr.c0
  have c1 := hr.c1
  have c2 := hr.c2
  have c3 := hr.c3
  have c4 := hr.c4
  have c5 := hr.c5
  have c6 := hr.c6
  have c7 := hr.c7
  have f0 := hr.fz 0
  have rlt := hr.lt
  have HR : Hid (Rd w rb (.slice (some ⟨b, off, none⟩) n cap) 0 false ⟨#[]⟩ .nilIface) := hr
  clear hr
  by_cases hc : cap = n
  · subst hc
    go_enter Ybaf.func20, Ybaf.ntmps20
    go_wp2
    go_region
    go_wp2
    refine bodyPost_ret (v := .agg #[.slice (some ⟨b, off, none⟩) cap cap, .int .i64 0, .bool false, .string ⟨#[]⟩, .int .i64 0, .int .i64 0, .nilIface, .nilFunc]) (by simp [results, Ybaf.results20, go_sem]) rfl ⟨rfl, ?_⟩
    exact ⟨_, _, (((HR.out.set0 _).alloc _).alloc _).drewN 1, grown_drewN (grown_alloc (grown_alloc (grown_own (grown_refl _ _) _ _) _) _) 1⟩
  · go_enter Ybaf.func20, Ybaf.ntmps20
    go_wp2
    go_region
    go_wp2
    refine bodyPost_ret (v := .agg #[.slice (some ⟨b, off, none⟩) n cap, .int .i64 0, .bool false, .string ⟨#[]⟩, .int .i64 0, .int .i64 0, .nilIface, .nilFunc]) (by simp [results, Ybaf.results20, go_sem]) rfl ⟨rfl, ?_⟩
    exact ⟨_, _, (((HR.out.set0 _).alloc _).alloc _).drewN 1, grown_drewN (grown_alloc (grown_alloc (grown_own (grown_refl _ _) _ _) _) _) 1⟩

/-- A MultipathEntropy of the call's own, cell by cell. -/
def Me (w : World) (k : Nat) (c0 c1 c2 : Value) : Prop := w.heap[k]? = some (.cells #[c0, c1, c2] 31 (0, 0))

section
variable {w : World} {k : Nat} {c0 c1 c2 : Value}
theorem Me.k0 (h : Me w k c0 c1 c2) : w.cell? ⟨k, 0, none⟩ = some c0 := by rw [cell_of_row w k 0 _ _ _ h]; rfl
theorem Me.k1 (h : Me w k c0 c1 c2) : w.cell? ⟨k, 1, none⟩ = some c1 := by rw [cell_of_row w k 1 _ _ _ h]; rfl
theorem Me.k2 (h : Me w k c0 c1 c2) : w.cell? ⟨k, 2, none⟩ = some c2 := by rw [cell_of_row w k 2 _ _ _ h]; rfl
theorem Me.fz (h : Me w k c0 c1 c2) (o : Nat) : w.frozen? ⟨k, o, none⟩ = false := frozen_of_row w k o _ _ h
theorem Me.lt (h : Me w k c0 c1 c2) : k < w.heap.size := (Array.getElem?_eq_some_iff.1 h).1
theorem Me.set0 (h : Me w k c0 c1 c2) (u : Value) : Me (w.setCell ⟨k, 0, none⟩ u) k u c1 c2 := heap_setCell_same w k 0 _ _ u h
theorem Me.set1 (h : Me w k c0 c1 c2) (u : Value) : Me (w.setCell ⟨k, 1, none⟩ u) k c0 u c2 := heap_setCell_same w k 1 _ _ u h
theorem Me.other (h : Me w k c0 c1 c2) (c o : Nat) (hc : c ≠ k) (u : Value) : Me (w.setCell ⟨c, o, none⟩ u) k c0 c1 c2 :=
  (heap_setCell_other w ⟨c, o, none⟩ k u (by intro e; exact hc e.symm)).trans h
theorem Me.grown {w' : World} {r : Nat} (h : Me w k c0 c1 c2) (hg : w.grownBy w' (some r)) (hk : k ≠ r) : Me w' k c0 c1 c2 :=
  (hg.block k h.lt (by intro e; exact hk (Option.some.inj e))).trans h
theorem Me.alloc (h : Me w k c0 c1 c2) (O : Obj) : Me (w.alloc O) k c0 c1 c2 := (Below.heap_alloc w O k h.lt).trans h
theorem me_new (w : World) (n : Nat) (c0 c1 c2 : Value) (hn : n = w.heap.size) : Me (w.alloc (.cells #[c0, c1, c2] 31)) n c0 c1 c2 := by subst hn; exact heap_alloc_new w _
end

theorem adv_shape (b off cap : Nat) : ∃ b' off', adv b off cap = ⟨b', off', none⟩ := by
  unfold adv
  split
  · exact ⟨_, _, rfl⟩
  · exact ⟨_, _, rfl⟩

theorem byte_kept {w w' : World} {rb b o : Nat} {u : Value} (hg : w.grownBy w' (some rb)) (hb : b ≠ rb) (h : w.cell? ⟨b, o, none⟩ = some u) : w'.cell? ⟨b, o, none⟩ = some u :=
  hg.cell h (by intro e; exact hb (Option.some.inj e))

set_option maxRecDepth 20000 in
set_option maxHeartbeats 800000 in
theorem readMultipath_ok (rb b off len cap : Nat) (z : Int) (w : World) (hr : Rd w rb (.slice (some ⟨b, off, none⟩) len cap) 0 false ⟨#[]⟩ .nilIface) (hl : 1 ≤ len) (hl2 : len ≤ 1025) (hcap : len ≤ cap) (hb : b ≠ rb)
    (d0 : w.cell? ⟨b, off, none⟩ = some (.int .u8 z)) (h0 : 0 ≤ z ∧ z ≤ 255) :
    Calls Ybaf.prog 15 #[.pointer (some ⟨rb, 0, none⟩)] w fun e w' =>
      e = .returned (.agg #[.bool (z / 128 == 1), .int .u8 (z % 128), .slice (some (adv b off cap)) (len - 1) (cap - 1)]) ∧ Drained w w' rb false ⟨#[]⟩ := by
  have rlt := hr.lt
  obtain ⟨b', off', ha⟩ := adv_shape b off cap
  rw [ha]
  have HA : Hid (adv b off cap = ⟨b', off', none⟩) := ha
  clear ha
  go_enter Ybaf.func15, Ybaf.ntmps15
  go_wp2_with fail
  have R0 : Rd ((w.alloc (.cells #[.bool false, .int .u8 0, .slice none 0 0] 31)).alloc (.cells #[.bool false, .int .u8 0, .slice none 0 0] 31)) rb (.slice (some ⟨b, off, none⟩) len cap) 0 false ⟨#[]⟩ .nilIface := (hr.alloc _).alloc _
  have A0 : Me ((w.alloc (.cells #[.bool false, .int .u8 0, .slice none 0 0] 31)).alloc (.cells #[.bool false, .int .u8 0, .slice none 0 0] 31)) w.heap.size (.bool false) (.int .u8 0) (.slice none 0 0) := (me_new _ _ _ _ _ rfl).alloc _
  have B0 : Me ((w.alloc (.cells #[.bool false, .int .u8 0, .slice none 0 0] 31)).alloc (.cells #[.bool false, .int .u8 0, .slice none 0 0] 31)) (w.heap.size + 1) (.bool false) (.int .u8 0) (.slice none 0 0) := me_new _ _ _ _ _ (by simp)
  have G0 := grown_alloc (grown_alloc (grown_refl w (some rb)) (.cells #[.bool false, .int .u8 0, .slice none 0 0] 31)) (.cells #[.bool false, .int .u8 0, .slice none 0 0] 31)
  refine (uint_m rb b off len cap _ z _ false _ R0 hl hl2 hcap (byte_kept G0 hb d0) h0).mono ?_
  rintro e w1 ⟨rfl, R1, G1⟩
  have A1 := A0.grown G1 (by omega)
  have B1 := B0.grown G1 (by omega)
  have G01 := grown_trans G0 G1
  have k0 := B1.k0
  have f0 := B1.fz 0
  have HD : Hid (w.cell? ⟨b, off, none⟩ = some (.int .u8 z)) := d0
  clear A0 B0 R0 G0 G1 d0
  go_wp2_with fail
  refine (uint_res rb b off len cap _ z _ false _ (R1.other _ _ (by omega) _) hl hl2 hcap (byte_kept (grown_new G01 _ _ (by omega) _) hb HD.out) h0).mono ?_
  rintro e w2 ⟨rfl, R2, G2⟩
  have A2 := (A1.other _ 0 (by omega) (.bool (z / 128 == 1))).grown G2 (by omega)
  have B2 := (B1.set0 (.bool (z / 128 == 1))).grown G2 (by omega)
  have G02 := grown_trans (grown_new G01 (w.heap.size + 1) 0 (by omega) (.bool (z / 128 == 1))) G2
  have k1 := B2.k1
  have f1 := B2.fz 1
  clear A1 B1 R1 G2 G01 k0 f0
  rw [HA.out] at R2
  go_wp2_with fail
  refine (rest_all rb b' off' (len - 1) (cap - 1) _ _ _ (R2.other _ _ (by omega) _) (by omega)).mono ?_
  rintro e w3 ⟨rfl, x, c, R3, G3⟩
  have A3 := (A2.other _ 1 (by omega) (.int .u8 (z % 128))).grown G3 (by omega)
  have B3 := (B2.set1 (.int .u8 (z % 128))).grown G3 (by omega)
  have G03 := grown_trans (grown_new G02 (w.heap.size + 1) 1 (by omega) (.int .u8 (z % 128))) G3
  have b0 := B3.k0
  have b1 := B3.k1
  have b2 := B3.k2
  have f2 := B3.fz 2
  have a0 := A3.k0
  have a1 := A3.k1
  have a2 := A3.k2
  have af0 := A3.fz 0
  have af1 := A3.fz 1
  have af2 := A3.fz 2
  clear A2 B2 R2 G3 G02 k1 f1 A3 B3
  go_wp2
  refine bodyPost_ret (v := .agg #[.bool (z / 128 == 1), .int .u8 (z % 128), .slice (some ⟨b', off', none⟩) (len - 1) (cap - 1)]) (by simp [results, Ybaf.results15, go_sem, a0, a1, a2]) rfl ⟨rfl, x, c, ?_, ?_⟩
  · exact (((R3.other _ _ (by omega) _).other _ _ (by omega) _).other _ _ (by omega) _).other _ _ (by omega) _
  · exact grown_new (grown_new (grown_new (grown_new G03 _ _ (by omega) _) _ _ (by omega) _) _ _ (by omega) _) _ _ (by omega) _
end Go.Proofs.YbulkanseFmt.Wk
