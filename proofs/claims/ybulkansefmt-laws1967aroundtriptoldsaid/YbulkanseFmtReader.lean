import Derived.Test.YbulkanseFmtTake
namespace Go.Proofs.YbulkanseFmt.Wk
open Go.RowKit

/-- THE READER: its block, cell by cell: the octets left, how many bits of the first are read, cut short?, the prefix, no TLV, no sub-TLV, the error, nobody to show the fields to. -/
def Rd (w : World) (rb : Nat) (v : Value) (k : Int) (sh : Bool) (pf : ByteArray) (er : Value) : Prop :=
  w.heap[rb]? = some (.cells #[v, .int .i64 k, .bool sh, .string pf, .int .i64 0, .int .i64 0, er, .nilFunc] 53 (0, 0))

section
variable {w : World} {rb : Nat} {v : Value} {k : Int} {sh : Bool} {pf : ByteArray} {er : Value}
theorem Rd.c0 (h : Rd w rb v k sh pf er) : w.cell? ⟨rb, 0, none⟩ = some v := by rw [cell_of_row w rb 0 _ _ _ h]; rfl
theorem Rd.c1 (h : Rd w rb v k sh pf er) : w.cell? ⟨rb, 1, none⟩ = some (.int .i64 k) := by rw [cell_of_row w rb 1 _ _ _ h]; rfl
theorem Rd.c2 (h : Rd w rb v k sh pf er) : w.cell? ⟨rb, 2, none⟩ = some (.bool sh) := by rw [cell_of_row w rb 2 _ _ _ h]; rfl
theorem Rd.c3 (h : Rd w rb v k sh pf er) : w.cell? ⟨rb, 3, none⟩ = some (.string pf) := by rw [cell_of_row w rb 3 _ _ _ h]; rfl
theorem Rd.c4 (h : Rd w rb v k sh pf er) : w.cell? ⟨rb, 4, none⟩ = some (.int .i64 0) := by rw [cell_of_row w rb 4 _ _ _ h]; rfl
theorem Rd.c5 (h : Rd w rb v k sh pf er) : w.cell? ⟨rb, 5, none⟩ = some (.int .i64 0) := by rw [cell_of_row w rb 5 _ _ _ h]; rfl
theorem Rd.c6 (h : Rd w rb v k sh pf er) : w.cell? ⟨rb, 6, none⟩ = some er := by rw [cell_of_row w rb 6 _ _ _ h]; rfl
theorem Rd.c7 (h : Rd w rb v k sh pf er) : w.cell? ⟨rb, 7, none⟩ = some .nilFunc := by rw [cell_of_row w rb 7 _ _ _ h]; rfl
theorem Rd.fz (h : Rd w rb v k sh pf er) (o : Nat) : w.frozen? ⟨rb, o, none⟩ = false := frozen_of_row w rb o _ _ h
theorem Rd.lt (h : Rd w rb v k sh pf er) : rb < w.heap.size := (Array.getElem?_eq_some_iff.1 h).1

theorem Rd.set01 (h : Rd w rb v k sh pf er) (v' : Value) (k' : Int) (q : Nat) : Rd (((w.setCell ⟨rb, 0, none⟩ v').setCell ⟨rb, 1, none⟩ (.int .i64 k')).drewN q) rb v' k' sh pf er :=
  heap_setCell_same _ rb 1 _ _ _ (heap_setCell_same w rb 0 _ _ v' h)
theorem Rd.set3 (h : Rd w rb v k sh pf er) (p' : ByteArray) : Rd (w.setCell ⟨rb, 3, none⟩ (.string p')) rb v k sh p' er := heap_setCell_same w rb 3 _ _ _ h
theorem Rd.other (h : Rd w rb v k sh pf er) (c o : Nat) (hc : c ≠ rb) (u : Value) : Rd (w.setCell ⟨c, o, none⟩ u) rb v k sh pf er :=
  (heap_setCell_other w ⟨c, o, none⟩ rb u (by intro e; exact hc e.symm)).trans h
theorem Rd.alloc (h : Rd w rb v k sh pf er) (O : Obj) : Rd (w.alloc O) rb v k sh pf er := (Below.heap_alloc w O rb h.lt).trans h
theorem Rd.drewN (h : Rd w rb v k sh pf er) (q : Nat) : Rd (w.drewN q) rb v k sh pf er := h

theorem grown01 (w : World) (rb : Nat) (u1 u2 : Value) (o1 o2 q : Nat) : w.grownBy (((w.setCell ⟨rb, o1, none⟩ u1).setCell ⟨rb, o2, none⟩ u2).drewN q) (some rb) :=
  ⟨rfl, rfl, rfl, by simp, fun j _ hj => (heap_setCell_other _ ⟨rb, o2, none⟩ j u2 (fun e => hj (by rw [e]))).trans (heap_setCell_other _ ⟨rb, o1, none⟩ j u1 (fun e => hj (by rw [e])))⟩
end

theorem grown_trans {a b c : World} {r : Option Nat} (h : a.grownBy b r) (k : b.grownBy c r) : a.grownBy c r :=
  ⟨k.os.trans h.os, k.tape.trans h.tape, k.output.trans h.output, Nat.le_trans h.size k.size, fun i hi hr => (k.block i (Nat.lt_of_lt_of_le hi h.size) hr).trans (h.block i hi hr)⟩
/-- A store into a block that is new, or the reader's, or a new block: what was there is as it was but for the reader. -/
theorem grown_new {a b : World} {r : Option Nat} (h : a.grownBy b r) (c o : Nat) (hc : a.heap.size ≤ c) (u : Value) : a.grownBy (b.setCell ⟨c, o, none⟩ u) r :=
  ⟨h.os, h.tape, h.output, by have := h.size; simpa using this, fun i hi hr => (heap_setCell_other b ⟨c, o, none⟩ i u (by show i ≠ c; omega)).trans (h.block i hi hr)⟩
theorem grown_own {a b : World} {r : Nat} (h : a.grownBy b (some r)) (o : Nat) (u : Value) : a.grownBy (b.setCell ⟨r, o, none⟩ u) (some r) :=
  ⟨h.os, h.tape, h.output, by have := h.size; simpa using this, fun i hi hr => (heap_setCell_other b ⟨r, o, none⟩ i u (by show i ≠ r; intro e; exact hr (by rw [e]))).trans (h.block i hi hr)⟩
theorem grown_alloc {a b : World} {r : Option Nat} (h : a.grownBy b r) (O : Obj) : a.grownBy (b.alloc O) r :=
  ⟨h.os, h.tape, h.output, by have := h.size; simp; omega, fun i hi hr => (Below.heap_alloc b O i (Nat.lt_of_lt_of_le hi h.size)).trans (h.block i hi hr)⟩
theorem grown_refl (a : World) (r : Option Nat) : a.grownBy a r := ⟨rfl, rfl, rfl, Nat.le_refl _, fun _ _ _ => rfl⟩
theorem grown_drewN {a b : World} {r : Option Nat} (h : a.grownBy b r) (q : Nat) : a.grownBy (b.drewN q) r := ⟨h.os, h.tape, h.output, h.size, h.block⟩

theorem uint_label (rb b off len cap : Nat) (name : ByteArray) (z0 z1 z2 : Int) (w : World) (sh : Bool) (pf : ByteArray) (hr : Rd w rb (.slice (some ⟨b, off, none⟩) len cap) 0 sh pf .nilIface)
    (hl : 3 ≤ len) (hl2 : len ≤ 1024) (hcap : len ≤ cap) (d0 : w.cell? ⟨b, off, none⟩ = some (.int .u8 z0)) (d1 : w.cell? ⟨b, off + 1, none⟩ = some (.int .u8 z1)) (d2 : w.cell? ⟨b, off + 2, none⟩ = some (.int .u8 z2))
    (h0 : 0 ≤ z0 ∧ z0 ≤ 255) (h1 : 0 ≤ z1 ∧ z1 ≤ 255) (h2 : 0 ≤ z2 ∧ z2 ≤ 255) :
    Calls Ybaf.prog 22 #[.pointer (some ⟨rb, 0, none⟩), .string name, .int .i64 20] w fun e w' =>
      e = .returned (.int .u64 (z0 * 4096 + z1 * 16 + z2 / 16)) ∧ Rd w' rb (.slice (some ⟨b, off + 2, none⟩) (len - 2) (cap - 2)) 4 sh pf .nilIface ∧ w.grownBy w' (some rb) := by
  refine (uint_ok rb name 20 _ w _ ?_ (take_label rb b off len cap name z0 z1 z2 w hl hl2 hcap hr.c0 hr.c1 hr.c6 (hr.fz 0) (hr.fz 1) d0 d1 d2 h0 h1 h2)).mono ?_
  · exact (hr.set01 _ _ 0).c7
  · rintro e w' ⟨rfl, q, rfl⟩
    exact ⟨rfl, hr.set01 _ _ q, grown01 _ _ _ _ _ _ _⟩

theorem uint_tc (rb b off len cap : Nat) (name : ByteArray) (z : Int) (w : World) (sh : Bool) (pf : ByteArray) (hr : Rd w rb (.slice (some ⟨b, off, none⟩) len cap) 4 sh pf .nilIface)
    (hl : 1 ≤ len) (hl2 : len ≤ 1025) (hcap : len ≤ cap) (d0 : w.cell? ⟨b, off, none⟩ = some (.int .u8 z)) (h0 : 0 ≤ z ∧ z ≤ 255) :
    Calls Ybaf.prog 22 #[.pointer (some ⟨rb, 0, none⟩), .string name, .int .i64 3] w fun e w' =>
      e = .returned (.int .u64 (z / 2 % 8)) ∧ Rd w' rb (.slice (some ⟨b, off, none⟩) len cap) 7 sh pf .nilIface ∧ w.grownBy w' (some rb) := by
  refine (uint_ok rb name 3 _ w _ ?_ (take_tc rb b off len cap name z w hl hl2 hcap hr.c0 hr.c1 hr.c6 (hr.fz 0) (hr.fz 1) d0 h0)).mono ?_
  · exact (hr.set01 _ _ 0).c7
  · rintro e w' ⟨rfl, q, rfl⟩
    exact ⟨rfl, hr.set01 _ _ q, grown01 _ _ _ _ _ _ _⟩

theorem uint_s (rb b off len cap : Nat) (name : ByteArray) (z : Int) (w : World) (sh : Bool) (pf : ByteArray) (hr : Rd w rb (.slice (some ⟨b, off, none⟩) len cap) 7 sh pf .nilIface)
    (hl : 1 ≤ len) (hl2 : len ≤ 1025) (hcap : len ≤ cap) (d0 : w.cell? ⟨b, off, none⟩ = some (.int .u8 z)) (h0 : 0 ≤ z ∧ z ≤ 255) :
    Calls Ybaf.prog 22 #[.pointer (some ⟨rb, 0, none⟩), .string name, .int .i64 1] w fun e w' =>
      e = .returned (.int .u64 (z % 2)) ∧ Rd w' rb (.slice (some (adv b off cap)) (len - 1) (cap - 1)) 0 sh pf .nilIface ∧ w.grownBy w' (some rb) := by
  refine (uint_ok rb name 1 _ w _ ?_ (take_s rb b off len cap name z w hl hl2 hcap hr.c0 hr.c1 hr.c6 (hr.fz 0) (hr.fz 1) d0 h0)).mono ?_
  · exact (hr.set01 _ _ 0).c7
  · rintro e w' ⟨rfl, q, rfl⟩
    exact ⟨rfl, hr.set01 _ _ q, grown01 _ _ _ _ _ _ _⟩

theorem uint_ttl (rb b off len cap : Nat) (name : ByteArray) (z : Int) (w : World) (sh : Bool) (pf : ByteArray) (hr : Rd w rb (.slice (some ⟨b, off, none⟩) len cap) 0 sh pf .nilIface)
    (hl : 1 ≤ len) (hl2 : len ≤ 1025) (hcap : len ≤ cap) (d0 : w.cell? ⟨b, off, none⟩ = some (.int .u8 z)) (h0 : 0 ≤ z ∧ z ≤ 255) :
    Calls Ybaf.prog 22 #[.pointer (some ⟨rb, 0, none⟩), .string name, .int .i64 8] w fun e w' =>
      e = .returned (.int .u64 (z)) ∧ Rd w' rb (.slice (some (adv b off cap)) (len - 1) (cap - 1)) 0 sh pf .nilIface ∧ w.grownBy w' (some rb) := by
  refine (uint_ok rb name 8 _ w _ ?_ (take_ttl rb b off len cap name z w hl hl2 hcap hr.c0 hr.c1 hr.c6 (hr.fz 0) (hr.fz 1) d0 h0)).mono ?_
  · exact (hr.set01 _ _ 0).c7
  · rintro e w' ⟨rfl, q, rfl⟩
    exact ⟨rfl, hr.set01 _ _ q, grown01 _ _ _ _ _ _ _⟩

theorem uint_m (rb b off len cap : Nat) (name : ByteArray) (z : Int) (w : World) (sh : Bool) (pf : ByteArray) (hr : Rd w rb (.slice (some ⟨b, off, none⟩) len cap) 0 sh pf .nilIface)
    (hl : 1 ≤ len) (hl2 : len ≤ 1025) (hcap : len ≤ cap) (d0 : w.cell? ⟨b, off, none⟩ = some (.int .u8 z)) (h0 : 0 ≤ z ∧ z ≤ 255) :
    Calls Ybaf.prog 22 #[.pointer (some ⟨rb, 0, none⟩), .string name, .int .i64 1] w fun e w' =>
      e = .returned (.int .u64 (z / 128)) ∧ Rd w' rb (.slice (some ⟨b, off, none⟩) len cap) 1 sh pf .nilIface ∧ w.grownBy w' (some rb) := by
  refine (uint_ok rb name 1 _ w _ ?_ (take_m rb b off len cap name z w hl hl2 hcap hr.c0 hr.c1 hr.c6 (hr.fz 0) (hr.fz 1) d0 h0)).mono ?_
  · exact (hr.set01 _ _ 0).c7
  · rintro e w' ⟨rfl, q, rfl⟩
    exact ⟨rfl, hr.set01 _ _ q, grown01 _ _ _ _ _ _ _⟩

theorem uint_res (rb b off len cap : Nat) (name : ByteArray) (z : Int) (w : World) (sh : Bool) (pf : ByteArray) (hr : Rd w rb (.slice (some ⟨b, off, none⟩) len cap) 1 sh pf .nilIface)
    (hl : 1 ≤ len) (hl2 : len ≤ 1025) (hcap : len ≤ cap) (d0 : w.cell? ⟨b, off, none⟩ = some (.int .u8 z)) (h0 : 0 ≤ z ∧ z ≤ 255) :
    Calls Ybaf.prog 22 #[.pointer (some ⟨rb, 0, none⟩), .string name, .int .i64 7] w fun e w' =>
      e = .returned (.int .u64 (z % 128)) ∧ Rd w' rb (.slice (some (adv b off cap)) (len - 1) (cap - 1)) 0 sh pf .nilIface ∧ w.grownBy w' (some rb) := by
  refine (uint_ok rb name 7 _ w _ ?_ (take_res rb b off len cap name z w hl hl2 hcap hr.c0 hr.c1 hr.c6 (hr.fz 0) (hr.fz 1) d0 h0)).mono ?_
  · exact (hr.set01 _ _ 0).c7
  · rintro e w' ⟨rfl, q, rfl⟩
    exact ⟨rfl, hr.set01 _ _ q, grown01 _ _ _ _ _ _ _⟩

end Go.Proofs.YbulkanseFmt.Wk
