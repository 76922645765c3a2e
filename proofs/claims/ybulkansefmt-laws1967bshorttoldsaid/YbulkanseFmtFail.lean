import Derived.Test.YbulkanseFmtFacts
import Derived.Test.YbulkanseFmtLabel
import Derived.Laws.EntriesVeiled
namespace Go.Proofs.YbulkanseFmt.Wk
open Go.RowKit Go.Extern.Stop Go.Stop Go.Extern

theorem ptr80 (w : World) : (FmtStop.ptrTo "fmt.wrapError").run Ybaf.prog w = .ok 80 w := by kernel_rfl
theorem elem80 (w : World) : (elemOf 80).run Ybaf.prog w = .ok 138 w := by kernel_rfl
theorem isError80 (w : World) : (FmtDoors.textMethod 80 "Error").run Ybaf.prog w = .ok true w := by kernel_rfl
/-- The sentinel as an operand of %w: it reads as its type's name and its text, out of memory. -/
theorem op88_119w (name : String) (a : Addr) (s : ByteArray) (w : World) (hc : w.cell? a = some (.string s)) :
    ∃ sh, (FmtStop.operand name true 119 false (.iface 88 (.pointer (some a)))).run Ybaf.prog w = .ok (sh, s.data.toList) w := by
  have h1 : (typeStr 88).run Ybaf.prog w = .ok Ybaf.t88.str w := by kernel_rfl
  have d2 : Ybaf.t88.desc = .pointer 90 := rfl
  have d3 : Ybaf.t90.desc = .named "errors.errorString" 89 := rfl
  refine ⟨14 :: FmtStop.pack Ybaf.t88.str.toUTF8.data.toList, ?_⟩
  simp [FmtStop.operand, h1, d2, d3, run_load, hc]

section
attribute [local go_sem] Fm.call24 Fm.guard Fm.fmt1 Fm.fmt1r Fm.op9_115w Fm.isError88 ptr80 elem80 isError80

set_option maxRecDepth 20000 in
set_option maxHeartbeats 400000 in
theorem errorf2 (nm : ByteArray) (a : Addr) (s : ByteArray) (blk : Nat) (w : World)
    (hc0 : w.cell? ⟨blk, 0, none⟩ = some (.iface 9 (.string nm))) (hc1 : w.cell? ⟨blk, 1, none⟩ = some (.iface 88 (.pointer (some a)))) (hs : w.cell? a = some (.string s)) :
    Calls Ybaf.prog 19 #[.string ⟨#[37, 115, 58, 32, 37, 119]⟩, .slice (some ⟨blk, 0, none⟩) 2 2] w fun e w' =>
      e = .returned (.iface 80 (.pointer (some ⟨w.heap.size, 0, none⟩))) ∧ w'.cell? ⟨w.heap.size, 1, none⟩ = some (.iface 88 (.pointer (some a))) ∧ w.heap.size < w'.heap.size ∧ Below w.heap.size w w' := by
  obtain ⟨sh, hop⟩ := op88_119w "fmt.errorf" a s w hs
  go_enter Ybaf.func19, Ybaf.ntmps19
  go_wp2
  go_ret
  exact ⟨rfl, by simp, by simp, ((Below.refl _ _).alloc (Nat.le_refl _) _).drew⟩
end

set_option maxRecDepth 20000 in
set_option maxHeartbeats 400000 in
theorem name_ok (rb : Nat) (v : Value) (k : Int) (sh : Bool) (pf field : ByteArray) (er : Value) (w : World) (hr : Rd w rb v k sh pf er) (hp : pf.size ≤ 100) (hf : field.size ≤ 100) :
    Calls Ybaf.prog 32 #[.pointer (some ⟨rb, 0, none⟩), .string field] w fun e w' => e = .returned (.string (pf ++ field)) ∧ w' = w := by
  have c5 := hr.c5
  have c4 := hr.c4
  have c3 := hr.c3
  go_enter Ybaf.func32, Ybaf.ntmps32
  go_wp2
  go_ret
  exact ⟨rfl, rfl⟩

/-- '(*reader).fail', where nothing has failed before: the reader's error is a new *fmt.wrapError round the sentinel. -/
theorem Rd.set6 {w : World} {rb : Nat} {v : Value} {k : Int} {sh : Bool} {pf : ByteArray} {er : Value} (h : Rd w rb v k sh pf er) (u : Value) : Rd (w.setCell ⟨rb, 6, none⟩ u) rb v k sh pf u := heap_setCell_same w rb 6 _ _ u h
theorem Rd.below {w w' : World} {rb : Nat} {v : Value} {k : Int} {sh : Bool} {pf : ByteArray} {er : Value} (h : Rd w rb v k sh pf er) (hb : Below w.heap.size w w') : Rd w' rb v k sh pf er := (hb.block rb h.lt).trans h

set_option maxRecDepth 20000 in
set_option maxHeartbeats 400000 in
theorem fail_ok (rb : Nat) (v : Value) (k : Int) (sh : Bool) (pf field : ByteArray) (a : Addr) (s : ByteArray) (w : World) (hr : Rd w rb v k sh pf .nilIface) (hp : pf.size ≤ 100) (hf : field.size ≤ 100)
    (hs : w.cell? a = some (.string s)) :
    Calls Ybaf.prog 26 #[.pointer (some ⟨rb, 0, none⟩), .string field, .iface 88 (.pointer (some a))] w fun e w' =>
      e = .returned (.tuple #[]) ∧ ∃ E, w.heap.size ≤ E ∧ E < w'.heap.size ∧ Rd w' rb v k sh pf (.iface 80 (.pointer (some ⟨E, 0, none⟩))) ∧ w'.cell? ⟨E, 1, none⟩ = some (.iface 88 (.pointer (some a))) ∧ w.grownBy w' (some rb) := by
  have c6 := hr.c6
  have rlt := hr.lt
  have HR : Hid (Rd w rb v k sh pf .nilIface) := hr
  clear hr
  go_enter Ybaf.func26, Ybaf.ntmps26
  go_wp2_with fail
  refine (name_ok rb v k sh pf field .nilIface _ HR.out hp hf).mono ?_
  rintro e w1 ⟨rfl, rfl⟩
  go_wp2_with fail
  refine (errorf2 (pf ++ field) a s w1.heap.size _ (by simp) (by simp) (by rw [World.cell?_alloc_lt _ _ _ (World.block_lt_of_cell? w1 a hs)]; exact hs)).mono ?_
  rintro e w2 ⟨rfl, hE, hlt, hb⟩
  have R2 : Rd w2 rb v k sh pf .nilIface := (HR.out.alloc _).below hb
  have k6 := R2.c6
  have f6 := R2.fz 6
  have HR2 : Hid (Rd w2 rb v k sh pf .nilIface) := R2
  have hlt2 : w1.heap.size + 1 < w2.heap.size := by simpa using hlt
  clear R2 c6
  go_wp2
  go_end0
  refine ⟨rfl, w1.heap.size + 1, by omega, by simpa using hlt2, HR2.out.set6 _, ?_, ?_⟩
  · rw [World.cell?_setCell_other _ _ _ _ (by intro e; injection e with e1 e2; omega)]
    simpa using hE
  · refine grown_own ?_ _ _
    have hbel : Below w1.heap.size w1 w2 := ((Below.refl _ _).alloc (Nat.le_refl _) _).trans (hb.mono (by simp))
    exact ⟨hbel.os, hbel.tape, hbel.output, hbel.size, fun j hj _ => hbel.block j hj⟩

/-- A read that has failed leaves this: the error wraps the sentinel; what was there is as it was but for the reader. -/
def Failed (w w' : World) (rb : Nat) (v : Value) (k : Int) (sh : Bool) (pf : ByteArray) (a : Addr) : Prop :=
  ∃ E, w.heap.size ≤ E ∧ E < w'.heap.size ∧ Rd w' rb v k sh pf (.iface 80 (.pointer (some ⟨E, 0, none⟩))) ∧ w'.cell? ⟨E, 1, none⟩ = some (.iface 88 (.pointer (some a))) ∧ w.grownBy w' (some rb)

set_option maxRecDepth 20000 in
set_option maxHeartbeats 400000 in
theorem take_fail (rb : Nat) (a0 : Option Addr) (len cap : Nat) (width : Int) (sh : Bool) (pf field : ByteArray) (a : Addr) (s : ByteArray) (w : World) (hr : Rd w rb (.slice a0 len cap) 0 sh pf .nilIface) (hp : pf.size ≤ 100) (hf : field.size ≤ 100)
    (hs : w.cell? a = some (.string s)) (hg : w.cell? ⟨0, 0, none⟩ = some (.iface 88 (.pointer (some a)))) (hw : (len : Int) * 8 < width) (hw2 : width ≤ 64) :
    Calls Ybaf.prog 27 #[.pointer (some ⟨rb, 0, none⟩), .string field, .int .i64 width] w fun e w' =>
      e = .returned (.tuple #[.int .u64 0, .bool false]) ∧ Failed w w' rb (.slice a0 len cap) 0 sh pf a := by
  have c0 := hr.c0
  have c1 := hr.c1
  have c6 := hr.c6
  have HR : Hid (Rd w rb (.slice a0 len cap) 0 sh pf .nilIface) := hr
  clear hr
  go_enter Ybaf.func27, Ybaf.ntmps27
  go_wp2_with fail
  refine (fail_ok rb _ 0 sh pf field a s _ HR.out hp hf hs).mono ?_
  rintro e w1 ⟨rfl, hE⟩
  go_wp2
  go_ret2
  exact ⟨rfl, hE⟩

set_option maxRecDepth 20000 in
set_option maxHeartbeats 400000 in
theorem take_err (rb : Nat) (v : Value) (k width : Int) (sh : Bool) (pf field : ByteArray) (x : Value) (w : World) (hr : Rd w rb v k sh pf (.iface 80 x)) :
    Calls Ybaf.prog 27 #[.pointer (some ⟨rb, 0, none⟩), .string field, .int .i64 width] w fun e w' =>
      e = .returned (.tuple #[.int .u64 0, .bool false]) ∧ w' = w := by
  have c6 := hr.c6
  clear hr
  go_enter Ybaf.func27, Ybaf.ntmps27
  go_wp2
  go_ret2
  exact ⟨rfl, rfl⟩

set_option maxRecDepth 20000 in
/-- '(*reader).uint' where 'take' has failed: zero. -/
theorem uint_no (rb : Nat) (name : ByteArray) (width : Int) (w : World) (Q : World → Prop)
    (ht : Calls Ybaf.prog 27 #[.pointer (some ⟨rb, 0, none⟩), .string name, .int .i64 width] w fun e w' => e = .returned (.tuple #[.int .u64 0, .bool false]) ∧ Q w') :
    Calls Ybaf.prog 22 #[.pointer (some ⟨rb, 0, none⟩), .string name, .int .i64 width] w fun e w' => e = .returned (.int .u64 0) ∧ Q w' := by
  go_enter Ybaf.func22, Ybaf.ntmps22
  go_wp2_with fail
  refine Calls.mono ht ?_
  rintro e w2 ⟨rfl, hq⟩
  clear ht
  go_wp2
  go_ret
  exact ⟨rfl, hq⟩
end Go.Proofs.YbulkanseFmt.Wk
