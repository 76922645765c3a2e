import Derived.Test.YbulkanseFmtRows
import Derived.WalkKit
import Derived.WalkSpells
import Derived.WalkLawsBesides
import Derived.Deep.QuietTactic
import Derived.BigQuiet
import Derived.Laws.BitsAllLaws
namespace Go.Proofs.YbulkanseFmt.Wk
open Go.RowKit

/-! ### The plain laws on bits that the walks want -/
theorem or_u64 (x y : Int) (h1 : 0 ≤ x) (h2 : x < 4294967296) (h3 : 0 ≤ y) (h4 : y ≤ 255) : bits .or .u64 (x * 256) y = x * 256 + y := by
  obtain ⟨X, rfl⟩ := Int.eq_ofNat_of_zero_le h1
  obtain ⟨Y, rfl⟩ := Int.eq_ofNat_of_zero_le h3
  have h := bits_or_u64_nat (X * 256) Y (by omega) (by omega)
  have e := Nat.two_pow_add_eq_or_of_lt (i := 8) (b := Y) (by omega) X
  rw [show X * 256 = 2 ^ 8 * X by omega, ← e] at h
  rw [show ((X : Int) * 256) = ((2 ^ 8 * X : Nat) : Int) by omega, h]
  omega
theorem or_u64_zero (y : Int) (h3 : 0 ≤ y) (h4 : y ≤ 255) : bits .or .u64 0 y = y := by
  have := or_u64 0 y (by omega) (by omega) h3 h4
  simpa using this
theorem and_u64 (x : Int) (k : Nat) (m : Int) (hk : k ≤ 32) (hm : m = ((2 ^ k - 1 : Nat) : Int)) (h1 : 0 ≤ x) (h2 : x < 18446744073709551616) : bits .and .u64 x m = x % (2 ^ k : Nat) := by
  obtain ⟨X, rfl⟩ := Int.eq_ofNat_of_zero_le h1
  have hp : 2 ^ k ≤ 2 ^ 32 := Nat.pow_le_pow_right (by omega) hk
  have h := bits_and_u64_nat X (2 ^ k - 1) (by omega) (by omega)
  rw [Nat.and_two_pow_sub_one_eq_mod] at h
  rw [hm, h]
  omega

/-- Where 's[1:]' begins: a slice that is cut down to no capacity stays where it was. -/
def adv (b off cap : Nat) : Addr := if cap = 1 then ⟨b, off, none⟩ else ⟨b, off + 1, none⟩

set_option maxRecDepth 20000 in
set_option maxHeartbeats 400000 in
theorem take_label (rb b off len cap : Nat) (name : ByteArray) (z0 z1 z2 : Int) (w : World) (hl : 3 ≤ len) (hl2 : len ≤ 1024) (hcap : len ≤ cap)
    (c0 : w.cell? ⟨rb, 0, none⟩ = some (.slice (some ⟨b, off, none⟩) len cap)) (c1 : w.cell? ⟨rb, 1, none⟩ = some (.int .i64 0)) (c6 : w.cell? ⟨rb, 6, none⟩ = some .nilIface)
    (f0 : w.frozen? ⟨rb, 0, none⟩ = false) (f1 : w.frozen? ⟨rb, 1, none⟩ = false)
    (d0 : w.cell? ⟨b, off, none⟩ = some (.int .u8 z0)) (d1 : w.cell? ⟨b, off + 1, none⟩ = some (.int .u8 z1)) (d2 : w.cell? ⟨b, off + 2, none⟩ = some (.int .u8 z2))
    (h0 : 0 ≤ z0 ∧ z0 ≤ 255) (h1 : 0 ≤ z1 ∧ z1 ≤ 255) (h2 : 0 ≤ z2 ∧ z2 ≤ 255) :
    Calls Ybaf.prog 27 #[.pointer (some ⟨rb, 0, none⟩), .string name, .int .i64 20] w fun e w' =>
      e = .returned (.tuple #[.int .u64 (z0 * 4096 + z1 * 16 + z2 / 16), .bool true]) ∧
        ∃ q, w' = ((w.setCell ⟨rb, 0, none⟩ (.slice (some ⟨b, off + 2, none⟩) (len - 2) (cap - 2))).setCell ⟨rb, 1, none⟩ (.int .i64 4)).drewN q := by
  have e0 := or_u64_zero z0 h0.1 h0.2
  have e1 := or_u64 z0 z1 h0.1 (by omega) h1.1 h1.2
  have e2 := or_u64 (z0 * 256 + z1) z2 (by omega) (by omega) h2.1 h2.2
  have e3 : bits .and .u64 (((z0 * 256 + z1) * 256 + z2) / 16) 1048575 = z0 * 4096 + z1 * 16 + z2 / 16 := by
    rw [and_u64 _ 20 _ (by omega) (by decide) (by omega) (by omega)]
    omega
  go_enter Ybaf.func27, Ybaf.ntmps27
  go_wp2
  refine wp_loop_rounds 4 ?_
  rw [rounds_succ]
  go_wp2
  rw [rounds_succ]
  go_wp2
  rw [rounds_succ]
  go_wp2
  rw [rounds_succ]
  go_wp2
  go_quiet (fail)
  go_wp2
  go_ret2
  exact ⟨rfl, nq, rfl⟩

set_option maxRecDepth 20000 in
set_option maxHeartbeats 400000 in
theorem take_tc (rb b off len cap : Nat) (name : ByteArray) (z : Int) (w : World) (hl : 1 ≤ len) (hl2 : len ≤ 1025) (hcap : len ≤ cap)
    (c0 : w.cell? ⟨rb, 0, none⟩ = some (.slice (some ⟨b, off, none⟩) len cap)) (c1 : w.cell? ⟨rb, 1, none⟩ = some (.int .i64 4)) (c6 : w.cell? ⟨rb, 6, none⟩ = some .nilIface)
    (f0 : w.frozen? ⟨rb, 0, none⟩ = false) (f1 : w.frozen? ⟨rb, 1, none⟩ = false) (d0 : w.cell? ⟨b, off, none⟩ = some (.int .u8 z)) (h0 : 0 ≤ z ∧ z ≤ 255) :
    Calls Ybaf.prog 27 #[.pointer (some ⟨rb, 0, none⟩), .string name, .int .i64 3] w fun e w' =>
      e = .returned (.tuple #[.int .u64 (z / 2 % 8), .bool true]) ∧
        ∃ q, w' = ((w.setCell ⟨rb, 0, none⟩ (.slice (some ⟨b, off, none⟩) len cap)).setCell ⟨rb, 1, none⟩ (.int .i64 7)).drewN q := by
  have e0 := or_u64_zero z h0.1 h0.2
  have e3 : bits .and .u64 (z / 2) 7 = z / 2 % 8 := by
    rw [and_u64 _ 3 _ (by omega) (by decide) (by omega) (by omega)]
    omega
  go_enter Ybaf.func27, Ybaf.ntmps27
  go_wp2
  refine wp_loop_rounds 2 ?_
  rw [rounds_succ]
  go_wp2
  rw [rounds_succ]
  go_wp2
  go_quiet (fail)
  go_wp2
  go_ret2
  exact ⟨rfl, nq, rfl⟩

set_option maxRecDepth 20000 in
set_option maxHeartbeats 400000 in
theorem take_s (rb b off len cap : Nat) (name : ByteArray) (z : Int) (w : World) (hl : 1 ≤ len) (hl2 : len ≤ 1025) (hcap : len ≤ cap)
    (c0 : w.cell? ⟨rb, 0, none⟩ = some (.slice (some ⟨b, off, none⟩) len cap)) (c1 : w.cell? ⟨rb, 1, none⟩ = some (.int .i64 7)) (c6 : w.cell? ⟨rb, 6, none⟩ = some .nilIface)
    (f0 : w.frozen? ⟨rb, 0, none⟩ = false) (f1 : w.frozen? ⟨rb, 1, none⟩ = false) (d0 : w.cell? ⟨b, off, none⟩ = some (.int .u8 z)) (h0 : 0 ≤ z ∧ z ≤ 255) :
    Calls Ybaf.prog 27 #[.pointer (some ⟨rb, 0, none⟩), .string name, .int .i64 1] w fun e w' =>
      e = .returned (.tuple #[.int .u64 (z % 2), .bool true]) ∧
        ∃ q, w' = ((w.setCell ⟨rb, 0, none⟩ (.slice (some (adv b off cap)) (len - 1) (cap - 1))).setCell ⟨rb, 1, none⟩ (.int .i64 0)).drewN q := by
  have e0 := or_u64_zero z h0.1 h0.2
  have e3 : bits .and .u64 z 1 = z % 2 := by
    rw [and_u64 _ 1 _ (by omega) (by decide) (by omega) (by omega)]
    omega
  by_cases hc : cap = 1
  · have ha : adv b off cap = ⟨b, off, none⟩ := by simp [adv, hc]
    go_enter Ybaf.func27, Ybaf.ntmps27
    go_wp2
    refine wp_loop_rounds 2 ?_
    rw [rounds_succ]
    go_wp2
    rw [rounds_succ]
    go_wp2
    go_quiet (fail)
    go_wp2
    go_ret2
    exact ⟨rfl, nq, by rw [ha, hc]⟩
  · have ha : adv b off cap = ⟨b, off + 1, none⟩ := by simp [adv, hc]
    go_enter Ybaf.func27, Ybaf.ntmps27
    go_wp2
    refine wp_loop_rounds 2 ?_
    rw [rounds_succ]
    go_wp2
    rw [rounds_succ]
    go_wp2
    go_quiet (fail)
    go_wp2
    go_ret2
    exact ⟨rfl, nq, by rw [ha]⟩

set_option maxRecDepth 20000 in
set_option maxHeartbeats 400000 in
theorem take_ttl (rb b off len cap : Nat) (name : ByteArray) (z : Int) (w : World) (hl : 1 ≤ len) (hl2 : len ≤ 1025) (hcap : len ≤ cap)
    (c0 : w.cell? ⟨rb, 0, none⟩ = some (.slice (some ⟨b, off, none⟩) len cap)) (c1 : w.cell? ⟨rb, 1, none⟩ = some (.int .i64 0)) (c6 : w.cell? ⟨rb, 6, none⟩ = some .nilIface)
    (f0 : w.frozen? ⟨rb, 0, none⟩ = false) (f1 : w.frozen? ⟨rb, 1, none⟩ = false) (d0 : w.cell? ⟨b, off, none⟩ = some (.int .u8 z)) (h0 : 0 ≤ z ∧ z ≤ 255) :
    Calls Ybaf.prog 27 #[.pointer (some ⟨rb, 0, none⟩), .string name, .int .i64 8] w fun e w' =>
      e = .returned (.tuple #[.int .u64 (z), .bool true]) ∧
        ∃ q, w' = ((w.setCell ⟨rb, 0, none⟩ (.slice (some (adv b off cap)) (len - 1) (cap - 1))).setCell ⟨rb, 1, none⟩ (.int .i64 0)).drewN q := by
  have e0 := or_u64_zero z h0.1 h0.2
  have e3 : bits .and .u64 z 255 = z := by
    rw [and_u64 _ 8 _ (by omega) (by decide) (by omega) (by omega)]
    omega
  by_cases hc : cap = 1
  · have ha : adv b off cap = ⟨b, off, none⟩ := by simp [adv, hc]
    go_enter Ybaf.func27, Ybaf.ntmps27
    go_wp2
    refine wp_loop_rounds 2 ?_
    rw [rounds_succ]
    go_wp2
    rw [rounds_succ]
    go_wp2
    go_quiet (fail)
    go_wp2
    go_ret2
    exact ⟨rfl, nq, by rw [ha, hc]⟩
  · have ha : adv b off cap = ⟨b, off + 1, none⟩ := by simp [adv, hc]
    go_enter Ybaf.func27, Ybaf.ntmps27
    go_wp2
    refine wp_loop_rounds 2 ?_
    rw [rounds_succ]
    go_wp2
    rw [rounds_succ]
    go_wp2
    go_quiet (fail)
    go_wp2
    go_ret2
    exact ⟨rfl, nq, by rw [ha]⟩

set_option maxRecDepth 20000 in
set_option maxHeartbeats 400000 in
theorem take_m (rb b off len cap : Nat) (name : ByteArray) (z : Int) (w : World) (hl : 1 ≤ len) (hl2 : len ≤ 1025) (hcap : len ≤ cap)
    (c0 : w.cell? ⟨rb, 0, none⟩ = some (.slice (some ⟨b, off, none⟩) len cap)) (c1 : w.cell? ⟨rb, 1, none⟩ = some (.int .i64 0)) (c6 : w.cell? ⟨rb, 6, none⟩ = some .nilIface)
    (f0 : w.frozen? ⟨rb, 0, none⟩ = false) (f1 : w.frozen? ⟨rb, 1, none⟩ = false) (d0 : w.cell? ⟨b, off, none⟩ = some (.int .u8 z)) (h0 : 0 ≤ z ∧ z ≤ 255) :
    Calls Ybaf.prog 27 #[.pointer (some ⟨rb, 0, none⟩), .string name, .int .i64 1] w fun e w' =>
      e = .returned (.tuple #[.int .u64 (z / 128), .bool true]) ∧
        ∃ q, w' = ((w.setCell ⟨rb, 0, none⟩ (.slice (some ⟨b, off, none⟩) len cap)).setCell ⟨rb, 1, none⟩ (.int .i64 1)).drewN q := by
  have e0 := or_u64_zero z h0.1 h0.2
  have e3 : bits .and .u64 (z / 128) 1 = z / 128 := by
    rw [and_u64 _ 1 _ (by omega) (by decide) (by omega) (by omega)]
    omega
  go_enter Ybaf.func27, Ybaf.ntmps27
  go_wp2
  refine wp_loop_rounds 2 ?_
  rw [rounds_succ]
  go_wp2
  rw [rounds_succ]
  go_wp2
  go_quiet (fail)
  go_wp2
  go_ret2
  exact ⟨rfl, nq, rfl⟩

set_option maxRecDepth 20000 in
set_option maxHeartbeats 400000 in
theorem take_res (rb b off len cap : Nat) (name : ByteArray) (z : Int) (w : World) (hl : 1 ≤ len) (hl2 : len ≤ 1025) (hcap : len ≤ cap)
    (c0 : w.cell? ⟨rb, 0, none⟩ = some (.slice (some ⟨b, off, none⟩) len cap)) (c1 : w.cell? ⟨rb, 1, none⟩ = some (.int .i64 1)) (c6 : w.cell? ⟨rb, 6, none⟩ = some .nilIface)
    (f0 : w.frozen? ⟨rb, 0, none⟩ = false) (f1 : w.frozen? ⟨rb, 1, none⟩ = false) (d0 : w.cell? ⟨b, off, none⟩ = some (.int .u8 z)) (h0 : 0 ≤ z ∧ z ≤ 255) :
    Calls Ybaf.prog 27 #[.pointer (some ⟨rb, 0, none⟩), .string name, .int .i64 7] w fun e w' =>
      e = .returned (.tuple #[.int .u64 (z % 128), .bool true]) ∧
        ∃ q, w' = ((w.setCell ⟨rb, 0, none⟩ (.slice (some (adv b off cap)) (len - 1) (cap - 1))).setCell ⟨rb, 1, none⟩ (.int .i64 0)).drewN q := by
  have e0 := or_u64_zero z h0.1 h0.2
  have e3 : bits .and .u64 z 127 = z % 128 := by
    rw [and_u64 _ 7 _ (by omega) (by decide) (by omega) (by omega)]
    omega
  by_cases hc : cap = 1
  · have ha : adv b off cap = ⟨b, off, none⟩ := by simp [adv, hc]
    go_enter Ybaf.func27, Ybaf.ntmps27
    go_wp2
    refine wp_loop_rounds 2 ?_
    rw [rounds_succ]
    go_wp2
    rw [rounds_succ]
    go_wp2
    go_quiet (fail)
    go_wp2
    go_ret2
    exact ⟨rfl, nq, by rw [ha, hc]⟩
  · have ha : adv b off cap = ⟨b, off + 1, none⟩ := by simp [adv, hc]
    go_enter Ybaf.func27, Ybaf.ntmps27
    go_wp2
    refine wp_loop_rounds 2 ?_
    rw [rounds_succ]
    go_wp2
    rw [rounds_succ]
    go_wp2
    go_quiet (fail)
    go_wp2
    go_ret2
    exact ⟨rfl, nq, by rw [ha]⟩

theorem neq_nilFunc (w : World) : (binOp .neq 51 .nilFunc .nilFunc).run Ybaf.prog w = .ok (.bool false) w := by kernel_rfl

set_option maxRecDepth 20000 in
/-- '(*reader).uint' hands on what 'take' gives: nobody is shown the field. -/
theorem uint_ok (rb : Nat) (name : ByteArray) (width v : Int) (w w1 : World) (h7 : w1.cell? ⟨rb, 7, none⟩ = some .nilFunc)
    (ht : Calls Ybaf.prog 27 #[.pointer (some ⟨rb, 0, none⟩), .string name, .int .i64 width] w fun e w' => e = .returned (.tuple #[.int .u64 v, .bool true]) ∧ ∃ q, w' = w1.drewN q) :
    Calls Ybaf.prog 22 #[.pointer (some ⟨rb, 0, none⟩), .string name, .int .i64 width] w fun e w' => e = .returned (.int .u64 v) ∧ ∃ q, w' = w1.drewN q := by
  have hnf := neq_nilFunc
  go_enter Ybaf.func22, Ybaf.ntmps22
  go_wp2_with fail
  refine Calls.mono ht ?_
  rintro e w2 ⟨rfl, q, rfl⟩
  clear ht
  go_wp2
  go_ret
  exact ⟨rfl, q, rfl⟩
end Go.Proofs.YbulkanseFmt.Wk
