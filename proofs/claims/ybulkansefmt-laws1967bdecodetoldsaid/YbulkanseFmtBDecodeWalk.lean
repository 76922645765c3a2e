import Derived.Test.YbulkanseFmtParse
import Derived.Test.YbulkanseFmtSame
namespace Go.Proofs.YbulkanseFmt.Wk
open Go.RowKit

theorem or_u32 (x y : Int) (k : Nat) (hk : k ≤ 16) (h1 : 0 ≤ x) (h2 : x < 65536) (h3 : 0 ≤ y) (h4 : y < (2 ^ k : Nat)) : bits .or .u32 (x * (2 ^ k : Nat)) y = x * (2 ^ k : Nat) + y := by
  obtain ⟨X, rfl⟩ := Int.eq_ofNat_of_zero_le h1
  obtain ⟨Y, rfl⟩ := Int.eq_ofNat_of_zero_le h3
  have hp : 2 ^ k ≤ 2 ^ 16 := Nat.pow_le_pow_right (by omega) hk
  have hY : Y < 2 ^ k := by omega
  have hX : X * 2 ^ k < 4294967296 := by
    have : X * 2 ^ k ≤ 65535 * 2 ^ 16 := Nat.mul_le_mul (by omega) hp
    omega
  have h := u32_or_nat (X * 2 ^ k) Y hX (by omega)
  have e := Nat.two_pow_add_eq_or_of_lt (i := k) (b := Y) hY X
  rw [Nat.mul_comm X, ← e] at h
  rw [← Int.natCast_mul, Nat.mul_comm X, h]
  simp

set_option maxHeartbeats 400000 in
theorem decode_long (a : Option Addr) (len cap : Nat) (w : World) (h : 1024 < len) (hm : len ≤ maxLen) :
    Calls Ybaf.prog 5 #[.slice a len cap] w fun e w' => e = .returned (.bool true) ∧ Below w.heap.size w w' := by
  unfold maxLen at hm
  go_enter Ybaf.func5, Ybaf.ntmps5
  go_wp2
  go_ret
  exact ⟨rfl, Below.refl _ _⟩

set_option maxHeartbeats 400000 in
theorem decode_short (a : Option Addr) (len cap : Nat) (w : World) (h : len < 4) :
    Calls Ybaf.prog 5 #[.slice a len cap] w fun e w' => e = .returned (.bool true) ∧ Below w.heap.size w w' := by
  go_enter Ybaf.func5, Ybaf.ntmps5
  go_wp2
  go_ret
  exact ⟨rfl, Below.refl _ _⟩

set_option maxRecDepth 20000 in
set_option maxHeartbeats 800000 in
theorem decode_ok (b off len cap : Nat) (z : List Int) (w : World) (hl : 4 ≤ len) (hl2 : len ≤ 1024) (hcap : len ≤ cap)
    (hc : ∀ j, j < len → w.cell? ⟨b, off + j, none⟩ = some (.int .u8 (z.getD j 0))) (hz : ∀ j, j < len → 0 ≤ z.getD j 0 ∧ z.getD j 0 ≤ 255) :
    Calls Ybaf.prog 5 #[.slice (some ⟨b, off, none⟩) len cap] w fun e w' => e = .returned (.bool true) ∧ Below w.heap.size w w' := by

  obtain ⟨z0, hz0⟩ : ∃ z0, z0 = z.getD 0 0 := ⟨_, rfl⟩
  obtain ⟨z1, hz1⟩ : ∃ z0, z0 = z.getD 1 0 := ⟨_, rfl⟩
  obtain ⟨z2, hz2⟩ : ∃ z0, z0 = z.getD 2 0 := ⟨_, rfl⟩
  obtain ⟨z3, hz3⟩ : ∃ z0, z0 = z.getD 3 0 := ⟨_, rfl⟩
  have d0 : w.cell? ⟨b, off, none⟩ = some (.int .u8 z0) := by rw [hz0]; exact hc 0 (by omega)
  have d1 : w.cell? ⟨b, off + 1, none⟩ = some (.int .u8 z1) := by rw [hz1]; exact hc 1 (by omega)
  have d2 : w.cell? ⟨b, off + 2, none⟩ = some (.int .u8 z2) := by rw [hz2]; exact hc 2 (by omega)
  have d3 : w.cell? ⟨b, off + 3, none⟩ = some (.int .u8 z3) := by rw [hz3]; exact hc 3 (by omega)
  have h0 : 0 ≤ z0 ∧ z0 ≤ 255 := by rw [hz0]; exact hz 0 (by omega)
  have h1 : 0 ≤ z1 ∧ z1 ≤ 255 := by rw [hz1]; exact hz 1 (by omega)
  have h2 : 0 ≤ z2 ∧ z2 ≤ 255 := by rw [hz2]; exact hz 2 (by omega)
  have h3 : 0 ≤ z3 ∧ z3 ≤ 255 := by rw [hz3]; exact hz 3 (by omega)
  have hb : b < w.heap.size := World.block_lt_of_cell? w ⟨b, off, none⟩ d0
  clear hz0 hz1 hz2 hz3
  have HC : Hid (∀ j, j < len → w.cell? ⟨b, off + j, none⟩ = some (.int .u8 (z.getD j 0))) := hc
  clear hc hz
  have g1 : bits .or .u32 (z0 * 4096) (z1 * 16) = z0 * 4096 + z1 * 16 := by
    have := or_u32 z0 (z1 * 16) 12 (by omega) h0.1 (by omega) (by omega) (by omega)
    simpa using this
  have g2 : bits .or .u32 (z0 * 4096 + z1 * 16) (z2 / 16) = z0 * 4096 + z1 * 16 + z2 / 16 := by
    have := or_u32 (z0 * 256 + z1) (z2 / 16) 4 (by omega) (by omega) (by omega) (by omega) (by omega)
    rw [show (z0 * 256 + z1) * ((2 ^ 4 : Nat) : Int) = z0 * 4096 + z1 * 16 by omega] at this
    exact this
  have g4 : bits .and .u8 z2 1 = z2 % 2 := by
    rw [u8_and z2 1 h2.1 (by omega) (by omega) (by omega)]
    have := Nat.and_two_pow_sub_one_eq_mod z2.toNat 1
    simp at this ⊢
    omega
  go_enter Ybaf.func5, Ybaf.ntmps5
  go_wp2_with fail
  refine (parse_ok b off len cap z0 z1 z2 z3 _ hl hl2 hcap d0 d1 d2 d3 h0 h1 h2 h3).mono ?_
  rintro e w1 ⟨rfl, hb1⟩
  have hbl : b < w1.heap.size := by have := hb1.size; omega
  have D0 := (hb1.cell (p := ⟨b, off, none⟩) hb).trans d0
  have D1 := (hb1.cell (p := ⟨b, off + 1, none⟩) hb).trans d1
  have D2 := (hb1.cell (p := ⟨b, off + 2, none⟩) hb).trans d2
  have D3 := (hb1.cell (p := ⟨b, off + 3, none⟩) hb).trans d3
  clear d0 d1 d2 d3
  by_cases hc4 : cap = 4
  · go_wp2_with fail
    go_quiet (fail)
    go_wp2_with fail
    refine (bsame_any _ _ (len - 4) _ _ [] _ (by omega) (by intro j hj; omega) (by intro j hj; omega)).mono ?_
    rintro e w2 ⟨rfl, q, rfl⟩
    go_wp2
    go_ret
    exact ⟨rfl, below_drewN (hb1.alloc hb1.size _) _⟩
  · have ha : adv b (off + 3) (cap - 3) = ⟨b, off + 4, none⟩ := by simp [adv]; omega
    have HE : Hid (∀ O q, Elems ((w1.alloc O).drewN q) (some ⟨b, off + 4, none⟩) (len - 4) (z.drop 4)) := by
      intro O q j hj
      refine ⟨b, off + 4, rfl, ?_⟩
      rw [World.cell?_drewN, World.cell?_alloc_past _ _ _ hbl, hb1.cell (by exact hb), show off + 4 + j = off + (4 + j) from by omega, HC.out (4 + j) (by omega)]
      simp [List.getD_eq_getElem?_getD, List.getElem?_drop]
    have HA : Hid (adv b (off + 3) (cap - 3) = ⟨b, off + 4, none⟩) := ha
    clear ha
    go_wp2_with fail
    go_quiet (fail)
    go_wp2_with fail
    refine (bsame_any _ _ (len - 4) _ _ (z.drop 4) _ (by omega) (by rw [HA.out]; exact HE.out _ _) (HE.out _ _)).mono ?_
    rintro e w2 ⟨rfl, q, rfl⟩
    go_wp2
    go_ret
    exact ⟨rfl, below_drewN (hb1.alloc hb1.size _) _⟩
end Go.Proofs.YbulkanseFmt.Wk
