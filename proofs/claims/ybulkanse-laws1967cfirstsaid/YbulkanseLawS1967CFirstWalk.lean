import Derived.Test.YbulkanseFind
import Derived.Deep.QuietTactic
import Derived.BigQuiet
namespace Go.Proofs.Ybulkanse.First
open Go.RowKit

theorem info29 : (Yba.prog.info? 29).map (fun i => (i.zero, i.size, i.bytes)) = some (some (.agg #[.int .u16 0, .slice none 0 0]), 2, 32) := by kernel_rfl

/-- What one round of the first loop does to what the law has made. -/
theorem step {w wr : World} {B n k s1 : Nat} {xs : List Value} {z : List Int} (hown : wr.ownsRow B 29 2 (.slice (some ⟨B, 0, none⟩) n n) n xs)
    (hxs : ∀ j, j < k → xs[j * 2]? = some (.int .u16 (z.getD j 0)) ∧ xs[j * 2 + 1]? = some (.slice (some ⟨s1 + j, 0, none⟩) 2 2))
    (hvs : ∀ j, j < k → wr.cell? ⟨s1 + j, 0, none⟩ = some (.int .u8 ((j / 256 : Nat) : Int)) ∧ wr.cell? ⟨s1 + j, 1, none⟩ = some (.int .u8 ((j % 256 : Nat) : Int)))
    (hsz : wr.heap.size = s1 + k) (hbel : Below B w wr) (hB : B < s1) (hlt : k < n)
    (W : World) (hW : W = ((wr.setCell ⟨B, k * 2, none⟩ (.int .u16 (z[k]?.getD 0))).setCell ⟨B, k * 2 + 1, none⟩ (.slice (some ⟨wr.heap.size, 0, none⟩) 2 2)).alloc
      (.cells #[.int .u8 ((k : Int) / 256), .int .u8 ((k : Int) % 256)] 5)) :
    ∃ ys, W.ownsRow B 29 2 (.slice (some ⟨B, 0, none⟩) n n) n ys ∧
      (∀ j, j < k + 1 → ys[j * 2]? = some (.int .u16 (z.getD j 0)) ∧ ys[j * 2 + 1]? = some (.slice (some ⟨s1 + j, 0, none⟩) 2 2)) ∧
      (∀ j, j < k + 1 → W.cell? ⟨s1 + j, 0, none⟩ = some (.int .u8 ((j / 256 : Nat) : Int)) ∧ W.cell? ⟨s1 + j, 1, none⟩ = some (.int .u8 ((j % 256 : Nat) : Int))) ∧
      W.heap.size = s1 + (k + 1) ∧ Below B w W := by
  subst hW
  have hlen : xs.length = n * 2 := hown.1
  have o1 := (hown.stored (k * 2) (.int .u16 (z[k]?.getD 0))).1
  have o2 := (o1.stored (k * 2 + 1) (.slice (some ⟨wr.heap.size, 0, none⟩) 2 2)).1
  refine ⟨_, o2.alloc _, ?_, ?_, by simp [hsz]; omega, ((hbel.setCell (by simp) _).setCell (by simp) _).alloc (by simp; omega) _⟩
  · intro j hj
    by_cases e : j = k
    · subst e
      constructor
      · rw [List.getElem?_set_ne (by omega), List.getElem?_set_self (by omega)]; simp
      · rw [List.getElem?_set_self (by simp; omega), hsz]
    · have := hxs j (by omega)
      constructor
      · rw [List.getElem?_set_ne (by omega), List.getElem?_set_ne (by omega)]; exact this.1
      · rw [List.getElem?_set_ne (by omega), List.getElem?_set_ne (by omega)]; exact this.2
  · intro j hj
    by_cases e : j = k
    · subst e
      rw [← hsz]
      constructor
      · rw [World.cell?_alloc_at _ _ _ _ (by simp)]; simp
      · rw [World.cell?_alloc_at _ _ _ _ (by simp)]; simp
    · have := hvs j (by omega)
      have hne : B ≠ s1 + j := by omega
      constructor
      · rw [World.cell?_alloc_past _ _ _ (by simp; omega), World.cell?_setCell_other _ _ _ _ (by intro h; injection h with h1 h2; omega), World.cell?_setCell_other _ _ _ _ (by intro h; injection h with h1 h2; omega)]; exact this.1
      · rw [World.cell?_alloc_past _ _ _ (by simp; omega), World.cell?_setCell_other _ _ _ _ (by intro h; injection h with h1 h2; omega), World.cell?_setCell_other _ _ _ _ (by intro h; injection h with h1 h2; omega)]; exact this.2

theorem or_join (m : Nat) (h : m < 65536) : bits .or .i64 ((m : Int) / 256 * 256) ((m : Int) % 256) = (m : Int) := by
  have e1 : ((m : Int) / 256 * 256) = ((m / 256 * 256 : Nat) : Int) := by omega
  have e2 : ((m : Int) % 256) = ((m % 256 : Nat) : Int) := by omega
  have h1 : (BitVec.ofInt 64 ((m / 256 * 256 : Nat) : Int)).toNat = m / 256 * 256 := by
    rw [BitVec.ofInt_natCast, BitVec.toNat_ofNat]; exact Nat.mod_eq_of_lt (by omega)
  have h2 : (BitVec.ofInt 64 ((m % 256 : Nat) : Int)).toNat = m % 256 := by
    rw [BitVec.ofInt_natCast, BitVec.toNat_ofNat]; exact Nat.mod_eq_of_lt (by omega)
  have h3 : (m / 256 * 256) ||| (m % 256) = m := by
    have := Nat.two_pow_add_eq_or_of_lt (i := 8) (b := m % 256) (by omega) (m / 256)
    rw [show m / 256 * 256 = 2 ^ 8 * (m / 256) by omega, ← this]
    omega
  rw [e1, e2]
  show IntKind.i64.wrap ((BitVec.ofInt 64 ((m / 256 * 256 : Nat) : Int) ||| BitVec.ofInt 64 ((m % 256 : Nat) : Int)).toNat : Int) = _
  rw [BitVec.toNat_or, h1, h2, h3, IntKind.wrap_i64]
  omega

/-- What the second loop has found among the numbers from m on: -1, or the least place. -/
def Want (z : List Int) (t : Int) (n m : Nat) (v : Int) : Prop :=
  (v = -1 ∧ ∀ j, m ≤ j → j < n → z.getD j 0 ≠ t) ∨ (∃ q : Nat, v = q ∧ m ≤ q ∧ q < n ∧ z.getD q 0 = t ∧ ∀ j, m ≤ j → j < q → z.getD j 0 ≠ t)

theorem want_hit {z : List Int} {t : Int} {n m : Nat} {v : Int} (_h : Want z t n (m + 1) v) (hm : m < n) (e : z.getD m 0 = t) : Want z t n m (m : Int) :=
  .inr ⟨m, rfl, Nat.le_refl _, hm, e, by intro j h1 h2; omega⟩

theorem want_miss {z : List Int} {t : Int} {n m : Nat} {v : Int} (h : Want z t n (m + 1) v) (e : z.getD m 0 ≠ t) : Want z t n m v := by
  rcases h with ⟨h1, h2⟩ | ⟨q, h1, h2, h3, h4, h5⟩
  · refine .inl ⟨h1, fun j hj hjn => ?_⟩
    by_cases ej : j = m
    · subst ej; exact e
    · exact h2 j (by omega) hjn
  · refine .inr ⟨q, h1, by omega, h3, h4, fun j hj hjq => ?_⟩
    by_cases ej : j = m
    · subst ej; exact e
    · exact h5 j (by omega) hjq

theorem want_none {z : List Int} {t : Int} {n : Nat} {v : Int} (h : Want z t n 0 v) (hn : ∀ j, j < n → z.getD j 0 ≠ t) : v = -1 := by
  rcases h with ⟨h1, _⟩ | ⟨q, _, _, h3, h4, _⟩
  · exact h1
  · exact absurd h4 (hn q h3)

theorem want_some {z : List Int} {t : Int} {n k : Nat} {v : Int} (h : Want z t n 0 v) (hk : k < n) (hf : ∀ j, j < k → z.getD j 0 ≠ t) (he : z.getD k 0 = t) : v = k := by
  rcases h with ⟨_, h2⟩ | ⟨q, h1, _, h3, h4, h5⟩
  · exact absurd he (h2 k (Nat.zero_le _) hk)
  · have : q = k := by
      rcases Nat.lt_trichotomy q k with h | h | h
      · exact absurd h4 (hf q h)
      · exact h
      · exact absurd he (h5 k (Nat.zero_le _) h)
    omega

theorem want_bd {z : List Int} {t : Int} {n m : Nat} {v : Int} (h : Want z t n m v) : -1 ≤ v ∧ v < n := by
  rcases h with ⟨h1, _⟩ | ⟨q, h1, _, h3, _⟩ <;> omega

set_option maxHeartbeats 400000 in
theorem law_long (a0 : Option Addr) (len0 cap0 : Nat) (t : Int) (w : World) (h : 1024 < len0) (hm : len0 ≤ maxLen) :
    Calls Yba.prog 3 #[.slice a0 len0 cap0, .int .u16 t] w fun e w' => e = .returned (.bool true) ∧ Below w.heap.size w w' := by
  unfold maxLen at hm
  go_enter Yba.func3, Yba.ntmps3
  go_wp2
  go_ret
  exact ⟨rfl, Below.refl _ _⟩

set_option maxHeartbeats 400000 in
theorem law_short (a0 : Option Addr) (n cap0 : Nat) (z : List Int) (t : Int) (w : World) (hn : n ≤ 1024) (hz : n ≤ z.length)
    (hc : ∀ j, j < n → ∃ b off, a0 = some ⟨b, off, none⟩ ∧ b < w.heap.size ∧ w.cell? ⟨b, off + j, none⟩ = some (.int .u16 (z.getD j 0))) (hwf : ∀ j, j < n → 0 ≤ z.getD j 0 ∧ z.getD j 0 < 65536) :
    Calls Yba.prog 3 #[.slice a0 n cap0, .int .u16 t] w fun e w' => e = .returned (.bool true) ∧ Below w.heap.size w w' := by
  obtain ⟨i0, hi, hz0, hz1, hz2⟩ := info_parts info29
  have hnil := fun w => Lib.run_eql_slice_nil (P := Yba.prog) w 27 5 none 0 0 0 0 Yba.underlying27
  go_enter Yba.func3, Yba.ntmps3
  go_wp2_with (at_make; refine wpList_make_full _ rfl (.tmp 16) (.tmp 16) 24 rfl w.heap.size 29 i0 (.agg #[.int .u16 0, .slice none 0 0]) 2 Yba.underlying24 hi hz0 hz1 .i64 .i64 _ _ n rfl rfl rfl rfl (by rw [hz2]; omega) (by unfold maxLen; omega) (Nat.le_refl _) ?_; intro w1 hown hgrow)
  have hB : w.heap.size < w1.heap.size := (hown.lt w.heap.size rfl).2
  have hbel1 : Below w.heap.size w w1 := (Below.refl _ _).grown hgrow (Nat.le_refl _) (by intro k hk; cases hk)
  obtain ⟨s1, hs1⟩ : ∃ s1, s1 = w1.heap.size := ⟨_, rfl⟩
  go_loopw [6] (fun i wr => ∃ (k : Nat) (xs : List Value), k ≤ n ∧ i = .int .i64 k ∧ wr.ownsRow w.heap.size 29 2 (.slice (some ⟨w.heap.size, 0, none⟩) n n) n xs ∧
      (∀ j, j < k → xs[j * 2]? = some (.int .u16 (z.getD j 0)) ∧ xs[j * 2 + 1]? = some (.slice (some ⟨s1 + j, 0, none⟩) 2 2)) ∧
      (∀ j, j < k → wr.cell? ⟨s1 + j, 0, none⟩ = some (.int .u8 ((j / 256 : Nat) : Int)) ∧ wr.cell? ⟨s1 + j, 1, none⟩ = some (.int .u8 ((j % 256 : Nat) : Int))) ∧
      Hid (wr.heap.size = s1 + k) ∧ Below w.heap.size w wr) (fun i _ => n - (intOf i).toNat)
  case atStart =>
    exact ⟨0, _, Nat.zero_le _, rfl, hown, by intro j hj; omega, by intro j hj; omega, hs1.symm, hbel1⟩
  case round =>
    obtain ⟨k, xs, hk, rfl, hown', hxs, hvs, hsz, hbel⟩ := hrel
    clear hown hgrow hbel1
    by_cases hlt : k < n
    · obtain ⟨b, off, ha, hb, hcell⟩ := hc k hlt
      subst ha
      have hzk := hwf k hlt
      have G0 : wr.cell? ⟨b, off + k, none⟩ = some (.int .u16 (z.getD k 0)) := (hbel.cell (by exact hb)).trans hcell
      have F0 := hown'.frozenAt (k * 2)
      have F1 := hown'.frozenAt (k * 2 + 1)
      have hlen : xs.length = n * 2 := hown'.1
      obtain ⟨x0, hx0⟩ : ∃ x0, wr.cell? ⟨w.heap.size, k * 2, none⟩ = some x0 := ⟨_, (hown'.cellAt (k * 2) (by omega)).trans (List.getElem?_eq_getElem (by omega))⟩
      obtain ⟨x1, hx1⟩ : ∃ x0, wr.cell? ⟨w.heap.size, k * 2 + 1, none⟩ = some x0 := ⟨_, (hown'.cellAt (k * 2 + 1) (by omega)).trans (List.getElem?_eq_getElem (by omega))⟩
      have hlt' : w.heap.size < wr.heap.size := (hown'.lt w.heap.size rfl).2
      clear hcell hlen hc
      go_wp2
      obtain ⟨ys, r1, r2, r3, r4, r5⟩ := step hown' hxs hvs hsz hbel (by omega) hlt _ rfl
      go_roundw
      case rel => exact ⟨k + 1, ys, by omega, by go_num, r1, r2, r3, r4, r5⟩
      case measure => simp [intOf]; omega
    · obtain rfl : k = n := by omega
      have hT : ∀ O, Tlvs (wr.alloc O) w.heap.size k (fun j => z.getD j 0) (fun j => s1 + j) := by
        intro O j hj
        have hlen : xs.length = k * 2 := hown'.1
        have hlt' : w.heap.size < wr.heap.size := (hown'.lt w.heap.size rfl).2
        rw [World.cell?_alloc_past _ _ _ hlt', World.cell?_alloc_past _ _ _ hlt', hown'.cellAt (j * 2) (by omega), hown'.cellAt (j * 2 + 1) (by omega)]
        exact hxs j hj
      have hlt' : w.heap.size < wr.heap.size := (hown'.lt w.heap.size rfl).2
      have HS : Hid (s1 = w1.heap.size) := hs1
      clear hs1
      go_wp2_with fail
      refine (find_any _ _ _ _ _ _ _ _ _ _ _ _ _ w.heap.size k t (fun j => z.getD j 0) (fun j => s1 + j) _ hn (by simp; omega) (hT _)).mono ?_
      rintro e w2 ⟨hres, hb2⟩
      have hbel2 : Below w.heap.size w w2 := (hbel.alloc (by omega) _).trans (hb2.mono (by simp; omega))
      have hc2 : ∀ j, j < k → ∃ b off, a0 = some ⟨b, off, none⟩ ∧ w2.cell? ⟨b, off + j, none⟩ = some (.int .u16 (z.getD j 0)) ∧ b < w2.heap.size := by
        intro j hj
        obtain ⟨b, off, h1, h2, h3⟩ := hc j hj
        exact ⟨b, off, h1, (hbel2.cell (by exact h2)).trans h3, by have := hbel2.size; omega⟩
      have hv2 : ∀ j, j < k → w2.cell? ⟨s1 + j, 0, none⟩ = some (.int .u8 ((j / 256 : Nat) : Int)) ∧ w2.cell? ⟨s1 + j, 1, none⟩ = some (.int .u8 ((j % 256 : Nat) : Int)) ∧ s1 + j < w2.heap.size := by
        intro j hj
        have hlt2 : s1 + j < wr.heap.size := by have := hsz.out; omega
        obtain ⟨g0, g1⟩ := hvs j hj
        refine ⟨?_, ?_, ?_⟩
        · rw [hb2.cell (by simp; omega), World.cell?_alloc_past _ _ _ hlt2]; exact g0
        · rw [hb2.cell (by simp; omega), World.cell?_alloc_past _ _ _ hlt2]; exact g1
        · have := hb2.size; simp at this; omega
      clear hT hb2 hbel hvs hxs hown' hsz hc hwf hlt'
      rcases hres with ⟨m, hm, hfirst, heq, rfl⟩ | ⟨hnone, rfl⟩
      · obtain ⟨C0, C1, C2⟩ := hv2 m hm
        have HE : Hid (z.getD m 0 = t) := heq
        clear heq hv2
        go_wp2_with fail
        go_loop [10, 11] (fun x i => ∃ (p : Nat) (v : Int), p ≤ k ∧ i = .int .i64 ((p : Int) - 1) ∧ x = .int .i64 v ∧ Want z t k p v) (fun _ i => (intOf i + 1).toNat)
        case atStart => exact ⟨k, -1, Nat.le_refl _, rfl, rfl, .inl ⟨rfl, by intro j h1 h2; omega⟩⟩
        case round =>
          obtain ⟨p, v, hp, rfl, rfl, hw⟩ := hrel
          have hbd := want_bd hw
          by_cases hp0 : 0 < p
          · obtain ⟨q, rfl⟩ : ∃ q, p = q + 1 := ⟨p - 1, by omega⟩
            rw [show (((q + 1 : Nat) : Int) - 1) = (q : Int) from by omega]
            obtain ⟨b, off, ha, hcell, hb⟩ := hc2 q (by omega)
            subst ha
            go_wp2
            · have hq : (z[q]?.getD 0 == t) = true := by assumption
              go_round
              case rel => exact ⟨q, q, by omega, rfl, rfl, want_hit hw (by omega) (by simpa using hq)⟩
              case measure => simp [intOf]
            · have hq : (z[q]?.getD 0 == t) = false := by assumption
              go_round
              case rel => exact ⟨q, v, by omega, rfl, rfl, want_miss hw (by simpa using hq)⟩
              case measure => simp [intOf]
          · obtain rfl : p = 0 := by omega
            obtain rfl : v = m := want_some hw hm hfirst HE.out
            clear hbd hw
            go_wp2_with fail
            go_quiet (fail)
            go_wp2
            go_ret
            refine ⟨?_, below_drewN (hbel2.alloc hbel2.size _) _⟩
            rw [or_join m (by omega)]; simp
      · clear hv2
        go_wp2_with fail
        go_loop [10, 11] (fun x i => ∃ (p : Nat) (v : Int), p ≤ k ∧ i = .int .i64 ((p : Int) - 1) ∧ x = .int .i64 v ∧ Want z t k p v) (fun _ i => (intOf i + 1).toNat)
        case atStart => exact ⟨k, -1, Nat.le_refl _, rfl, rfl, .inl ⟨rfl, by intro j h1 h2; omega⟩⟩
        case round =>
          obtain ⟨p, v, hp, rfl, rfl, hw⟩ := hrel
          have hbd := want_bd hw
          by_cases hp0 : 0 < p
          · obtain ⟨q, rfl⟩ : ∃ q, p = q + 1 := ⟨p - 1, by omega⟩
            rw [show (((q + 1 : Nat) : Int) - 1) = (q : Int) from by omega]
            obtain ⟨b, off, ha, hcell, hb⟩ := hc2 q (by omega)
            subst ha
            go_wp2
            · have hq : (z[q]?.getD 0 == t) = true := by assumption
              go_round
              case rel => exact ⟨q, q, by omega, rfl, rfl, want_hit hw (by omega) (by simpa using hq)⟩
              case measure => simp [intOf]
            · have hq : (z[q]?.getD 0 == t) = false := by assumption
              go_round
              case rel => exact ⟨q, v, by omega, rfl, rfl, want_miss hw (by simpa using hq)⟩
              case measure => simp [intOf]
          · obtain rfl : p = 0 := by omega
            obtain rfl : v = -1 := want_none hw hnone
            clear hbd hw
            go_wp2
            go_ret
            exact ⟨rfl, hbel2.alloc hbel2.size _⟩
end Go.Proofs.Ybulkanse.First
