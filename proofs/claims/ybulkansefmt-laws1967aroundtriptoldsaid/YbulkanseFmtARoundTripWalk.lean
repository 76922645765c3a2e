import Derived.Test.YbulkanseFmtTlv
import Derived.Test.YbulkanseFmtSame
import Derived.Test.YbulkanseFmtValue
namespace Go.Proofs.YbulkanseFmt.Wk
open Go.RowKit

set_option maxHeartbeats 400000 in
theorem round_long (m : Bool) (r : Int) (a : Option Addr) (len cap : Nat) (w : World) (h : 1024 < len) (hm : len ≤ maxLen) :
    Calls Ybaf.prog 4 #[.bool m, .int .u8 r, .slice a len cap] w fun e w' => e = .returned (.bool true) ∧ Below w.heap.size w w' := by
  unfold maxLen at hm
  go_enter Ybaf.func4, Ybaf.ntmps4
  go_wp2
  go_ret
  exact ⟨rfl, Below.refl _ _⟩

theorem and127 (r : Int) (h0 : 0 ≤ r) (h1 : r ≤ 255) : bits .and .u8 r 127 = r % 128 := by
  rw [u8_and r 127 h0 (by omega) (by omega) (by omega)]
  have := Nat.and_two_pow_sub_one_eq_mod r.toNat 7
  simp at this ⊢
  omega

/-- The elements behind the flags, in a later world. -/
theorem elems_adv {w w1 w2 : World} {f : Int} {z : List Int} {len g c : Nat} (h : Made w w1 f z len g c) (W : World) (hw : Below w1.heap.size w1 w2) (hW : ∀ b o, b < w2.heap.size → W.cell? ⟨b, o, none⟩ = w2.cell? ⟨b, o, none⟩) : Elems W (some (adv g 0 c)) len z := by
  intro j hj
  have hc : ¬ c = 1 := by have := h.fits; omega
  refine ⟨g, 1, by simp [adv, hc], ?_⟩
  rw [hW _ _ (by have := hw.size; have := h.lt; omega), hw.cell (by exact h.lt)]
  exact h.rest j hj

set_option maxRecDepth 20000 in
set_option maxHeartbeats 800000 in
theorem round_ok (m : Bool) (r : Int) (a : Option Addr) (len cap : Nat) (z : List Int) (w : World) (hlen : len ≤ 1024) (hr : 0 ≤ r) (hr2 : r ≤ 255) (he : Elems w a len z)
    (ht : Calls Ybaf.prog 7 #[.agg #[.bool m, .int .u8 (r % 128), .slice a len cap]] w fun e w' =>
      ∃ g c, e = .returned (.tuple #[.agg #[.int .u16 1, .slice (some ⟨g, 0, none⟩) (1 + len) c], .nilIface]) ∧ Made w w' (flags m (r % 128)) z len g c) :
    Calls Ybaf.prog 4 #[.bool m, .int .u8 r, .slice a len cap] w fun e w' => e = .returned (.bool true) ∧ Below w.heap.size w w' := by
  have HT : Hid (Calls Ybaf.prog 7 #[.agg #[.bool m, .int .u8 (r % 128), .slice a len cap]] w fun e w' =>
      ∃ g c, e = .returned (.tuple #[.agg #[.int .u16 1, .slice (some ⟨g, 0, none⟩) (1 + len) c], .nilIface]) ∧ Made w w' (flags m (r % 128)) z len g c) := ht
  have HE : Hid (Elems w a len z) := he
  have h127 := and127 r hr hr2
  clear ht he
  obtain ⟨f, hf⟩ : ∃ f, f = flags m (r % 128) := ⟨_, rfl⟩
  have f0 : 0 ≤ f ∧ f ≤ 255 := by rw [hf]; unfold flags; split <;> omega
  have f1 : (f / 128 == 1) = m := by
    rw [hf]; unfold flags
    cases m
    · simp; omega
    · simp; omega
  have f2 : f % 128 = r % 128 := by rw [hf]; unfold flags; split <;> omega
  have HF : Hid (flags m (r % 128) = f) := hf.symm
  clear hf
  go_enter Ybaf.func4, Ybaf.ntmps4
  go_wp2_with fail
  refine Calls.mono HT.out ?_
  rintro e w1 ⟨g, c, rfl, hm⟩
  rw [HF.out] at hm
  have hd := hm.head
  have hlt := hm.lt
  have HM : Hid (Made w w1 f z len g c) := hm
  have hfit := hm.fits
  clear HT hm
  go_wp2_with fail
  refine (parseMultipath_ok g 0 (1 + len) c f _ (by omega) (by omega) hfit (by rw [World.cell?_alloc_past _ _ _ hlt]; exact hd) f0).mono ?_
  rw [f1, f2, show 1 + len - 1 = len from by omega]
  rintro e w2 ⟨rfl, hb2⟩
  have hbel : Hid (Below w.heap.size w w2) := by
    have h1 := HM.out.below
    exact (h1.alloc h1.size _).trans (hb2.mono (by have := h1.size; simp; omega))
  have hb2' : Hid (Below w1.heap.size w1 w2) := ((Below.refl _ _).alloc (Nat.le_refl _) _).trans (hb2.mono (by simp))
  clear hb2 f1 f2 hd
  go_wp2_with fail
  refine (aeq_any _ _ len _ _ z _ hlen (elems_adv HM.out _ hb2'.out (fun b o hb => World.cell?_alloc_past _ _ _ hb)) ?_).mono ?_
  · intro j hj
    obtain ⟨b, off, h1, h2⟩ := HE.out j hj
    have hlt : b < w.heap.size := World.block_lt_of_cell? w ⟨b, off + j, none⟩ h2
    refine ⟨b, off, h1, ?_⟩
    rw [World.cell?_alloc_past _ _ _ (by have := hbel.out.size; omega), hbel.out.cell (by exact hlt)]
    exact h2
  · rintro e w3 ⟨rfl, q, rfl⟩
    go_wp2
    go_ret
    exact ⟨rfl, below_drewN (hbel.out.alloc hbel.out.size _) _⟩
end Go.Proofs.YbulkanseFmt.Wk
