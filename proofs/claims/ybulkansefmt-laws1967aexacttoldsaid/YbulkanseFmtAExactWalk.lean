import Derived.Test.YbulkanseFmtTlv
import Derived.Test.YbulkanseFmtSame
namespace Go.Proofs.YbulkanseFmt.Wk
open Go.RowKit Go.Extern.Stop Go.Stop Go.Extern

set_option maxHeartbeats 400000 in
theorem exact_long (m : Bool) (r : Int) (a : Option Addr) (len cap : Nat) (w : World) (h : 1024 < len) (hm : len ≤ maxLen) :
    Calls Ybaf.prog 3 #[.bool m, .int .u8 r, .slice a len cap] w fun e w' => e = .returned (.bool true) ∧ Below w.heap.size w w' := by
  unfold maxLen at hm
  go_enter Ybaf.func3, Ybaf.ntmps3
  go_wp2
  go_ret
  exact ⟨rfl, Below.refl _ _⟩

set_option maxHeartbeats 400000 in
theorem exact_bad (m : Bool) (r : Int) (a : Option Addr) (len cap : Nat) (w : World) (h : len ≤ 1024) (hr : 128 ≤ r) (hr2 : r < 256) :
    Calls Ybaf.prog 3 #[.bool m, .int .u8 r, .slice a len cap] w fun e w' => e = .returned (.bool true) ∧ Below w.heap.size w w' := by
  have hnil := fun w => Lib.run_eql_slice_nil (P := Ybaf.prog) w 22 5 none 0 0 0 0 Ybaf.underlying22
  go_enter Ybaf.func3, Ybaf.ntmps3
  go_wp2_with fail
  refine (tlv_bad m r a len cap _ hr hr2).mono ?_
  rintro e w1 ⟨⟨x, rfl⟩, hb⟩
  go_wp2
  go_ret
  exact ⟨rfl, hb.alloc hb.size _⟩

/-- The walk behind 'm.TLV()' where it has made its value. -/
theorem elems_rest {w w' : World} {f : Int} {z : List Int} {len g c : Nat} (h : Made w w' f z len g c) (O : Obj) : Elems (w'.alloc O) (some ⟨g, 1, none⟩) len z := by
  intro j hj
  refine ⟨g, 1, rfl, ?_⟩
  rw [World.cell?_alloc_past _ _ _ h.lt]
  exact h.rest j hj

theorem elems_later {w w' : World} {a : Option Addr} {n : Nat} {z : List Int} (h : Elems w a n z) (hb : Below w.heap.size w w') (O : Obj) : Elems (w'.alloc O) a n z := by
  intro j hj
  obtain ⟨b, off, h1, h2⟩ := h j hj
  have hlt : b < w.heap.size := World.block_lt_of_cell? w ⟨b, off + j, none⟩ h2
  refine ⟨b, off, h1, ?_⟩
  rw [World.cell?_alloc_past _ _ _ (by have := hb.size; omega), hb.cell (by exact hlt)]
  exact h2

set_option maxRecDepth 20000 in
set_option maxHeartbeats 400000 in
theorem exact_ok (m : Bool) (r : Int) (a : Option Addr) (len cap : Nat) (z : List Int) (w : World) (hlen : len ≤ 1024) (hr : 0 ≤ r) (hr2 : r < 128) (he : Elems w a len z)
    (ht : Calls Ybaf.prog 7 #[.agg #[.bool m, .int .u8 r, .slice a len cap]] w fun e w' =>
      ∃ g c, e = .returned (.tuple #[.agg #[.int .u16 1, .slice (some ⟨g, 0, none⟩) (1 + len) c], .nilIface]) ∧ Made w w' (flags m r) z len g c) :
    Calls Ybaf.prog 3 #[.bool m, .int .u8 r, .slice a len cap] w fun e w' => e = .returned (.bool true) ∧ Below w.heap.size w w' := by
  have HT := ht
  have HH : Hid _ := HT
  clear HT ht
  cases m
  all_goals
    go_enter Ybaf.func3, Ybaf.ntmps3
    go_wp2_with fail
    refine Calls.mono HH.out ?_
    rintro e w1 ⟨g, c, rfl, hm⟩
    have hd := hm.head
    have hlt := hm.lt
    have hfit := hm.fits
    have hcap := hm.cap
    unfold maxLen at hcap
    have hfl0 : flags false r = r := rfl
    have hfl1 : flags true r = r + 128 := rfl
    clear HH
    go_wp2_with fail
    · refine (aeq_any _ _ len _ _ z _ hlen (by intro j hj; omega) (elems_later he hm.below _)).mono ?_
      rintro e w2 ⟨rfl, q, rfl⟩
      go_wp2
      go_ret
      exact ⟨rfl, below_drewN (hm.below.alloc hm.below.size _) _⟩
    · refine (aeq_any _ _ len _ _ z _ hlen (elems_rest hm _) (elems_later he hm.below _)).mono ?_
      rintro e w2 ⟨rfl, q, rfl⟩
      go_wp2
      go_ret
      exact ⟨rfl, below_drewN (hm.below.alloc hm.below.size _) _⟩
end Go.Proofs.YbulkanseFmt.Wk
