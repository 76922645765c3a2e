import Derived.Test.YbulkanseFmtFacts
import Derived.WalkKit
import Derived.WalkSpells
import Derived.WalkLawsBesides
import Derived.Deep.QuietTactic
import Derived.BigQuiet
import Derived.Laws.AppendOwnNone
import Derived.Laws.BitsAllLaws
import Derived.Deep.DeepMust
namespace Go.Proofs.YbulkanseFmt.Wk
open Go.RowKit Go.Extern.Stop Go.Stop Go.Extern

/-- Behind a call that leaves all old blocks alone every old cell, and every old mark, reads as before. -/
theorem bcell {W w1 : World} (hb : Below W.heap.size W w1) : (∀ b o, b < W.heap.size → w1.cell? ⟨b, o, none⟩ = W.cell? ⟨b, o, none⟩) ∧ (∀ b o, b < W.heap.size → w1.frozen? ⟨b, o, none⟩ = W.frozen? ⟨b, o, none⟩) :=
  ⟨fun b o h => hb.cell (p := ⟨b, o, none⟩) h, fun b o h => hb.frozen (p := ⟨b, o, none⟩) h⟩

theorem info5 : (Ybaf.prog.info? 5).map (fun i => (i.zero, i.size, i.bytes)) = some (some (.int .u8 0), 1, 1) := by kernel_rfl

theorem or128 (r : Int) (h0 : 0 ≤ r) (h1 : r < 128) : bits .or .u8 r 128 = r + 128 := by
  obtain ⟨n, rfl⟩ := Int.eq_ofNat_of_zero_le h0
  have := u8_or_nat n 128 (by omega) (by omega)
  have h3 : n ||| 128 = n + 128 := by
    have := Nat.two_pow_add_eq_or_of_lt (i := 7) (b := n) (by omega) 1
    rw [show (2 : Nat) ^ 7 * 1 = 128 from rfl] at this
    rw [Nat.or_comm]
    omega
  rw [h3] at this
  simpa using this

section
attribute [local go_sem] Fm.call24 Fm.guard Fm.fmt0 Fm.fmt0r Fm.op9_115w Fm.op3_100w Fm.op46_100w Fm.ptr88 Fm.elem88 Fm.isError88

set_option maxHeartbeats 400000 in
theorem errorf3 (nm : ByteArray) (v n : Int) (blk : Nat) (w : World)
    (hc0 : w.cell? ⟨blk, 0, none⟩ = some (.iface 9 (.string nm))) (hc1 : w.cell? ⟨blk, 1, none⟩ = some (.iface 46 (.int .u64 v))) (hc2 : w.cell? ⟨blk, 2, none⟩ = some (.iface 3 (.int .i64 n))) :
    Calls Ybaf.prog 19 #[.string ⟨#[37, 115, 32, 37, 100, 32, 100, 111, 101, 115, 32, 110, 111, 116, 32, 102, 105, 116, 32, 105, 110, 32, 37, 100, 32, 98, 105, 116, 115]⟩, .slice (some ⟨blk, 0, none⟩) 3 3] w fun e w' =>
      e = .returned (.iface 88 (.pointer (some ⟨w.heap.size, 0, none⟩))) ∧ Below w.heap.size w w' := by
  go_enter Ybaf.func19, Ybaf.ntmps19
  go_wp2
  go_ret
  exact ⟨rfl, ((Below.refl _ _).alloc (Nat.le_refl _) _).drew⟩
end

set_option maxHeartbeats 400000 in
theorem widths_ok (nm : ByteArray) (v : Int) (blk : Nat) (w : World) (hv : 0 ≤ v) (hv2 : v < 128)
    (hc0 : w.cell? ⟨blk, 0, none⟩ = some (.string nm)) (hc1 : w.cell? ⟨blk, 1, none⟩ = some (.int .u64 v)) (hc2 : w.cell? ⟨blk, 2, none⟩ = some (.int .i64 7)) :
    Calls Ybaf.prog 13 #[.slice (some ⟨blk, 0, none⟩) 1 1] w fun e w' => e = .returned .nilIface ∧ Below w.heap.size w w' := by
  go_enter Ybaf.func13, Ybaf.ntmps13
  go_wp2
  refine wp_loop_rounds 2 ?_
  rw [rounds_succ]
  go_wp2
  rw [rounds_succ]
  go_wp2
  go_ret
  exact ⟨rfl, (Below.refl _ _).alloc (Nat.le_refl _) _⟩

set_option maxHeartbeats 400000 in
theorem widths_bad (nm : ByteArray) (v : Int) (blk : Nat) (w : World) (hv : 128 ≤ v) (hv2 : v < 256)
    (hc0 : w.cell? ⟨blk, 0, none⟩ = some (.string nm)) (hc1 : w.cell? ⟨blk, 1, none⟩ = some (.int .u64 v)) (hc2 : w.cell? ⟨blk, 2, none⟩ = some (.int .i64 7)) :
    Calls Ybaf.prog 13 #[.slice (some ⟨blk, 0, none⟩) 1 1] w fun e w' => (∃ a, e = .returned (.iface 88 (.pointer (some a)))) ∧ Below w.heap.size w w' := by
  go_enter Ybaf.func13, Ybaf.ntmps13
  go_wp2
  refine wp_loop_rounds 1 ?_
  rw [rounds_succ]
  go_wp2_with fail
  refine (errorf3 nm v 7 (w.heap.size + 1) _ (by simp) (by simp) (by simp)).mono ?_
  rintro e w1 ⟨rfl, hb⟩
  go_wp2
  go_ret
  exact ⟨⟨_, rfl⟩, ((((Below.refl _ _).alloc (Nat.le_refl _) _).alloc (by simp) _).trans (hb.mono (by simp; omega)))⟩

set_option maxHeartbeats 400000 in
theorem tlv_bad (m : Bool) (r : Int) (a : Option Addr) (len cap : Nat) (w : World) (hr : 128 ≤ r) (hr2 : r < 256) :
    Calls Ybaf.prog 7 #[.agg #[.bool m, .int .u8 r, .slice a len cap]] w fun e w' =>
      (∃ x, e = .returned (.tuple #[.agg #[.int .u16 0, .slice none 0 0], .iface 88 (.pointer (some x))])) ∧ Below w.heap.size w w' := by
  go_enter Ybaf.func7, Ybaf.ntmps7
  go_wp2_with fail
  refine (widths_bad _ r (w.heap.size + 1 + 1) _ hr hr2 (by rw [World.cell?_alloc_at _ _ _ _ (by simp)]; rfl) (by rw [World.cell?_alloc_at _ _ _ _ (by simp)]; rfl) (by rw [World.cell?_alloc_at _ _ _ _ (by simp)]; rfl)).mono ?_
  rintro e w1 ⟨⟨x, rfl⟩, hb⟩
  obtain ⟨hc, hf⟩ := bcell hb
  have hz : w.heap.size + 1 + 1 < w1.heap.size := by have := hb.size; simp at this; omega
  go_wp2
  refine bodyPost_ret (v := .tuple #[.agg #[.int .u16 0, .slice none 0 0], .iface 88 (.pointer (some x))]) (by simp [results, Ybaf.results7, go_sem, hc]) rfl ⟨⟨x, rfl⟩, ?_⟩
  exact ((((((Below.refl _ _).alloc (Nat.le_refl _) _).alloc (by simp) _).alloc (by simp; omega) _).trans (hb.mono (by simp; omega))).setCell (by simp) _).setCell (by simp) _

/-- What the walks are told of a slice of bytes: nil; or it leads to its elements, the numbers z. -/
def Bytes (w : World) (a : Option Addr) (len cap : Nat) (z : List Int) : Prop :=
  (a = none ∧ len = 0 ∧ cap = 0 ∧ z = []) ∨ ∃ x, a = some x ∧ len ≤ cap ∧ z.length = len ∧ (∀ j, j < len → w.cell? (x.add j) = some (.int .u8 (z.getD j 0)))

/-- The row that the append has left: its first cell, and behind it the elements. -/
theorem row_read {w : World} {base : Nat} {v : Value} {f : Int} {z : List Int} {len : Nat} (hz : z.length = len) (hne : v ≠ .slice none 0 0)
    (h : w.ownsRow base 5 1 v (1 + len) ([.int .u8 f] ++ z.map (Value.int .u8))) :
    ∃ g c, v = .slice (some ⟨g, 0, none⟩) (1 + len) c ∧ base ≤ g ∧ g < w.heap.size ∧ 1 + len ≤ c ∧ c ≤ maxLen ∧ w.cell? ⟨g, 0, none⟩ = some (.int .u8 f) ∧
      (∀ j, j < len → w.cell? ⟨g, 1 + j, none⟩ = some (.int .u8 (z.getD j 0))) := by
  rcases h.2 with ⟨h', _⟩ | ⟨g, c, cur, rfl, hb, hg, hnc, hcm, hcs, htake⟩
  · exact absurd h' hne
  · refine ⟨g, c, rfl, hb, (Array.getElem?_eq_some_iff.1 hg).1, hnc, hcm, ?_, ?_⟩
    · rw [h.cellAt 0 (by omega)]; rfl
    · intro j hj
      rw [h.cellAt (1 + j) (by omega), Nat.add_comm 1 j]
      have : j < z.length := by omega
      simp [this]

/-- What is known behind the append of 'append([]byte{flags}, m.Multipath...)': w1 the world ahead of the literal, w2 the one behind the append. -/
structure Joined (w w1 w2 : World) (f : Int) (z : List Int) (len g c : Nat) : Prop where
  base : w1.heap.size ≤ g
  lt : g < w2.heap.size
  fits : 1 + len ≤ c
  cap : c ≤ maxLen
  head : w2.cell? ⟨g, 0, none⟩ = some (.int .u8 f)
  rest : ∀ j, j < len → w2.cell? ⟨g, 1 + j, none⟩ = some (.int .u8 (z.getD j 0))
  below : Below w.heap.size w w2

theorem joined_of {w w1 w2 : World} {v : Value} {f : Int} {z : List Int} {len : Nat} (hz : z.length = len) (hb : Below w.heap.size w w1)
    (hown : w2.ownsRow w1.heap.size 5 1 v (1 + len) ([.int .u8 f] ++ z.map (Value.int .u8))) (hg : (w1.alloc (.cells #[.int .u8 f] 5)).grownBy w2 (some w1.heap.size)) (hne : v ≠ .slice none 0 0) :
    ∃ g c, v = .slice (some ⟨g, 0, none⟩) (1 + len) c ∧ Joined w w1 w2 f z len g c := by
  obtain ⟨g, c, rfl, h1, h2, h3, h4, h5, h6⟩ := row_read hz hne hown
  exact ⟨g, c, rfl, h1, h2, h3, h4, h5, h6, (hb.alloc hb.size _).grown hg (by have := hb.size; simp; omega) (by intro k hk; cases hk; exact hb.size)⟩

theorem old_cells {w1 w2 : World} {O : Obj} (hg : (w1.alloc O).grownBy w2 (some w1.heap.size)) :
    (∀ b o, b < w1.heap.size → w2.cell? ⟨b, o, none⟩ = w1.cell? ⟨b, o, none⟩) ∧ (∀ b o, b < w1.heap.size → w2.frozen? ⟨b, o, none⟩ = w1.frozen? ⟨b, o, none⟩) := by
  have hb : ∀ b, b < w1.heap.size → w2.heap[b]? = w1.heap[b]? := fun b h => (hg.block b (by simp; omega) (by intro e; cases e; omega)).trans (Below.heap_alloc w1 O b h)
  exact ⟨fun b o h => World.cell?_of_block (hb b h), fun b o h => World.frozen?_of_block (hb b h)⟩

/-- The first octet of the value: the flag M and the seven reserved bits. -/
def flags (m : Bool) (r : Int) : Int := if m then r + 128 else r

/-- What 'm.TLV()' leaves: the value's row, block g, in memory of its own: the flags, then the elements; all that was there is as it was. -/
structure Made (w w' : World) (f : Int) (z : List Int) (len g c : Nat) : Prop where
  base : w.heap.size ≤ g
  lt : g < w'.heap.size
  fits : 1 + len ≤ c
  cap : c ≤ maxLen
  head : w'.cell? ⟨g, 0, none⟩ = some (.int .u8 f)
  rest : ∀ j, j < len → w'.cell? ⟨g, 1 + j, none⟩ = some (.int .u8 (z.getD j 0))
  below : Below w.heap.size w w'

/-- The cells that 'm.TLV()' hands back lie where the append has put them; its own stores go elsewhere. -/
theorem made_of {w w1 w2 : World} {f : Int} {z : List Int} {len g c b : Nat} (h : Joined w w1 w2 f z len g c) (hb : Below w.heap.size w w1) (hlt : b < w1.heap.size) (hw : w.heap.size ≤ b) (u1 u2 : Value) :
    Made w ((w2.setCell ⟨b, 0, none⟩ u1).setCell ⟨b, 1, none⟩ u2) f z len g c := by
  have hbg := h.base
  have hsz := hb.size
  refine ⟨by omega, by have := h.lt; simpa using this, h.fits, h.cap, ?_, ?_, (h.below.setCell (by exact hw) _).setCell (by exact hw) _⟩
  · rw [World.cell?_setCell_other _ _ _ _ (by intro e; injection e with e1 e2; omega), World.cell?_setCell_other _ _ _ _ (by intro e; injection e with e1 e2; omega)]; exact h.head
  · intro j hj
    rw [World.cell?_setCell_other _ _ _ _ (by intro e; injection e with e1 e2; omega), World.cell?_setCell_other _ _ _ _ (by intro e; injection e with e1 e2; omega)]; exact h.rest j hj

set_option maxRecDepth 20000 in
set_option maxHeartbeats 400000 in
theorem tlv_ok_some (m : Bool) (r : Int) (x : Addr) (len cap : Nat) (z : List Int) (w : World) (hr : 0 ≤ r) (hr2 : r < 128) (hl : len ≤ 1024) (hlz : z.length = len)
    (hx : ∀ j, j < len → w.cell? (x.add j) = some (.int .u8 (z.getD j 0))) :
    Calls Ybaf.prog 7 #[.agg #[.bool m, .int .u8 r, .slice (some x) len cap]] w fun e w' =>
      ∃ g c, e = .returned (.tuple #[.agg #[.int .u16 1, .slice (some ⟨g, 0, none⟩) (1 + len) c], .nilIface]) ∧ Made w w' (flags m r) z len g c := by
  obtain ⟨i0, hi', hz0, hz1, hz2⟩ := info_parts info5
  have hi : Hid (Ybaf.prog.info? 5 = some i0) := hi'
  have HZ : Hid (z.length = len) := hlz
  have HX : Hid (∀ j, j < len → w.cell? (x.add j) = some (.int .u8 (z.getD j 0))) := hx
  have hl1 : Hid ((z.map (Value.int .u8)).length = len * 1) := by show _ = _; simp [HZ.out]
  have hone : Hid (∀ u ∈ z.map (Value.int .u8), u.oneCell' = true) := by intro u hu; simp at hu; obtain ⟨a, _, rfl⟩ := hu; rfl
  have h63 : Hid (1 + len ≤ maxLen) := by show _ ≤ _; unfold maxLen; omega
  have hor : bits .or .u8 r 128 = r + 128 := or128 r hr hr2
  clear hlz hx hi'
  cases m
  · go_enter Ybaf.func7, Ybaf.ntmps7
    go_wp2_with fail
    refine (widths_ok _ r (w.heap.size + 1 + 1) _ hr hr2 (by rw [World.cell?_alloc_at _ _ _ _ (by simp)]; rfl) (by rw [World.cell?_alloc_at _ _ _ _ (by simp)]; rfl) (by rw [World.cell?_alloc_at _ _ _ _ (by simp)]; rfl)).mono ?_
    rintro e w1 ⟨rfl, hb⟩
    obtain ⟨hc, hf⟩ := bcell hb
    have hz : w.heap.size + 1 + 1 < w1.heap.size := by have := hb.size; simp at this; omega
    have hza : w.heap.size < w1.heap.size := by omega
    have hzb : w.heap.size + 1 < w1.heap.size := by omega
    have hb1 : Hid (Below w.heap.size w w1) := (((Below.refl _ _).alloc (Nat.le_refl _) _).alloc (by simp) _).alloc (by simp; omega) _ |>.trans (hb.mono (by simp; omega))
    have hnews : Hid (∀ o, ∀ j u, (z.map (Value.int .u8))[j]? = some u → (w1.alloc o).cell? (x.add j) = some u) := by
      intro o j u hu
      have hj : j < z.length := by
        have := (List.getElem?_eq_some_iff.1 hu).1; simpa using this
      have h1 := HX.out j (by have := HZ.out; omega)
      have hlt : (x.add j).block < w.heap.size := World.block_lt_of_cell? w (x.add j) h1
      rw [World.cell?_alloc_lt _ _ _ (by omega), hb1.out.cell hlt, h1]
      simp [hj] at hu ⊢
      exact hu
    have hown0 : Hid ((w1.alloc (.cells #[.int .u8 r] 5)).ownsRow w1.heap.size 5 1 (.slice (some ⟨w1.heap.size, 0, none⟩) 1 1) 1 [.int .u8 r]) := World.ownsRow_lit w1 #[.int .u8 r] 1 (Nat.le_refl _) (by unfold maxLen; omega) rfl
    have k0' : Hid (w1.cell? ⟨w.heap.size + 1, 0, none⟩ = some (.int .u16 0)) := by show _ = _; rw [hc _ _ (by simp), World.cell?_alloc_past _ _ _ (by simp), World.cell?_alloc_at _ _ _ _ (by simp)]; rfl
    have k1' : Hid (w1.cell? ⟨w.heap.size + 1, 1, none⟩ = some (.slice none 0 0)) := by show _ = _; rw [hc _ _ (by simp), World.cell?_alloc_past _ _ _ (by simp), World.cell?_alloc_at _ _ _ _ (by simp)]; rfl
    have k2' : Hid (w1.frozen? ⟨w.heap.size + 1, 0, none⟩ = false) := by show _ = _; rw [hf _ _ (by simp), World.frozen?_alloc_past _ _ _ (by simp), World.frozen?_alloc_at _ _ _ _ (by simp)]
    have k3' : Hid (w1.frozen? ⟨w.heap.size + 1, 1, none⟩ = false) := by show _ = _; rw [hf _ _ (by simp), World.frozen?_alloc_past _ _ _ (by simp), World.frozen?_alloc_at _ _ _ _ (by simp)]
    clear hb
    go_wp2_with (at_builtin; go_must (refine wpList_append_own _ rfl (.tmp 23) (.tmp 25) 22 rfl w1.heap.size 5 i0 (.int .u8 0) 1 1 Ybaf.underlying22 hi.out hz0 hz1 hz2 rfl (by decide) _ 1 [.int .u8 r] rfl hown0.out x len cap (z.map (Value.int .u8)) rfl hl1.out (hnews.out _) hone.out h63.out (by omega) (by simp) ?_; intro v' w2 hown hgrow hnil; obtain ⟨g, c, hv, hj⟩ := joined_of (f := r) HZ.out hb1.out hown hgrow (by intro e; cases (hnil.1 e).1); obtain ⟨hc2, hf2⟩ := old_cells hgrow; subst hv; have k0 := (hc2 (w.heap.size + 1) 0 hzb).trans k0'.out; have k1 := (hc2 (w.heap.size + 1) 1 hzb).trans k1'.out; have k2 := (hf2 (w.heap.size + 1) 0 hzb).trans k2'.out; have k3 := (hf2 (w.heap.size + 1) 1 hzb).trans k3'.out; clear hown hgrow hnil hc2 hf2))
    exact bodyPost_ret (v := .tuple #[.agg #[.int .u16 1, .slice (some ⟨g, 0, none⟩) (1 + len) c], .nilIface]) (by simp [results, Ybaf.results7, go_sem, k0, k1]) rfl ⟨g, c, rfl, made_of hj hb1.out hzb (by omega) _ _⟩
  · go_enter Ybaf.func7, Ybaf.ntmps7
    go_wp2_with fail
    refine (widths_ok _ r (w.heap.size + 1 + 1) _ hr hr2 (by rw [World.cell?_alloc_at _ _ _ _ (by simp)]; rfl) (by rw [World.cell?_alloc_at _ _ _ _ (by simp)]; rfl) (by rw [World.cell?_alloc_at _ _ _ _ (by simp)]; rfl)).mono ?_
    rintro e w1 ⟨rfl, hb⟩
    obtain ⟨hc, hf⟩ := bcell hb
    have hz : w.heap.size + 1 + 1 < w1.heap.size := by have := hb.size; simp at this; omega
    have hza : w.heap.size < w1.heap.size := by omega
    have hzb : w.heap.size + 1 < w1.heap.size := by omega
    have hb1 : Hid (Below w.heap.size w w1) := (((Below.refl _ _).alloc (Nat.le_refl _) _).alloc (by simp) _).alloc (by simp; omega) _ |>.trans (hb.mono (by simp; omega))
    have hnews : Hid (∀ o, ∀ j u, (z.map (Value.int .u8))[j]? = some u → (w1.alloc o).cell? (x.add j) = some u) := by
      intro o j u hu
      have hj : j < z.length := by
        have := (List.getElem?_eq_some_iff.1 hu).1; simpa using this
      have h1 := HX.out j (by have := HZ.out; omega)
      have hlt : (x.add j).block < w.heap.size := World.block_lt_of_cell? w (x.add j) h1
      rw [World.cell?_alloc_lt _ _ _ (by omega), hb1.out.cell hlt, h1]
      simp [hj] at hu ⊢
      exact hu
    have hown0 : Hid ((w1.alloc (.cells #[.int .u8 (r + 128)] 5)).ownsRow w1.heap.size 5 1 (.slice (some ⟨w1.heap.size, 0, none⟩) 1 1) 1 [.int .u8 (r + 128)]) := World.ownsRow_lit w1 #[.int .u8 (r + 128)] 1 (Nat.le_refl _) (by unfold maxLen; omega) rfl
    have k0' : Hid (w1.cell? ⟨w.heap.size + 1, 0, none⟩ = some (.int .u16 0)) := by show _ = _; rw [hc _ _ (by simp), World.cell?_alloc_past _ _ _ (by simp), World.cell?_alloc_at _ _ _ _ (by simp)]; rfl
    have k1' : Hid (w1.cell? ⟨w.heap.size + 1, 1, none⟩ = some (.slice none 0 0)) := by show _ = _; rw [hc _ _ (by simp), World.cell?_alloc_past _ _ _ (by simp), World.cell?_alloc_at _ _ _ _ (by simp)]; rfl
    have k2' : Hid (w1.frozen? ⟨w.heap.size + 1, 0, none⟩ = false) := by show _ = _; rw [hf _ _ (by simp), World.frozen?_alloc_past _ _ _ (by simp), World.frozen?_alloc_at _ _ _ _ (by simp)]
    have k3' : Hid (w1.frozen? ⟨w.heap.size + 1, 1, none⟩ = false) := by show _ = _; rw [hf _ _ (by simp), World.frozen?_alloc_past _ _ _ (by simp), World.frozen?_alloc_at _ _ _ _ (by simp)]
    clear hb
    go_wp2_with (at_builtin; go_must (refine wpList_append_own _ rfl (.tmp 23) (.tmp 25) 22 rfl w1.heap.size 5 i0 (.int .u8 0) 1 1 Ybaf.underlying22 hi.out hz0 hz1 hz2 rfl (by decide) _ 1 [.int .u8 (r + 128)] rfl hown0.out x len cap (z.map (Value.int .u8)) rfl hl1.out (hnews.out _) hone.out h63.out (by omega) (by simp) ?_; intro v' w2 hown hgrow hnil; obtain ⟨g, c, hv, hj⟩ := joined_of (f := (r + 128)) HZ.out hb1.out hown hgrow (by intro e; cases (hnil.1 e).1); obtain ⟨hc2, hf2⟩ := old_cells hgrow; subst hv; have k0 := (hc2 (w.heap.size + 1) 0 hzb).trans k0'.out; have k1 := (hc2 (w.heap.size + 1) 1 hzb).trans k1'.out; have k2 := (hf2 (w.heap.size + 1) 0 hzb).trans k2'.out; have k3 := (hf2 (w.heap.size + 1) 1 hzb).trans k3'.out; clear hown hgrow hnil hc2 hf2))
    exact bodyPost_ret (v := .tuple #[.agg #[.int .u16 1, .slice (some ⟨g, 0, none⟩) (1 + len) c], .nilIface]) (by simp [results, Ybaf.results7, go_sem, k0, k1]) rfl ⟨g, c, rfl, made_of hj hb1.out hzb (by omega) _ _⟩

/-- .. and where nothing is appended the value is the literal itself. -/
theorem made_lit {w w1 : World} {b : Nat} (hb : Below w.heap.size w w1) (hw : w.heap.size ≤ b) (u1 u2 : Value) (f : Int) :
    Made w (((w1.setCell ⟨b, 0, none⟩ u1).setCell ⟨b, 1, none⟩ u2).alloc (.cells #[.int .u8 f] 5)) f [] 0 w1.heap.size 1 := by
  have hsz := hb.size
  refine ⟨hsz, by simp, by omega, by unfold maxLen; omega, ?_, by intro j hj; omega, ((hb.setCell (by exact hw) _).setCell (by exact hw) _).alloc (by simpa using hsz) _⟩
  rw [World.cell?_alloc_at _ _ _ _ (by simp)]; rfl

set_option maxRecDepth 20000 in
set_option maxHeartbeats 400000 in
theorem tlv_ok_none (m : Bool) (r : Int) (w : World) (hr : 0 ≤ r) (hr2 : r < 128) :
    Calls Ybaf.prog 7 #[.agg #[.bool m, .int .u8 r, .slice none 0 0]] w fun e w' =>
      ∃ g c, e = .returned (.tuple #[.agg #[.int .u16 1, .slice (some ⟨g, 0, none⟩) (1 + 0) c], .nilIface]) ∧ Made w w' (flags m r) [] 0 g c := by
  obtain ⟨i0, hi', hz0, hz1, hz2⟩ := info_parts info5
  have hi : Hid (Ybaf.prog.info? 5 = some i0) := hi'
  have hor : bits .or .u8 r 128 = r + 128 := or128 r hr hr2
  clear hi'
  cases m
  · go_enter Ybaf.func7, Ybaf.ntmps7
    go_wp2_with fail
    refine (widths_ok _ r (w.heap.size + 1 + 1) _ hr hr2 (by rw [World.cell?_alloc_at _ _ _ _ (by simp)]; rfl) (by rw [World.cell?_alloc_at _ _ _ _ (by simp)]; rfl) (by rw [World.cell?_alloc_at _ _ _ _ (by simp)]; rfl)).mono ?_
    rintro e w1 ⟨rfl, hb⟩
    obtain ⟨hc, hf⟩ := bcell hb
    have hz : w.heap.size + 1 + 1 < w1.heap.size := by have := hb.size; simp at this; omega
    have hza : w.heap.size < w1.heap.size := by omega
    have hzb : w.heap.size + 1 < w1.heap.size := by omega
    have hb1 : Hid (Below w.heap.size w w1) := (((Below.refl _ _).alloc (Nat.le_refl _) _).alloc (by simp) _).alloc (by simp; omega) _ |>.trans (hb.mono (by simp; omega))
    have hown0 : Hid ((w1.alloc (.cells #[.int .u8 r] 5)).ownsRow w1.heap.size 5 1 (.slice (some ⟨w1.heap.size, 0, none⟩) 1 1) 1 [.int .u8 r]) := World.ownsRow_lit w1 #[.int .u8 r] 1 (Nat.le_refl _) (by unfold maxLen; omega) rfl
    clear hb
    go_wp2_with (at_builtin; go_must (refine wpList_append_own_none rfl (.tmp 23) (.tmp 25) 22 rfl w1.heap.size 5 i0 1 Ybaf.underlying22 hi.out _ 1 [.int .u8 r] rfl hown0.out rfl ?_))
    exact bodyPost_ret (v := .tuple #[.agg #[.int .u16 1, .slice (some ⟨w1.heap.size, 0, none⟩) 1 1], .nilIface]) (by simp [results, Ybaf.results7, go_sem, hzb, hc]) rfl ⟨w1.heap.size, 1, rfl, made_lit hb1.out (by omega) _ _ _⟩
  · go_enter Ybaf.func7, Ybaf.ntmps7
    go_wp2_with fail
    refine (widths_ok _ r (w.heap.size + 1 + 1) _ hr hr2 (by rw [World.cell?_alloc_at _ _ _ _ (by simp)]; rfl) (by rw [World.cell?_alloc_at _ _ _ _ (by simp)]; rfl) (by rw [World.cell?_alloc_at _ _ _ _ (by simp)]; rfl)).mono ?_
    rintro e w1 ⟨rfl, hb⟩
    obtain ⟨hc, hf⟩ := bcell hb
    have hz : w.heap.size + 1 + 1 < w1.heap.size := by have := hb.size; simp at this; omega
    have hza : w.heap.size < w1.heap.size := by omega
    have hzb : w.heap.size + 1 < w1.heap.size := by omega
    have hb1 : Hid (Below w.heap.size w w1) := (((Below.refl _ _).alloc (Nat.le_refl _) _).alloc (by simp) _).alloc (by simp; omega) _ |>.trans (hb.mono (by simp; omega))
    have hown0 : Hid ((w1.alloc (.cells #[.int .u8 (r + 128)] 5)).ownsRow w1.heap.size 5 1 (.slice (some ⟨w1.heap.size, 0, none⟩) 1 1) 1 [.int .u8 (r + 128)]) := World.ownsRow_lit w1 #[.int .u8 (r + 128)] 1 (Nat.le_refl _) (by unfold maxLen; omega) rfl
    clear hb
    go_wp2_with (at_builtin; go_must (refine wpList_append_own_none rfl (.tmp 23) (.tmp 25) 22 rfl w1.heap.size 5 i0 1 Ybaf.underlying22 hi.out _ 1 [.int .u8 (r + 128)] rfl hown0.out rfl ?_))
    exact bodyPost_ret (v := .tuple #[.agg #[.int .u16 1, .slice (some ⟨w1.heap.size, 0, none⟩) 1 1], .nilIface]) (by simp [results, Ybaf.results7, go_sem, hzb, hc]) rfl ⟨w1.heap.size, 1, rfl, made_lit hb1.out (by omega) _ _ _⟩

end Go.Proofs.YbulkanseFmt.Wk
