import Derived.Test.YbulkanseRows
import Derived.WalkKit
import Derived.WalkSpells
import Derived.WalkLawsBesides
namespace Go.Proofs.Ybulkanse.First
open Go.RowKit

/-- The slice of n TLVs that the law has made: its row is block b; TLV j has the type 'ts j' and a value of two octets, in block 'vb j'. -/
def Tlvs (w : World) (b n : Nat) (ts : Nat → Int) (vb : Nat → Nat) : Prop :=
  ∀ j, j < n → w.cell? ⟨b, j * 2, none⟩ = some (.int .u16 (ts j)) ∧ w.cell? ⟨b, j * 2 + 1, none⟩ = some (.slice (some ⟨vb j, 0, none⟩) 2 2)

set_option maxHeartbeats 400000 in
theorem find_any (c0 c1 c2 c3 c4 c5 c6 c7 c8 c9 c10 c11 c12 : Value) (b n : Nat) (t : Int) (ts : Nat → Int) (vb : Nat → Nat) (w : World) (hn : n ≤ 1024) (hb : b < w.heap.size)
    (h : Tlvs w b n ts vb) :
    Calls Yba.prog 4 #[.agg #[c0, c1, c2, c3, c4, c5, c6, c7, c8, c9, c10, c11, c12, .slice (some ⟨b, 0, none⟩) n n], .int .u16 t] w fun e w' =>
      ((∃ k, k < n ∧ (∀ j, j < k → ts j ≠ t) ∧ ts k = t ∧ e = .returned (.tuple #[.agg #[.int .u16 t, .slice (some ⟨vb k, 0, none⟩) 2 2], .bool true])) ∨
       ((∀ j, j < n → ts j ≠ t) ∧ e = .returned (.tuple #[.agg #[.int .u16 0, .slice none 0 0], .bool false]))) ∧ Below w.heap.size w w' := by
  go_enter Yba.func4, Yba.ntmps4
  go_wp2
  go_loopw [11] (fun i wr => ∃ k : Nat, k ≤ n ∧ i = .int .i64 k ∧ (∀ j, j < k → ts j ≠ t) ∧ Below w.heap.size w wr ∧ w.heap.size + 1 < wr.heap.size ∧
      wr.cell? ⟨w.heap.size + 1, 0, none⟩ = some (.int .u16 0) ∧ wr.cell? ⟨w.heap.size + 1, 1, none⟩ = some (.slice none 0 0) ∧
      wr.frozen? ⟨w.heap.size + 1, 0, none⟩ = false ∧ wr.frozen? ⟨w.heap.size + 1, 1, none⟩ = false) (fun i _ => n - (intOf i).toNat)
  case atStart =>
    exact ⟨0, Nat.zero_le _, rfl, by intro j hj; omega, (((Below.refl _ _).alloc (Nat.le_refl _) _).alloc (by simp) _), by simp, by simp, by simp, by simp, by simp⟩
  case round =>
    obtain ⟨k, hk, rfl, hno, hbel, hsz, hc0, hc1, hf0, hf1⟩ := hrel
    by_cases hlt : k < n
    · obtain ⟨g0, g1⟩ := h k hlt
      have G0 : wr.cell? ⟨b, k * 2, none⟩ = some (.int .u16 (ts k)) := (hbel.cell (by exact hb)).trans g0
      have G1 : wr.cell? ⟨b, k * 2 + 1, none⟩ = some (.slice (some ⟨vb k, 0, none⟩) 2 2) := (hbel.cell (by exact hb)).trans g1
      clear g0 g1
      by_cases heq : ts k = t
      · have hq : (ts k == t) = true := by simpa using heq
        have HQ : Hid (ts k = t) := heq
        clear heq
        go_wp2
        refine bodyPost_ret (v := .tuple #[.agg #[.int .u16 (ts k), .slice (some ⟨vb k, 0, none⟩) 2 2], .bool true]) (by simp [results, Yba.results4, go_sem, hsz, hc0, hc1]) rfl ⟨Or.inl ⟨k, hlt, hno, HQ.out, ?_⟩, ?_⟩
        · rw [HQ.out]
        · exact ((hbel.setCell (by simp) _).setCell (by simp) _).alloc (by simp; omega) _
      · have hq : (ts k == t) = false := by simpa using heq
        have HN : Hid (ts k ≠ t) := heq
        clear heq
        go_wp2
        go_roundw
        case rel =>
          refine ⟨k + 1, by omega, by go_num, ?_, hbel.alloc (by omega) _, by simp; omega, ?_, ?_, ?_, ?_⟩
          · intro j hj
            by_cases e : j = k
            · subst e; exact HN.out
            · exact hno j (by omega)
          · rw [World.cell?_alloc_past _ _ _ hsz]; exact hc0
          · rw [World.cell?_alloc_past _ _ _ hsz]; exact hc1
          · rw [World.frozen?_alloc_past _ _ _ hsz]; exact hf0
          · rw [World.frozen?_alloc_past _ _ _ hsz]; exact hf1
        case measure => simp [intOf]; omega
    · go_wp2
      refine bodyPost_ret (v := .tuple #[.agg #[.int .u16 0, .slice none 0 0], .bool false]) (by simp [results, Yba.results4, go_sem, hc0, hc1]) rfl ⟨Or.inr ⟨fun j hj => hno j (by omega), rfl⟩, ?_⟩
      exact (hbel.setCell (by simp) _).setCell (by simp) _
end Go.Proofs.Ybulkanse.First
