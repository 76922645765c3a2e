import Derived.Test.YbulkanseFmtRows
import Derived.WalkKit
import Derived.WalkSpells
import Derived.WalkLawsBesides
import Derived.Deep.QuietTactic
import Derived.BigQuiet
namespace Go.Proofs.YbulkanseFmt.Wk
open Go.RowKit

/-- The first n elements of a slice of bytes are the numbers z. -/
def Elems (w : World) (a : Option Addr) (n : Nat) (z : List Int) : Prop :=
  ∀ j, j < n → ∃ b off, a = some ⟨b, off, none⟩ ∧ w.cell? ⟨b, off + j, none⟩ = some (.int .u8 (z.getD j 0))

set_option maxHeartbeats 400000 in
theorem aeq_any (a0 a1 : Option Addr) (n c0 c1 : Nat) (z : List Int) (w : World) (hn : n ≤ 1024) (h0 : Elems w a0 n z) (h1 : Elems w a1 n z) :
    Calls Ybaf.prog 8 #[.slice a0 n c0, .slice a1 n c1] w fun e w' => e = .returned (.bool true) ∧ ∃ q, w' = w.drewN q := by
  go_enter Ybaf.func8, Ybaf.ntmps8
  go_wp2
  go_loopw [5] (fun i wr => ∃ k q : Nat, k ≤ n ∧ i = .int .i64 k ∧ wr = w.drewN q) (fun i _ => n - (intOf i).toNat)
  case atStart => exact ⟨0, 0, Nat.zero_le _, rfl, rfl⟩
  case round =>
    obtain ⟨k, q, hk, rfl, rfl⟩ := hrel
    by_cases hlt : k < n
    · obtain ⟨b, off, ha, hc⟩ := h0 k hlt
      obtain ⟨b', off', ha', hc'⟩ := h1 k hlt
      subst ha ha'
      clear h0 h1
      go_wp2_with fail
      go_quiet (fail)
      go_wp2
      go_roundw
      case rel => exact ⟨k + 1, q + nq, by omega, by go_num, rfl⟩
      case measure => simp [intOf]; omega
    · clear h0 h1
      go_wp2
      go_ret
      exact ⟨rfl, q, rfl⟩

set_option maxHeartbeats 400000 in
theorem bsame_any (a0 a1 : Option Addr) (n c0 c1 : Nat) (z : List Int) (w : World) (hn : n ≤ 1024) (h0 : Elems w a0 n z) (h1 : Elems w a1 n z) :
    Calls Ybaf.prog 11 #[.slice a0 n c0, .slice a1 n c1] w fun e w' => e = .returned (.bool true) ∧ ∃ q, w' = w.drewN q := by
  go_enter Ybaf.func11, Ybaf.ntmps11
  go_wp2
  go_loopw [5] (fun i wr => ∃ k q : Nat, k ≤ n ∧ i = .int .i64 k ∧ wr = w.drewN q) (fun i _ => n - (intOf i).toNat)
  case atStart => exact ⟨0, 0, Nat.zero_le _, rfl, rfl⟩
  case round =>
    obtain ⟨k, q, hk, rfl, rfl⟩ := hrel
    by_cases hlt : k < n
    · obtain ⟨b, off, ha, hc⟩ := h0 k hlt
      obtain ⟨b', off', ha', hc'⟩ := h1 k hlt
      subst ha ha'
      clear h0 h1
      go_wp2_with fail
      go_quiet (fail)
      go_wp2
      go_roundw
      case rel => exact ⟨k + 1, q + nq, by omega, by go_num, rfl⟩
      case measure => simp [intOf]; omega
    · clear h0 h1
      go_wp2
      go_ret
      exact ⟨rfl, q, rfl⟩
end Go.Proofs.YbulkanseFmt.Wk
