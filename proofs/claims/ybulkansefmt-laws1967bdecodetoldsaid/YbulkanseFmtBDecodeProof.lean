/- The proof of 'Rows.LawS1967BDecodeToldSaid': the walks are YbulkanseFmtBDecodeWalk's, the start that is shown to be there is YbulkanseFmtLaid's. -/
import Derived.Test.YbulkanseFmtBDecodeWalk
import Derived.Test.YbulkanseFmtLaid
import Derived.Test.YbulkanseFmtTie
import Derived.Test.YbulkanseFmtCards
import Derived.ProofKit
import Derived.OpenShut
import Derived.OpenVars
import Derived.ChangeOld
import Derived.Stop.JoinedTold
namespace Go.Proofs.YbulkanseFmt.BDecode
open Go.ChangeShapes Go.WideShapes Go.ChangeAt Go.RowKit
open Go.Extern.Stop Go.Stop Go.Extern
set_option linter.unusedVariables false

theorem own : ownKnob Ybaf.prog.godebug = none := by kernel_rfl
theorem laidOut : laidOutB Ybaf.prog = true := by kernel_rfl

theorem walk (a : Option Addr) (len cap : Nat) (z : List Int) (w : World) (hm : len ≤ maxLen)
    (hs : (a = none ∧ len = 0 ∧ cap = 0) ∨ ∃ x, a = some x ∧ len ≤ cap ∧ z.length = cap ∧ (∀ j, j < z.length → w.cell? (x.add j) = some (.int .u8 (z.getD j 0))) ∧ ∀ n ∈ z, (Lit.int .u8 n).wf = true) :
    Calls Ybaf.prog 5 #[.slice a len cap] w fun e w' => e = .returned (.bool true) ∧ Below w.heap.size w w' := by
  by_cases hl : 1024 < len
  · exact Wk.decode_long a len cap w hl hm
  · by_cases hb : len < 4
    · exact Wk.decode_short a len cap w hb
    · rcases hs with ⟨rfl, rfl, rfl⟩ | ⟨x, rfl, hc, hz, hx, hwf⟩
      · omega
      · obtain ⟨b, off, rfl, hcell⟩ := ints_at hx (by omega)
        refine Wk.decode_ok b off len cap z w (by omega) (by omega) hc (fun j hj => hcell j (by omega)) (fun j hj => ?_)
        have := range_u8 hwf j
        rw [List.getD_eq_getElem?_getD]
        exact this

set_option maxRecDepth 100000 in
theorem lifted (os : Os) (started : os.Started) (H : Type) (enc : TypeId × Value → H) :
    ReturnsInTold none {} Ybaf.checked os 5 .any Input.okWide ((OpenSpec.ofChange Rows.lawS1967BDecodeSpec).preRow enc Ybaf.prog Ybaf.f5 Rows.lawS1967BDecodeRow.domain false Rows.lawS1967BDecodeRow.laid)
      (fun F => ((OpenSpec.ofChange Rows.lawS1967BDecodeSpec).at F).post enc Ybaf.prog Ybaf.f5 false true false false) (aloneAtReturn Ybaf.prog) nothingAlways := by
  refine returnsInTold_of_row (C := Ybaf.checked) (s := OpenSpec.ofChange Rows.lawS1967BDecodeSpec) (by kernel_rfl) own started (by kernel_rfl) Ybaf.func5
    (OpenSpec.witness_stopped_at (enc := enc) (C := Ybaf.checked) false (Laid.world Ybaf.prog os) #[.slice none 0 0] rfl (by kernel_rfl) (by kernel_rfl) (by kernel_rfl)
      (OpenSpec.preRow_of_B rfl 8 (by kernel_rfl) (by kernel_rfl) (Laid.met_one os _))) ?_
  intro F W base args ds gs before _ hF hval0 hW _ _ hsz _ _
  have hval : ∀ (j : Nat) t v, Ybaf.f5.params[j]? = some t → args[j]? = some v → Value.okWide Ybaf.prog W .any base t v := hval0
  have hW' := hW
  obtain ⟨p, q, hA0, hV, rfl, hfz, hnd⟩ := hW
  have hA : DataW.TrodAll enc Ybaf.prog W 0 (fun _ => true) true Ybaf.f5.params.toList args.toList ds p := hA0
  rw [Ybaf.params5] at hA hval
  obtain ⟨v0, vs0, d0, ds0, p0, q0, hargs, rfl, rfl, h0, r0⟩ := trodAll_cons hA
  obtain ⟨rfl, rfl, rfl⟩ := trodAll_nil r0
  obtain rfl : args = #[v0] := by cases args; simp_all
  obtain ⟨a, len, cap, rfl⟩ := okWide_slice Ybaf.underlying22 (hval 0 22 v0 rfl rfl)
  have k0 := h0
  have lt0 : ∀ x ∈ p0, x.block < W.heap.size := by obtain ⟨n, hn⟩ := k0; exact DataW.trod_lt n _ _ _ hn
  obtain ⟨z, hm, hs⟩ : ∃ z : List Int, len ≤ maxLen ∧ ((a = none ∧ len = 0 ∧ cap = 0) ∨ ∃ x, a = some x ∧ len ≤ cap ∧ z.length = cap ∧ (∀ j, j < z.length → W.cell? (x.add j) = some (.int .u8 (z.getD j 0))) ∧ ∀ n ∈ z, (Lit.int .u8 n).wf = true) := by
    obtain ⟨fuel, hf⟩ := h0
    rcases open_ints Ybaf.underlying22 Ybaf.underlying5 (by kernel_rfl) hf with ⟨hcs, _⟩ | ⟨x, l, c, zs, hcs, _, hl, hm, hz, _, hcell, hwz⟩
    · simp [Value.cells] at hcs
      obtain ⟨rfl, rfl, rfl⟩ := hcs
      exact ⟨[], Nat.zero_le _, .inl ⟨rfl, rfl, rfl⟩⟩
    · simp [Value.cells] at hcs
      obtain ⟨rfl, rfl, rfl⟩ := hcs
      exact ⟨zs, by omega, .inr ⟨x, rfl, hl, by simpa using hz, hcell, hwz⟩⟩
  obtain ⟨g1, rfl⟩ : ∃ g1, gs = [g1] := by
    match gs, hV with
    | [g1], _ => exact ⟨g1, rfl⟩
    | [], h => exact h.elim
    | _ :: _ :: _, h => obtain ⟨_, _, _, _, _, _, _, _, _, _, hs, _⟩ := h; exact hs.elim
  clear hA0 hval0
  refine (walk a len cap z W hm hs).mono fun e W' ⟨he, bel⟩ => ?_
  subst he
  exact ⟨_, rfl, _, _, _, [], _, q, hW', trodAll_mk1 (shut_bool Ybaf.underlying4 _), (trodAll_cons_mk (Below.trod laidOut (by kernel_rfl) (of_decide_eq_true (by kernel_rfl)) k0 bel lt0) trodAll_mk0), Below.trodVars laidOut bel (by kernel_rfl) hV, bel.frame _, fun h => by cases h⟩

theorem stops : Ybaf.pinned.checked.prog.stops = ["fmt.errorf"] := by kernel_rfl
theorem stopKnobs : Ybaf.pinned.checked.prog.stopKnobs = [] := by kernel_rfl
theorem quiet (os : Os) : Stop.quiet Ybaf.pinned.checked.prog os := by
  intro k hk
  rw [stopKnobs] at hk
  cases hk

theorem over : Claim7.holds Ybaf.pinned (.plain (OpenSpec.ofChange Rows.lawS1967BDecodeSpec)) (Claim7.toldTiedRowAt .later Rows.lawS1967BDecodeRow (true, "45a9495e1186bfd3bd2bff885913939ad5f8eb4ed6f9d7d0b51e7e35306529ef") true false [.data, .data, .data, .sentinel] true) :=
  Claim7.holds_of_told_tied_any_at .later 5 Ybaf.f5 "fmt.errorf" [] [] _ _ _ _ _ (by kernel_rfl) rfl rfl rfl laidOut (by kernel_rfl) rfl ⟨rfl, rfl, rfl, rfl, rfl, rfl, rfl⟩ rfl rfl (by kernel_rfl) (by kernel_rfl) Ybaf.func5 (by kernel_rfl)
    (of_decide_eq_true (by kernel_rfl)) (by unfold Func.isWrapper; first | (rw [if_pos (by decide +kernel)]; kernel_rfl) | (rw [if_neg (by decide +kernel)]; exact ⟨rfl, rfl⟩)) stops.symm rfl stopKnobs.symm (by kernel_rfl)
    (by kernel_rfl) (by kernel_rfl) (by kernel_rfl) (by kernel_rfl) (by kernel_rfl) (by kernel_rfl) (by kernel_rfl) (by kernel_rfl) (by kernel_rfl) rfl (by kernel_rfl) rfl rfl
    rfl rfl
    rfl (by kernel_rfl) (by kernel_rfl) (by kernel_rfl) (by decide) (by kernel_rfl) lawS1967BDecode_row_tie
    (OpenClaim.moreEntering_of (by kernel_rfl) (by kernel_rfl) (by kernel_rfl) (by kernel_rfl) (by kernel_rfl) (by kernel_rfl) (by kernel_rfl) (by kernel_rfl) (by kernel_rfl) (by kernel_rfl))
    ⟨_, WideRow.started_initial, quiet _⟩
    (fun os started _ H enc _ => lifted os started H enc)

theorem proved : Rows.LawS1967BDecodeToldSaid := over
#print axioms proved
end Go.Proofs.YbulkanseFmt.BDecode
