/- The proof of 'Rows.LawS1967BShortToldSaid': the walks are YbulkanseFmtBShortWalk's, the start that is shown to be there is YbulkanseFmtLaid's. -/
import Derived.Test.YbulkanseFmtBShortWalk
import Derived.Test.YbulkanseFmtLaid
import Derived.Test.YbulkanseFmtTie
import Derived.Test.YbulkanseFmtCards
import Derived.ProofKit
import Derived.OpenShut
import Derived.OpenVars
import Derived.ChangeOld
import Derived.Stop.LaidErr
import Derived.Stop.JoinedTold
namespace Go.Proofs.YbulkanseFmt.BShort
open Go.ChangeShapes Go.WideShapes Go.ChangeAt Go.RowKit Go.Kit
open Go.Extern.Stop Go.Stop Go.Extern
set_option linter.unusedVariables false

theorem own : ownKnob Ybaf.prog.godebug = none := by kernel_rfl
theorem laidOut : laidOutB Ybaf.prog = true := by kernel_rfl

theorem gT : Ybaf.prog.globalNamed (Rows.lawS1967BShortSpec.vars.headD "") = some 0 := by kernel_rfl
theorem gTType : (Ybaf.prog.globals[0]?).map (·.type) = some 28 := by kernel_rfl
theorem cells90 : Ybaf.prog.cellsOf 90 = 1 := by kernel_rfl
theorem cells9 : Ybaf.prog.cellsOf 9 = 1 := by kernel_rfl

/-- Where the listed variable ErrTruncated holds what the text lays: it leads to an error of errors.New's make. -/
theorem sentinel (W : World) (hL : laidMet Ybaf.prog Rows.lawS1967BShortRow.laid W) : ∃ (a : Addr) (s : ByteArray), W.cell? ⟨0, 0, none⟩ = some (.iface 88 (.pointer (some a))) ∧ W.cell? a = some (.string s) := by
  obtain ⟨a, s, hv, hc, _, _⟩ := laid_sentinel (g := 0) (tp := 88) hL.tail.tail.tail gT gTType Ybaf.underlying28
    (fun u h => typeName_ptr_named (nm := "errors.errorString") (tp := 88) (by kernel_rfl) (by kernel_rfl) (by decide) u (h.trans (congrArg some (by decide))))
    Ybaf.underlying88 Ybaf.underlying90 rfl rfl Ybaf.underlying9 cells90 cells9
  exact ⟨a, s, by simpa using World.var?_cell gT hv 0, hc⟩

theorem walk (a : Option Addr) (len cap : Nat) (z : List Int) (p : Addr) (s : ByteArray) (w : World) (hm : len ≤ maxLen)
    (hs : (a = none ∧ len = 0 ∧ cap = 0) ∨ ∃ x, a = some x ∧ len ≤ cap ∧ z.length = cap ∧ (∀ j, j < z.length → w.cell? (x.add j) = some (.int .u8 (z.getD j 0))) ∧ ∀ n ∈ z, (Lit.int .u8 n).wf = true)
    (hg : w.cell? ⟨0, 0, none⟩ = some (.iface 88 (.pointer (some p)))) (hp : w.cell? p = some (.string s)) :
    Calls Ybaf.prog 6 #[.slice a len cap] w fun e w' => e = .returned (.bool true) ∧ Below w.heap.size w w' := by
  by_cases hl : 4 ≤ len
  · exact Wk.short_long a len cap w hl hm
  · rcases hs with ⟨rfl, rfl, rfl⟩ | ⟨x, rfl, hc, hz, hx, hwf⟩
    · exact Wk.short_any none 0 0 [] p w (by omega) (by intro j hj; omega) hg (Wk.parse_two none 0 0 p s w (by omega) hp hg)
    · have hE : Wk.Elems w (some x) len z := by
        intro j hj
        obtain ⟨b, off, rfl, hcell⟩ := ints_at hx (by omega)
        exact ⟨b, off, rfl, hcell j (by omega)⟩
      by_cases h2 : len ≤ 2
      · exact Wk.short_any (some x) len cap z p w (by omega) hE hg (Wk.parse_two (some x) len cap p s w h2 hp hg)
      · obtain ⟨b, off, rfl, hcell⟩ := ints_at hx (by omega)
        have bd : ∀ j, 0 ≤ z.getD j 0 ∧ z.getD j 0 ≤ 255 := by
          intro j
          have := range_u8 hwf j
          rw [List.getD_eq_getElem?_getD]
          exact this
        exact Wk.short_any _ len cap z p w (by omega) hE hg (Wk.parse_three b off len cap _ _ _ p s w (by omega) hc (hcell 0 (by omega)) (hcell 1 (by omega)) (hcell 2 (by omega)) (bd 0) (bd 1) (bd 2) hp hg)

set_option maxRecDepth 100000 in
theorem lifted (os : Os) (started : os.Started) (H : Type) (enc : TypeId × Value → H) :
    ReturnsInTold none {} Ybaf.checked os 6 .any Input.okWide ((OpenSpec.ofChange Rows.lawS1967BShortSpec).preRow enc Ybaf.prog Ybaf.f6 Rows.lawS1967BShortRow.domain false Rows.lawS1967BShortRow.laid)
      (fun F => ((OpenSpec.ofChange Rows.lawS1967BShortSpec).at F).post enc Ybaf.prog Ybaf.f6 false true false false) (aloneAtReturn Ybaf.prog) nothingAlways := by
  refine returnsInTold_of_row (C := Ybaf.checked) (s := OpenSpec.ofChange Rows.lawS1967BShortSpec) (by kernel_rfl) own started (by kernel_rfl) Ybaf.func6
    (OpenSpec.witness_stopped_at (enc := enc) (C := Ybaf.checked) false (Laid.world Ybaf.prog os) #[.slice none 0 0] rfl (by kernel_rfl) (by kernel_rfl) (by kernel_rfl)
      (OpenSpec.preRow_of_B rfl 8 (by kernel_rfl) (by kernel_rfl) (Laid.met_one os _))) ?_
  intro F W base args ds gs before _ hF hval0 hW _ _ hsz hL _
  have hval : ∀ (j : Nat) t v, Ybaf.f6.params[j]? = some t → args[j]? = some v → Value.okWide Ybaf.prog W .any base t v := hval0
  have hW' := hW
  obtain ⟨p, q, hA0, hV, rfl, hfz, hnd⟩ := hW
  have hA : DataW.TrodAll enc Ybaf.prog W 0 (fun _ => true) true Ybaf.f6.params.toList args.toList ds p := hA0
  rw [Ybaf.params6] at hA hval
  obtain ⟨v0, vs0, d0, ds0, p0, q0, hargs, rfl, rfl, h0, r0⟩ := trodAll_cons hA
  obtain ⟨rfl, rfl, rfl⟩ := trodAll_nil r0
  obtain rfl : args = #[v0] := by cases args; simp_all
  obtain ⟨a, len, cap, rfl⟩ := okWide_slice Ybaf.underlying22 (hval 0 22 v0 rfl rfl)
  have k0 := h0
  have lt0 : ∀ x ∈ p0, x.block < W.heap.size := by obtain ⟨n, hn⟩ := k0; exact DataW.trod_lt n _ _ _ hn
  obtain ⟨z, hm, hs⟩ : ∃ z : List Int, len ≤ maxLen ∧ ((a = none ∧ len = 0 ∧ cap = 0) ∨ ∃ x, a = some x ∧ len ≤ cap ∧ z.length = cap ∧ (∀ j, j < z.length → W.cell? (x.add j) = some (.int .u8 (z.getD j 0))) ∧ ∀ n ∈ z, (Lit.int .u8 n).wf = true) := by
    obtain ⟨fuel, hf⟩ := h0
    rcases open_ints Ybaf.underlying22 Ybaf.underlying5 (by kernel_rfl) hf with ⟨hcs, _⟩ | ⟨x, l, c, zs, hcs, _, hl, hm, hz, _, hcell, hwz⟩
    · simp [Value.cells] at hcs
      obtain ⟨rfl, rfl, rfl⟩ := hcs
      exact ⟨[], Nat.zero_le _, .inl ⟨rfl, rfl, rfl⟩⟩
    · simp [Value.cells] at hcs
      obtain ⟨rfl, rfl, rfl⟩ := hcs
      exact ⟨zs, by omega, .inr ⟨x, rfl, hl, by simpa using hz, hcell, hwz⟩⟩
  obtain ⟨g1, rfl⟩ : ∃ g1, gs = [g1] := by
    match gs, hV with
    | [g1], _ => exact ⟨g1, rfl⟩
    | [], h => exact h.elim
    | _ :: _ :: _, h => obtain ⟨_, _, _, _, _, _, _, _, _, _, hs, _⟩ := h; exact hs.elim
  clear hA0 hval0
  obtain ⟨pt, st, hg, hp⟩ := sentinel W hL
  refine (walk a len cap z pt st W hm hs hg hp).mono fun e W' ⟨he, bel⟩ => ?_
  subst he
  exact ⟨_, rfl, _, _, _, [], _, q, hW', trodAll_mk1 (shut_bool Ybaf.underlying4 _), (trodAll_cons_mk (Below.trod laidOut (by kernel_rfl) (of_decide_eq_true (by kernel_rfl)) k0 bel lt0) trodAll_mk0), Below.trodVars laidOut bel (by kernel_rfl) hV, bel.frame _, fun h => by cases h⟩

theorem stops : Ybaf.pinned.checked.prog.stops = ["fmt.errorf"] := by kernel_rfl
theorem stopKnobs : Ybaf.pinned.checked.prog.stopKnobs = [] := by kernel_rfl
theorem quiet (os : Os) : Stop.quiet Ybaf.pinned.checked.prog os := by
  intro k hk
  rw [stopKnobs] at hk
  cases hk

theorem over : Claim7.holds Ybaf.pinned (.plain (OpenSpec.ofChange Rows.lawS1967BShortSpec)) (Claim7.toldTiedRowAt .later Rows.lawS1967BShortRow (true, "45a9495e1186bfd3bd2bff885913939ad5f8eb4ed6f9d7d0b51e7e35306529ef") true false [.data, .data, .data, .sentinel] true) :=
  Claim7.holds_of_told_tied_any_at .later 6 Ybaf.f6 "fmt.errorf" [] [] _ _ _ _ _ (by kernel_rfl) rfl rfl rfl laidOut (by kernel_rfl) rfl ⟨rfl, rfl, rfl, rfl, rfl, rfl, rfl⟩ rfl rfl (by kernel_rfl) (by kernel_rfl) Ybaf.func6 (by kernel_rfl)
    (of_decide_eq_true (by kernel_rfl)) (by unfold Func.isWrapper; first | (rw [if_pos (by decide +kernel)]; kernel_rfl) | (rw [if_neg (by decide +kernel)]; exact ⟨rfl, rfl⟩)) stops.symm rfl stopKnobs.symm (by kernel_rfl)
    (by kernel_rfl) (by kernel_rfl) (by kernel_rfl) (by kernel_rfl) (by kernel_rfl) (by kernel_rfl) (by kernel_rfl) (by kernel_rfl) (by kernel_rfl) rfl (by kernel_rfl) rfl rfl
    rfl rfl
    rfl (by kernel_rfl) (by kernel_rfl) (by kernel_rfl) (by decide) (by kernel_rfl) lawS1967BShort_row_tie
    (OpenClaim.moreEntering_of (by kernel_rfl) (by kernel_rfl) (by kernel_rfl) (by kernel_rfl) (by kernel_rfl) (by kernel_rfl) (by kernel_rfl) (by kernel_rfl) (by kernel_rfl) (by kernel_rfl))
    ⟨_, WideRow.started_initial, quiet _⟩
    (fun os started _ H enc _ => lifted os started H enc)

theorem proved : Rows.LawS1967BShortToldSaid := over
#print axioms proved
end Go.Proofs.YbulkanseFmt.BShort
