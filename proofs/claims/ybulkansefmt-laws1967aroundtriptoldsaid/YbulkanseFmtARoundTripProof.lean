/- The proof of 'Rows.LawS1967ARoundTripToldSaid': the walks are YbulkanseFmtARoundTripWalk's, the start that is shown to be there is YbulkanseFmtLaid's. -/
import Derived.Test.YbulkanseFmtARoundTripWalk
import Derived.Test.YbulkanseFmtLaid
import Derived.Test.YbulkanseFmtTie
import Derived.Test.YbulkanseFmtCards
import Derived.ProofKit
import Derived.OpenShut
import Derived.OpenVars
import Derived.ChangeOld
import Derived.Stop.JoinedTold
namespace Go.Proofs.YbulkanseFmt.ARoundTrip
open Go.ChangeShapes Go.WideShapes Go.ChangeAt Go.RowKit
open Go.Extern.Stop Go.Stop Go.Extern
set_option linter.unusedVariables false

theorem own : ownKnob Ybaf.prog.godebug = none := by kernel_rfl
theorem laidOut : laidOutB Ybaf.prog = true := by kernel_rfl

theorem walk (m : Bool) (r : Int) (a : Option Addr) (len cap : Nat) (z : List Int) (w : World) (hr : 0 ≤ r ∧ r ≤ 255) (hm : len ≤ maxLen)
    (hs : (a = none ∧ len = 0 ∧ cap = 0 ∧ z = []) ∨ ∃ x, a = some x ∧ z.length = len ∧ ∀ j, j < len → w.cell? (x.add j) = some (.int .u8 (z.getD j 0))) :
    Calls Ybaf.prog 4 #[.bool m, .int .u8 r, .slice a len cap] w fun e w' => e = .returned (.bool true) ∧ Below w.heap.size w w' := by
  by_cases hl : 1024 < len
  · exact Wk.round_long m r a len cap w hl hm
  · rcases hs with ⟨rfl, rfl, rfl, rfl⟩ | ⟨x, rfl, hz, hx⟩
    · exact Wk.round_ok m r none 0 0 [] w (by omega) hr.1 hr.2 (by intro j hj; omega) (Wk.tlv_ok_none m (r % 128) w (by omega) (by omega))
    · refine Wk.round_ok m r (some x) len cap z w (by omega) hr.1 hr.2 ?_ (Wk.tlv_ok_some m (r % 128) x len cap z w (by omega) (by omega) (by omega) hz hx)
      intro j hj
      obtain ⟨b, off, rfl, hc⟩ := ints_at (zs := z) (by intro i hi; exact hx i (by omega)) (by omega)
      exact ⟨b, off, rfl, hc j (by omega)⟩

set_option maxRecDepth 100000 in
theorem lifted (os : Os) (started : os.Started) (H : Type) (enc : TypeId × Value → H) :
    ReturnsInTold none {} Ybaf.checked os 4 .any Input.okWide ((OpenSpec.ofChange Rows.lawS1967ARoundTripSpec).preRow enc Ybaf.prog Ybaf.f4 Rows.lawS1967ARoundTripRow.domain false Rows.lawS1967ARoundTripRow.laid)
      (fun F => ((OpenSpec.ofChange Rows.lawS1967ARoundTripSpec).at F).post enc Ybaf.prog Ybaf.f4 false true false false) (aloneAtReturn Ybaf.prog) nothingAlways := by
  refine returnsInTold_of_row (C := Ybaf.checked) (s := OpenSpec.ofChange Rows.lawS1967ARoundTripSpec) (by kernel_rfl) own started (by kernel_rfl) Ybaf.func4
    (OpenSpec.witness_stopped_at (enc := enc) (C := Ybaf.checked) false (Laid.world Ybaf.prog os) #[.bool false, .int .u8 0, .slice none 0 0] rfl (by kernel_rfl) (by kernel_rfl) (by kernel_rfl)
      (OpenSpec.preRow_of_B rfl 8 (by kernel_rfl) (by kernel_rfl) (Laid.met_two os _))) ?_
  intro F W base args ds gs before _ hF hval0 hW _ _ hsz _ _
  have hval : ∀ (j : Nat) t v, Ybaf.f4.params[j]? = some t → args[j]? = some v → Value.okWide Ybaf.prog W .any base t v := hval0
  have hW' := hW
  obtain ⟨p, q, hA0, hV, rfl, hfz, hnd⟩ := hW
  have hA : DataW.TrodAll enc Ybaf.prog W 0 (fun _ => true) true Ybaf.f4.params.toList args.toList ds p := hA0
  rw [Ybaf.params4] at hA hval
  obtain ⟨v0, vs0, d0, ds0, p0, q0, hargs, rfl, rfl, h0, r0⟩ := trodAll_cons hA
  obtain ⟨v1, vs1, d1, ds1, p1, q1, rfl, rfl, rfl, h1, r1⟩ := trodAll_cons r0
  obtain ⟨v2, vs2, d2, ds2, p2, q2, rfl, rfl, rfl, h2, r2⟩ := trodAll_cons r1
  obtain ⟨rfl, rfl, rfl⟩ := trodAll_nil r2
  obtain rfl : args = #[v0, v1, v2] := by cases args; simp_all
  obtain ⟨m, rfl, rfl, rfl⟩ := open_bool Ybaf.underlying4 (hval 0 4 v0 rfl rfl) h0
  obtain ⟨r, rfl, rfl, rfl, wr⟩ := open_int Ybaf.underlying5 (hval 1 5 v1 rfl rfl) h1
  obtain ⟨a, len, cap, rfl⟩ := okWide_slice Ybaf.underlying22 (hval 2 22 v2 rfl rfl)
  have k2 := h2
  have lt2 : ∀ x ∈ p2, x.block < W.heap.size := by obtain ⟨n, hn⟩ := k2; exact DataW.trod_lt n _ _ _ hn
  obtain ⟨z, hm, hs⟩ : ∃ z : List Int, len ≤ maxLen ∧ ((a = none ∧ len = 0 ∧ cap = 0 ∧ z = []) ∨ ∃ x, a = some x ∧ z.length = len ∧ ∀ j, j < len → W.cell? (x.add j) = some (.int .u8 (z.getD j 0))) := by
    obtain ⟨fuel, hf⟩ := h2
    rcases open_ints Ybaf.underlying22 Ybaf.underlying5 (by kernel_rfl) hf with ⟨hcs, _⟩ | ⟨x, l, c, zs, hcs, _, hl, hm, hz, _, hcell, hwz⟩
    · simp [Value.cells] at hcs
      obtain ⟨rfl, rfl, rfl⟩ := hcs
      exact ⟨[], Nat.zero_le _, .inl ⟨rfl, rfl, rfl, rfl⟩⟩
    · simp [Value.cells] at hcs
      obtain ⟨rfl, rfl, rfl⟩ := hcs
      have hz' : zs.length = cap := by simpa using hz
      refine ⟨zs.take len, by omega, .inr ⟨x, rfl, by simp; omega, fun j hj => ?_⟩⟩
      rw [hcell j (by omega)]
      simp [List.getD_eq_getElem?_getD, hj]
  obtain ⟨g1, g2, rfl⟩ : ∃ g1 g2, gs = [g1, g2] := by
    match gs, hV with
    | [g1, g2], _ => exact ⟨g1, g2, rfl⟩
    | [], h => exact h.elim
    | [_], h => obtain ⟨_, _, _, _, _, _, _, _, _, _, hs, _⟩ := h; exact hs.elim
    | _ :: _ :: _ :: _, h => obtain ⟨_, _, _, _, _, _, _, _, _, _, hs, _⟩ := h; obtain ⟨_, _, _, _, _, _, _, _, _, _, hs', _⟩ := hs; exact hs'.elim
  clear hA0 hval0
  refine (walk m r a len cap z W (bounds_u8 wr) hm hs).mono fun e W' ⟨he, bel⟩ => ?_
  subst he
  exact ⟨_, rfl, _, _, _, [], _, q, hW', trodAll_mk1 (shut_bool Ybaf.underlying4 _), (trodAll_cons_mk (shut_bool Ybaf.underlying4 m) (trodAll_cons_mk (shut_int Ybaf.underlying5 wr) (trodAll_cons_mk (Below.trod laidOut (by kernel_rfl) (of_decide_eq_true (by kernel_rfl)) k2 bel lt2) trodAll_mk0))), Below.trodVars laidOut bel (by kernel_rfl) hV, bel.frame _, fun h => by cases h⟩

theorem stops : Ybaf.pinned.checked.prog.stops = ["fmt.errorf"] := by kernel_rfl
theorem stopKnobs : Ybaf.pinned.checked.prog.stopKnobs = [] := by kernel_rfl
theorem quiet (os : Os) : Stop.quiet Ybaf.pinned.checked.prog os := by
  intro k hk
  rw [stopKnobs] at hk
  cases hk

theorem over : Claim7.holds Ybaf.pinned (.plain (OpenSpec.ofChange Rows.lawS1967ARoundTripSpec)) (Claim7.toldTiedRowAt .later Rows.lawS1967ARoundTripRow (true, "45a9495e1186bfd3bd2bff885913939ad5f8eb4ed6f9d7d0b51e7e35306529ef") true false [.data, .data, .data, .sentinel, .sentinel] true) :=
  Claim7.holds_of_told_tied_any_at .later 4 Ybaf.f4 "fmt.errorf" [] [] _ _ _ _ _ (by kernel_rfl) rfl rfl rfl laidOut (by kernel_rfl) rfl ⟨rfl, rfl, rfl, rfl, rfl, rfl, rfl⟩ rfl rfl (by kernel_rfl) (by kernel_rfl) Ybaf.func4 (by kernel_rfl)
    (of_decide_eq_true (by kernel_rfl)) (by unfold Func.isWrapper; first | (rw [if_pos (by decide +kernel)]; kernel_rfl) | (rw [if_neg (by decide +kernel)]; exact ⟨rfl, rfl⟩)) stops.symm rfl stopKnobs.symm (by kernel_rfl)
    (by kernel_rfl) (by kernel_rfl) (by kernel_rfl) (by kernel_rfl) (by kernel_rfl) (by kernel_rfl) (by kernel_rfl) (by kernel_rfl) (by kernel_rfl) rfl (by kernel_rfl) rfl rfl
    rfl rfl
    rfl (by kernel_rfl) (by kernel_rfl) (by kernel_rfl) (by decide) (by kernel_rfl) lawS1967ARoundTrip_row_tie
    (OpenClaim.moreEntering_of (by kernel_rfl) (by kernel_rfl) (by kernel_rfl) (by kernel_rfl) (by kernel_rfl) (by kernel_rfl) (by kernel_rfl) (by kernel_rfl) (by kernel_rfl) (by kernel_rfl))
    ⟨_, WideRow.started_initial, quiet _⟩
    (fun os started _ H enc _ => lifted os started H enc)

theorem proved : Rows.LawS1967ARoundTripToldSaid := over
#print axioms proved
end Go.Proofs.YbulkanseFmt.ARoundTrip
