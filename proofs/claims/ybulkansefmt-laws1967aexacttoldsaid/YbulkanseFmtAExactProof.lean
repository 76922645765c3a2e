/- The proof of 'Rows.LawS1967AExactToldSaid': the walks are YbulkanseFmtAExactWalk's. -/
import Derived.Test.YbulkanseFmtAExactWalk
import Derived.Test.YbulkanseFmtCards
import Derived.ProofKit
import Derived.OpenShut
import Derived.ChangeOld
import Derived.Stop.JoinedTold
import Derived.SevenToldRow
namespace Go.Proofs.YbulkanseFmt.AExact
open Go.ChangeShapes Go.WideShapes Go.ChangeAt Go.RowKit
open Go.Extern.Stop Go.Stop Go.Extern
set_option linter.unusedVariables false

theorem own : ownKnob Ybaf.prog.godebug = none := by kernel_rfl
theorem laidOut : laidOutB Ybaf.prog = true := by kernel_rfl

theorem walk (m : Bool) (r : Int) (a : Option Addr) (len cap : Nat) (z : List Int) (w : World) (hr : 0 ≤ r ∧ r ≤ 255) (hm : len ≤ maxLen)
    (hs : (a = none ∧ len = 0 ∧ cap = 0 ∧ z = []) ∨ ∃ x, a = some x ∧ z.length = len ∧ ∀ j, j < len → w.cell? (x.add j) = some (.int .u8 (z.getD j 0))) :
    Calls Ybaf.prog 3 #[.bool m, .int .u8 r, .slice a len cap] w fun e w' => e = .returned (.bool true) ∧ Below w.heap.size w w' := by
  by_cases hl : 1024 < len
  · exact Wk.exact_long m r a len cap w hl hm
  · by_cases hb : 128 ≤ r
    · exact Wk.exact_bad m r a len cap w (by omega) hb (by omega)
    · rcases hs with ⟨rfl, rfl, rfl, rfl⟩ | ⟨x, rfl, hz, hx⟩
      · exact Wk.exact_ok m r none 0 0 [] w (by omega) hr.1 (by omega) (by intro j hj; omega) (Wk.tlv_ok_none m r w hr.1 (by omega))
      · refine Wk.exact_ok m r (some x) len cap z w (by omega) hr.1 (by omega) ?_ (Wk.tlv_ok_some m r x len cap z w hr.1 (by omega) (by omega) hz hx)
        intro j hj
        obtain ⟨b, off, rfl, hc⟩ := ints_at (zs := z) (by intro i hi; exact hx i (by omega)) (by omega)
        exact ⟨b, off, rfl, hc j (by omega)⟩

set_option maxRecDepth 100000 in
theorem lifted (os : Os) (started : os.Started) (H : Type) (enc : TypeId × Value → H) :
    ReturnsInTold none {} Ybaf.checked os 3 .any Input.okWide ((OpenSpec.ofChange Rows.lawS1967AExactSpec).preRow enc Ybaf.prog Ybaf.f3 Rows.lawS1967AExactRow.domain false [])
      (fun F => ((OpenSpec.ofChange Rows.lawS1967AExactSpec).at F).post enc Ybaf.prog Ybaf.f3 false true false false) (aloneAtReturn Ybaf.prog) nothingAlways := by
  refine returnsInTold_of_row (C := Ybaf.checked) (s := OpenSpec.ofChange Rows.lawS1967AExactSpec) (by kernel_rfl) own started (by kernel_rfl) Ybaf.func3
    (OpenSpec.witness_stopped (enc := enc) (C := Ybaf.checked) false ⟨#[], #[.bool false, .int .u8 0, .slice none 0 0], []⟩ 8 (by kernel_rfl) (by kernel_rfl) (by kernel_rfl) (by kernel_rfl)) ?_
  intro F W base args ds gs before _ hF hval0 hW _ _ hsz _ _
  have hval : ∀ (j : Nat) t v, Ybaf.f3.params[j]? = some t → args[j]? = some v → Value.okWide Ybaf.prog W .any base t v := hval0
  have hW' := hW
  obtain ⟨p, q, hA0, hV, rfl, hfz, hnd⟩ := hW
  have hA : DataW.TrodAll enc Ybaf.prog W 0 (fun _ => true) true Ybaf.f3.params.toList args.toList ds p := hA0
  rw [Ybaf.params3] at hA hval
  obtain ⟨v0, vs0, d0, ds0, p0, q0, hargs, rfl, rfl, h0, r0⟩ := trodAll_cons hA
  obtain ⟨v1, vs1, d1, ds1, p1, q1, rfl, rfl, rfl, h1, r1⟩ := trodAll_cons r0
  obtain ⟨v2, vs2, d2, ds2, p2, q2, rfl, rfl, rfl, h2, r2⟩ := trodAll_cons r1
  obtain ⟨rfl, rfl, rfl⟩ := trodAll_nil r2
  obtain rfl : args = #[v0, v1, v2] := by cases args; simp_all
  obtain ⟨rfl, rfl⟩ := trodVars_none hV
  obtain ⟨m, rfl, rfl, rfl⟩ := open_bool Ybaf.underlying4 (hval 0 4 v0 rfl rfl) h0
  obtain ⟨r, rfl, rfl, rfl, wr⟩ := open_int Ybaf.underlying5 (hval 1 5 v1 rfl rfl) h1
  obtain ⟨a, len, cap, rfl⟩ := okWide_slice Ybaf.underlying22 (hval 2 22 v2 rfl rfl)
  have k2 := h2
  have lt2 : ∀ x ∈ p2, x.block < W.heap.size := by obtain ⟨n, hn⟩ := k2; exact DataW.trod_lt n _ _ _ hn
  obtain ⟨z, hm, hs⟩ : ∃ z : List Int, len ≤ maxLen ∧ ((a = none ∧ len = 0 ∧ cap = 0 ∧ z = []) ∨ ∃ x, a = some x ∧ z.length = len ∧ ∀ j, j < len → W.cell? (x.add j) = some (.int .u8 (z.getD j 0))) := by
    obtain ⟨fuel, hf⟩ := h2
    rcases open_ints Ybaf.underlying22 Ybaf.underlying5 (by kernel_rfl) hf with ⟨hcs, _⟩ | ⟨x, l, c, zs, hcs, _, hl, hm, hz, _, hcell, hwz⟩
    · simp [Value.cells] at hcs
      obtain ⟨rfl, rfl, rfl⟩ := hcs
      exact ⟨[], Nat.zero_le _, .inl ⟨rfl, rfl, rfl, rfl⟩⟩
    · simp [Value.cells] at hcs
      obtain ⟨rfl, rfl, rfl⟩ := hcs
      have hz' : zs.length = cap := by simpa using hz
      refine ⟨zs.take len, by omega, .inr ⟨x, rfl, by simp; omega, fun j hj => ?_⟩⟩
      rw [hcell j (by omega)]
      simp [List.getD_eq_getElem?_getD, hj]
  clear hA0 hval0
  refine (walk m r a len cap z W (bounds_u8 wr) hm hs).mono fun e W' ⟨he, bel⟩ => ?_
  subst he
  exact ⟨_, rfl, _, _, _, [], _, [], hW', trodAll_mk1 (shut_bool Ybaf.underlying4 _), (trodAll_cons_mk (shut_bool Ybaf.underlying4 m) (trodAll_cons_mk (shut_int Ybaf.underlying5 wr) (trodAll_cons_mk (Below.trod laidOut (by kernel_rfl) (of_decide_eq_true (by kernel_rfl)) k2 bel lt2) trodAll_mk0))), rfl, bel.frame _, fun h => by cases h⟩

theorem stops : Ybaf.pinned.checked.prog.stops = ["fmt.errorf"] := by kernel_rfl
theorem stopKnobs : Ybaf.pinned.checked.prog.stopKnobs = [] := by kernel_rfl
theorem quiet (os : Os) : Stop.quiet Ybaf.pinned.checked.prog os := by
  intro k hk
  rw [stopKnobs] at hk
  cases hk

theorem over : Claim7.holds Ybaf.pinned (.plain (OpenSpec.ofChange Rows.lawS1967AExactSpec)) (Claim7.toldRow Rows.lawS1967AExactRow (true, "45a9495e1186bfd3bd2bff885913939ad5f8eb4ed6f9d7d0b51e7e35306529ef") true false) :=
  Claim7.holds_of_told_any 3 Ybaf.f3 "fmt.errorf" [] [] _ _ _ (by kernel_rfl) rfl rfl rfl laidOut (by kernel_rfl) rfl ⟨rfl, rfl, rfl, rfl, rfl, rfl, rfl⟩ rfl rfl (by kernel_rfl) (by kernel_rfl) Ybaf.func3 (by kernel_rfl)
    (of_decide_eq_true (by kernel_rfl)) (by unfold Func.isWrapper; first | (rw [if_pos (by decide +kernel)]; kernel_rfl) | (rw [if_neg (by decide +kernel)]; exact ⟨rfl, rfl⟩)) stops.symm rfl stopKnobs.symm (by kernel_rfl)
    (by kernel_rfl) (by kernel_rfl) (by kernel_rfl) (by kernel_rfl) (by kernel_rfl) (by kernel_rfl) (by kernel_rfl) (by kernel_rfl) (by kernel_rfl) rfl (by kernel_rfl) rfl rfl
    rfl rfl
    rfl (by kernel_rfl) (by kernel_rfl) (by kernel_rfl) (by decide) (by kernel_rfl)
    (OpenClaim.moreEntering_of (by kernel_rfl) (by kernel_rfl) (by kernel_rfl) (by kernel_rfl) (by kernel_rfl) (by kernel_rfl) (by kernel_rfl) (by kernel_rfl) (by kernel_rfl) (by kernel_rfl))
    ⟨_, WideRow.started_initial, quiet _⟩
    (fun os started _ H enc _ => lifted os started H enc)

theorem proved : Rows.LawS1967AExactToldSaid := over
#print axioms proved
end Go.Proofs.YbulkanseFmt.AExact
