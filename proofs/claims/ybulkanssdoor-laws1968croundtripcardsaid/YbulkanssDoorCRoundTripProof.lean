/- The proof of 'Rows.LawS1968CRoundTripCardSaid': the walks are YbulkanssDoorCRoundTripWalk's, the start that is shown to be there is YbulkanssDoorLaid's, the tie is YbulkanssDoorTie's. -/
import Derived.Test.YbulkanssDoorCRoundTripWalk
import Derived.Test.YbulkanssDoorLaid
import Derived.Test.YbulkanssDoorTie
import Derived.Test.YbulkanssDoorCards
import Derived.ProofKit
import Derived.OpenShut
import Derived.OpenVars
import Derived.ChangeOld
import Derived.JoinedOf
import Derived.LaidHandle
import Derived.SevenTiedAt
namespace Go.Proofs.YbulkanssDoor.CRoundTrip
open Go.ChangeShapes Go.WideShapes Go.ChangeAt Go.RowKit

theorem own : ownKnob Ybad.prog.godebug = none := by kernel_rfl
theorem laidOut : laidOutB Ybad.prog = true := by kernel_rfl

theorem walk (y mo d s ns pr n : Int) (w : World) (hT : Wk.Tab w) (y0 : 0 ≤ y ∧ y ≤ 65535) (mo0 : 0 ≤ mo ∧ mo ≤ 255) (d0 : 0 ≤ d ∧ d ≤ 255) (s0 : 0 ≤ s ∧ s ≤ 4294967295) (ns0 : 0 ≤ ns ∧ ns ≤ 4294967295) (pr0 : 0 ≤ pr ∧ pr ≤ 255) :
    Calls Ybad.prog 4 #[.int .u16 y, .int .u8 mo, .int .u8 d, .int .u32 s, .int .u32 ns, .int .u8 pr, .int .i64 n] w fun e w' => e = .returned (.bool true) ∧ Below w.heap.size w w' := by
  have n1 : -360000 < n.tmod 360000 := by have := Int.lt_tmod_of_pos n (show (0 : Int) < 360000 by omega); omega
  have n2 : n.tmod 360000 < 360000 := Int.tmod_lt_of_pos n (by omega)
  by_cases ho : (y % 10000) * 12 + (mo % 12 + 1 - 1) + n.tmod 360000 < 0 ∨ 120000 ≤ (y % 10000) * 12 + (mo % 12 + 1 - 1) + n.tmod 360000
  · exact Wk.round_out y mo d s ns pr n _ _ _ _ _ _ _ _ w y0 mo0 d0 s0 ns0 pr0 rfl rfl rfl rfl rfl rfl rfl n1 n2 rfl ho
  · exact Wk.round_in y mo d s ns pr n _ _ _ _ _ _ _ _ _ _ w hT y0 mo0 d0 s0 ns0 pr0 rfl rfl rfl rfl rfl rfl rfl n1 n2 rfl (by omega) (by omega) rfl rfl

set_option maxRecDepth 100000 in
theorem lifted (os : Os) (started : os.Started) (H : Type) (enc : TypeId × Value → H) :
    ReturnsInHanded {} Ybad.checked os 4 .any (fun w args => (Rows.lawS1968CRoundTripSpec.pre enc Ybad.prog Ybad.f4 [] false w args ∧ laidMetH Ybad.prog Rows.lawS1968CRoundTripRow.laid w) ∧ sizedMet enc Ybad.prog Ybad.f4 (OpenSpec.ofChange Rows.lawS1968CRoundTripSpec) false w args)
      (Rows.lawS1968CRoundTripSpec.post enc Ybad.prog Ybad.f4 false true false false) := by
  refine returnsInHanded_of_change_and (C := Ybad.checked) (X := fun w _ => laidMetH Ybad.prog Rows.lawS1968CRoundTripRow.laid w) (fun _ _ _ hh h => h.of_heap hh) own started (by kernel_rfl) Ybad.func4
    (ChangeSpec.witness_at (enc := enc) (C := Ybad.checked) (os := os) (X := fun w _ => laidMetH Ybad.prog Rows.lawS1968CRoundTripRow.laid w) false (Laid.world Ybad.prog os) #[.int .u16 0, .int .u8 0, .int .u8 0, .int .u32 0, .int .u32 0, .int .u8 0, .int .i64 0] 8 rfl (by kernel_rfl) (by kernel_rfl) (by kernel_rfl) (by kernel_rfl) (by kernel_rfl) (Laid.met os _)) ?_
  intro W base args ds gs before hval0 hW _ _ hL _
  have hval : ∀ (j : Nat) t v, Ybad.f4.params[j]? = some t → args[j]? = some v → Value.okWide Ybad.prog W .any base t v := hval0
  have hW' := hW
  obtain ⟨p, q, hA0, hV, rfl, hfz, hnd⟩ := hW
  have hA : DataW.TrodAll enc Ybad.prog W 0 (fun _ => true) true Ybad.f4.params.toList args.toList ds p := hA0
  rw [Ybad.params4] at hA hval
  obtain ⟨v0, vs0, d0, ds0, p0, q0, hargs, rfl, rfl, h0, r0⟩ := trodAll_cons hA
  obtain ⟨v1, vs1, d1, ds1, p1, q1, rfl, rfl, rfl, h1, r1⟩ := trodAll_cons r0
  obtain ⟨v2, vs2, d2, ds2, p2, q2, rfl, rfl, rfl, h2, r2⟩ := trodAll_cons r1
  obtain ⟨v3, vs3, d3, ds3, p3, q3, rfl, rfl, rfl, h3, r3⟩ := trodAll_cons r2
  obtain ⟨v4, vs4, d4, ds4, p4, q4, rfl, rfl, rfl, h4, r4⟩ := trodAll_cons r3
  obtain ⟨v5, vs5, d5, ds5, p5, q5, rfl, rfl, rfl, h5, r5⟩ := trodAll_cons r4
  obtain ⟨v6, vs6, d6, ds6, p6, q6, rfl, rfl, rfl, h6, r6⟩ := trodAll_cons r5
  obtain ⟨rfl, rfl, rfl⟩ := trodAll_nil r6
  obtain rfl : args = #[v0, v1, v2, v3, v4, v5, v6] := by cases args; simp_all
  obtain ⟨y, rfl, rfl, rfl, wy⟩ := open_int Ybad.underlying22 (hval 0 22 v0 rfl rfl) h0
  obtain ⟨mo, rfl, rfl, rfl, wm⟩ := open_int Ybad.underlying5 (hval 1 5 v1 rfl rfl) h1
  obtain ⟨d, rfl, rfl, rfl, wd⟩ := open_int Ybad.underlying5 (hval 2 5 v2 rfl rfl) h2
  obtain ⟨s, rfl, rfl, rfl, ws⟩ := open_int Ybad.underlying23 (hval 3 23 v3 rfl rfl) h3
  obtain ⟨ns, rfl, rfl, rfl, wns⟩ := open_int Ybad.underlying23 (hval 4 23 v4 rfl rfl) h4
  obtain ⟨pr, rfl, rfl, rfl, wpr⟩ := open_int Ybad.underlying5 (hval 5 5 v5 rfl rfl) h5
  obtain ⟨n, rfl, rfl, rfl, wn⟩ := open_int Ybad.underlying2 (hval 6 2 v6 rfl rfl) h6
  obtain ⟨g1, rfl⟩ : ∃ g1, gs = [g1] := by
    match gs, hV with
    | [g1], _ => exact ⟨g1, rfl⟩
    | [], h => exact h.elim
    | _ :: _ :: _, h => obtain ⟨_, _, _, _, _, _, _, _, _, _, hs, _⟩ := h; exact hs.elim
  clear hA0 hval0
  refine (walk y mo d s ns pr n W (Laid.tab_of_laid hL) (bounds_u16 wy) (bounds_u8 wm) (bounds_u8 wd) (bounds_u32 ws) (bounds_u32 wns) (bounds_u8 wpr)).mono fun e W' ⟨he, bel⟩ => ?_
  subst he
  exact ⟨_, rfl, _, _, _, [], _, q, hW', trodAll_mk1 (shut_bool Ybad.underlying4 _),
    (trodAll_cons_mk (shut_int Ybad.underlying22 wy) (trodAll_cons_mk (shut_int Ybad.underlying5 wm) (trodAll_cons_mk (shut_int Ybad.underlying5 wd) (trodAll_cons_mk (shut_int Ybad.underlying23 ws)
      (trodAll_cons_mk (shut_int Ybad.underlying23 wns) (trodAll_cons_mk (shut_int Ybad.underlying5 wpr) (trodAll_cons_mk (shut_int Ybad.underlying2 wn) trodAll_mk0))))))),
    Below.trodVars laidOut bel (by kernel_rfl) hV, bel.frame _, fun h => by cases h⟩

theorem row : Rows.LawS1968CRoundTripSaid :=
  OpenClaim.holds_of_wide 4 Ybad.f4 rfl rfl rfl rfl rfl rfl rfl ⟨rfl, rfl, rfl, rfl, rfl⟩ rfl rfl rfl rfl rfl (by kernel_rfl) Ybad.func4 (by kernel_rfl)
    (of_decide_eq_true (by kernel_rfl)) (by unfold Func.isWrapper; first | (rw [if_pos (by decide +kernel)]; kernel_rfl) | (rw [if_neg (by decide +kernel)]; exact ⟨rfl, rfl⟩))
    (fun os started H enc _ => lifted os started H enc)

theorem proved : Rows.LawS1968CRoundTripCardSaid :=
  Claim7.holds_tied_plain_at .later [] [.wider] true (true, "2beccc8f866529afee3592b1311c37f222a8148b392345ac8ffabbd0fe42f98f") false
    row (fun _ h => by cases h) (by kernel_rfl) (fun _ h => by cases h) lawS1968CRoundTrip_row_tie rfl ⟨rfl, rfl⟩ (by kernel_rfl) rfl
    (fun f fn hf hfn => by
      obtain rfl : f = 4 := Option.some.inj ((show Ybad.prog.funcNamed Rows.lawS1968CRoundTripRow.func = some 4 by kernel_rfl).symm.trans hf) |>.symm
      obtain rfl : fn = Ybad.f4 := (Option.some.inj (Ybad.func4.symm.trans hfn)).symm
      exact ⟨by kernel_rfl, fun j t ht => by
        rw [Ybad.params4] at ht
        have hm : t ∈ [22, 5, 5, 23, 23, 5, 2] := by simpa using Array.mem_of_getElem? ht
        have hall : ([22, 5, 5, 23, 23, 5, 2].all fun u => !Ybad.prog.wantsStandIn u) = true := by kernel_rfl
        exact (show Ybad.prog.wantsStandIn t = false by simpa using List.all_eq_true.1 hall t hm)⟩)
    (by kernel_rfl)
#print axioms proved
end Go.Proofs.YbulkanssDoor.CRoundTrip
