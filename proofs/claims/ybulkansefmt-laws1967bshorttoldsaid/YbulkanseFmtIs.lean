/- errors.Is by its contract at an error that fmt.Errorf has made with one %w of the sentinel itself. After the guide's worked text SentryIs, at this program's numbers. -/
import Derived.Test.YbulkanseFmtRows
import Derived.WalkKit
import Derived.LaidEql
import Derived.Stop.Asserts
import Derived.RowKitTokens
namespace Go.Proofs.YbulkanseFmt.Is
open Go.RowKit Go.Extern.Stop Go.Stop Go.Extern

theorem typeOf (v : Value) (w : World) : (Extern.ReflectliteType.typeOf #[.iface 88 v]).run Ybaf.prog w = .ok (.iface 68 (.agg #[.pointer (some ⟨5, 88, none⟩)])) w := by kernel_rfl
theorem comparable (w : World) : (callFunc 72 #[.agg #[.pointer (some ⟨5, 88, none⟩)]]).run Ybaf.prog w = .ok (.value (.bool true)) w := by kernel_rfl
theorem methodComparable (v : Value) (w : World) : (Go.method 250 68 v "Comparable").run Ybaf.prog w = .ok (72, v) w := by kernel_rfl
theorem comp : (Ybaf.prog.info? 88).map (·.comparable) = some true := by kernel_rfl
theorem size : (Ybaf.prog.info? 90).map (·.size) = some 1 := by kernel_rfl
theorem noIsW (v : Value) (xT : TypeId) (w : World) : (Instr.typeAssert (.iface 80 v) xT 70 true).run Ybaf.prog w = .ok (.tuple #[.nilIface, .bool false]) w := run_typeAssert_lacksB Ybaf.underlying70 (by kernel_rfl) (by kernel_rfl) v xT w
theorem hasUnwrapW (v : Value) (xT : TypeId) (w : World) : (Instr.typeAssert (.iface 80 v) xT 73 true).run Ybaf.prog w = .ok (.tuple #[.iface 80 v, .bool true]) w := run_typeAssert_hasB Ybaf.underlying73 (by kernel_rfl) v xT w
theorem methodUnwrap (v : Value) (w : World) : (Go.method 250 80 v "Unwrap").run Ybaf.prog w = .ok (82, v) w := by kernel_rfl

set_option maxRecDepth 20000 in
/-- errors.Is(e, x), e a *fmt.wrapError that wraps x itself: one Unwrap, then equal. -/
theorem is_wrap_same (pb po : Nat) (b : Addr) (w : World) (h1 : w.cell? ⟨pb, po + 1, none⟩ = some (.iface 88 (.pointer (some b)))) :
    Calls Ybaf.prog 12 #[.iface 80 (.pointer (some ⟨pb, po, none⟩)), .iface 88 (.pointer (some b))] w fun e w' => e = .returned (.bool true) ∧ w' = w := by
  obtain ⟨i, hi, hcmp⟩ := Option.map_eq_some_iff.1 comp
  obtain ⟨j, hj, hjs⟩ := Option.map_eq_some_iff.1 size
  have h8 := @run_callFunc_extern Ybaf.prog 17 _ Extern.ReflectliteType.typeOf Ybaf.func17 (by kernel_rfl) (by kernel_rfl) (by kernel_rfl) (by kernel_rfl)
  have tT := typeOf
  have cT := comparable
  have mR := methodComparable
  have nW := noIsW
  have uW := hasUnwrapW
  have mU := methodUnwrap
  have heq := run_eql_iface_ptr_same (P := Ybaf.prog) w b Ybaf.underlying28 Ybaf.underlying88 hi hcmp hj
  have hty := run_eql_iface_types (P := Ybaf.prog) 80 88 (.pointer (some ⟨pb, po, none⟩)) (.pointer (some b)) Ybaf.underlying28 (by decide) w
  go_enter Ybaf.func12, Ybaf.ntmps12
  go_wp2
  refine wp_loop_rounds 2 ?_
  rw [rounds_succ]
  go_wp2
  rw [rounds_succ]
  go_wp2
  go_ret
  exact ⟨rfl, rfl⟩
end Go.Proofs.YbulkanseFmt.Is
