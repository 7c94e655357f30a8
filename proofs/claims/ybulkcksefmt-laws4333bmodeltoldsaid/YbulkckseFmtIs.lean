import Derived.Test.YbulkckseFmtChecked
import Derived.WalkKit
import Derived.LaidEql
import Derived.Stop.Asserts
import Derived.RowKitTokens
namespace Go.Proofs.YbulkckseFmt
open Go.RowKit Go.Extern.Stop Go.Stop Go.Extern

theorem isTypeOf (v : Value) (w : World) : (Extern.ReflectliteType.typeOf #[.iface 49 v]).run Ybaf.prog w = .ok (.iface 78 (.agg #[.pointer (some ⟨1, 49, none⟩)])) w := by kernel_rfl
theorem isComparable (w : World) : (callFunc 54 #[.agg #[.pointer (some ⟨1, 49, none⟩)]]).run Ybaf.prog w = .ok (.value (.bool true)) w := by
  rw [@run_callFunc_extern Ybaf.prog 54 _ (Extern.ReflectliteType.method fun t => do Go.Extern.Rtype.noPackHeld "Comparable" t; pure (.bool (← typeInfo t).comparable)) Ybaf.func54 (by kernel_rfl) (by kernel_rfl) (by kernel_rfl) (by kernel_rfl)]
  kernel_rfl
theorem isMethodComparable (v : Value) (w : World) : (Go.method 232 78 v "Comparable").run Ybaf.prog w = .ok (54, v) w := by kernel_rfl
theorem isComp : (Ybaf.prog.info? 49).map (·.comparable) = some true := by kernel_rfl
theorem isSize : (Ybaf.prog.info? 51).map (·.size) = some 1 := by kernel_rfl
theorem noIsE (v : Value) (xT : TypeId) (w : World) : (Instr.typeAssert (.iface 49 v) xT 80 true).run Ybaf.prog w = .ok (.tuple #[.nilIface, .bool false]) w := run_typeAssert_lacksB Ybaf.underlying80 (by kernel_rfl) (by kernel_rfl) v xT w
theorem noIsW (v : Value) (xT : TypeId) (w : World) : (Instr.typeAssert (.iface 76 v) xT 80 true).run Ybaf.prog w = .ok (.tuple #[.nilIface, .bool false]) w := run_typeAssert_lacksB Ybaf.underlying80 (by kernel_rfl) (by kernel_rfl) v xT w
theorem hasUnwrapW (v : Value) (xT : TypeId) (w : World) : (Instr.typeAssert (.iface 76 v) xT 83 true).run Ybaf.prog w = .ok (.tuple #[.iface 76 v, .bool true]) w := run_typeAssert_hasB Ybaf.underlying83 (by kernel_rfl) v xT w
theorem methodUnwrap (v : Value) (w : World) : (Go.method 232 76 v "Unwrap").run Ybaf.prog w = .ok (50, v) w := by kernel_rfl

set_option maxRecDepth 100000 in
set_option maxHeartbeats 1000000 in
/-- errors.Is of a wrapError that wraps the sentinel itself. -/
theorem is_wrap_same (pb po : Nat) (b : Addr) (w : World) (h1 : w.cell? ⟨pb, po + 1, none⟩ = some (.iface 49 (.pointer (some b)))) :
    Calls Ybaf.prog 10 #[.iface 76 (.pointer (some ⟨pb, po, none⟩)), .iface 49 (.pointer (some b))] w fun e w' => e = .returned (.bool true) ∧ w' = w := by
  obtain ⟨i, hi, hcmp⟩ := Option.map_eq_some_iff.1 isComp
  obtain ⟨j, hj, hjs⟩ := Option.map_eq_some_iff.1 isSize
  have h8 := @run_callFunc_extern Ybaf.prog 20 _ Extern.ReflectliteType.typeOf Ybaf.func20 (by kernel_rfl) (by kernel_rfl) (by kernel_rfl) (by kernel_rfl)
  have tT := isTypeOf
  have cT := isComparable
  have mR := isMethodComparable
  have nE := noIsE
  have nW := noIsW
  have uW := hasUnwrapW
  have mU := methodUnwrap
  have heq := run_eql_iface_ptr_same (P := Ybaf.prog) w b Ybaf.underlying25 Ybaf.underlying49 hi hcmp hj
  have hty := run_eql_iface_types (P := Ybaf.prog) 76 49 (.pointer (some ⟨pb, po, none⟩)) (.pointer (some b)) Ybaf.underlying25 (by decide) w
  go_enter Ybaf.func10, Ybaf.ntmps10
  go_wp2
  refine wp_loop_rounds 2 ?_
  rw [rounds_succ]
  go_wp2
  rw [rounds_succ]
  go_wp2
  go_ret
  exact ⟨rfl, rfl⟩
end Go.Proofs.YbulkckseFmt
