import Derived.Test.YbulkcctkFmtRows
import Derived.WalkKit
import Derived.LaidEql
import Derived.Stop.Asserts
import Derived.RowKitTokens
namespace Go.Proofs.YbulkcctkFmt
open Go.RowKit Go.Extern.Stop Go.Stop Go.Extern
namespace Bx

theorem isTypeOf (v : Value) (w : World) : (Extern.ReflectliteType.typeOf #[.iface 71 v]).run Ybaf.prog w = .ok (.iface 59 (.agg #[.pointer (some ⟨3, 71, none⟩)])) w := by kernel_rfl
theorem isComparable (w : World) : (callFunc 46 #[.agg #[.pointer (some ⟨3, 71, none⟩)]]).run Ybaf.prog w = .ok (.value (.bool true)) w := by kernel_rfl
theorem isComp : (Ybaf.prog.info? 71).map (·.comparable) = some true := by kernel_rfl
theorem isSize : (Ybaf.prog.info? 73).map (·.size) = some 1 := by kernel_rfl
theorem isMethodComparable (v : Value) (w : World) : (Go.method 215 59 v "Comparable").run Ybaf.prog w = .ok (46, v) w := by kernel_rfl
theorem noIsW (v : Value) (xT : TypeId) (w : World) : (Instr.typeAssert (.iface 57 v) xT 61 true).run Ybaf.prog w = .ok (.tuple #[.nilIface, .bool false]) w := run_typeAssert_lacksB Ybaf.underlying61 (by kernel_rfl) (by kernel_rfl) v xT w
theorem hasUnwrapW (v : Value) (xT : TypeId) (w : World) : (Instr.typeAssert (.iface 57 v) xT 64 true).run Ybaf.prog w = .ok (.tuple #[.iface 57 v, .bool true]) w := run_typeAssert_hasB Ybaf.underlying64 (by kernel_rfl) v xT w
theorem methodUnwrap (v : Value) (w : World) : (Go.method 215 57 v "Unwrap").run Ybaf.prog w = .ok (42, v) w := by kernel_rfl

set_option maxHeartbeats 1000000 in
set_option maxRecDepth 100000 in
theorem is_wrap_same (pb po : Nat) (b : Addr) (w : World) (h1 : w.cell? ⟨pb, po + 1, none⟩ = some (.iface 71 (.pointer (some b)))) :
    Calls Ybaf.prog 9 #[.iface 57 (.pointer (some ⟨pb, po, none⟩)), .iface 71 (.pointer (some b))] w fun e w' => e = .returned (.bool true) ∧ w' = w := by
  obtain ⟨i, hi, hcmp⟩ := Option.map_eq_some_iff.1 isComp
  obtain ⟨j, hj, hjs⟩ := Option.map_eq_some_iff.1 isSize
  have h8 := @run_callFunc_extern Ybaf.prog 17 _ Extern.ReflectliteType.typeOf Ybaf.func17 (by kernel_rfl) (by kernel_rfl) (by kernel_rfl) (by kernel_rfl)
  have tT := isTypeOf
  have cT := isComparable
  have mR := isMethodComparable
  have nW := noIsW
  have uW := hasUnwrapW
  have mU := methodUnwrap
  have heq := run_eql_iface_ptr_same (P := Ybaf.prog) w b Ybaf.underlying26 Ybaf.underlying71 hi hcmp hj
  have hty := run_eql_iface_types (P := Ybaf.prog) 57 71 (.pointer (some ⟨pb, po, none⟩)) (.pointer (some b)) Ybaf.underlying26 (by decide) w
  go_enter Ybaf.func9, Ybaf.ntmps9
  go_wp2
  refine wp_loop_rounds 2 ?_
  rw [rounds_succ]
  go_wp2
  rw [rounds_succ]
  go_wp2
  go_ret
  exact ⟨rfl, rfl⟩
end Bx
end Go.Proofs.YbulkcctkFmt
