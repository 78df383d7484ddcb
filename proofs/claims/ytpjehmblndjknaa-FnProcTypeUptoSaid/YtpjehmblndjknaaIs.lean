/-
  Walks: errors.Is for the thin package's own error as the target.
-/
import Derived.Test.YtpjehmblndjknaaBase
import Derived.Test.YtpjehmblndjknaaRows
import Derived.LaidEql
import Derived.Stop.Asserts
import Derived.RowKitTokens
namespace Go.Proofs.Ytpjehmblndjknaa
open Go.RowKit Go.Extern.Stop Go.Stop Go.Extern
set_option linter.unusedSimpArgs false
set_option linter.unusedVariables false

/-- How many package-level variables the dump has: behind them the types are told by addresses. -/
abbrev globN : Nat := 1
theorem isTypeOf (v : Value) (w : World) : (Extern.ReflectliteType.typeOf #[.iface 70 v]).run Try.prog w = .ok (.iface 118 (.agg #[.pointer (some ⟨globN, 70, none⟩)])) w := by kernel_rfl
theorem isComparable (w : World) : ((Extern.ReflectliteType.method fun t => do Extern.Rtype.noPackHeld "Comparable" t; Functor.map (fun a => Value.bool a.comparable) (typeInfo t)) #[.agg #[.pointer (some ⟨globN, 70, none⟩)]]).run Try.prog w = .ok (.bool true) w := by kernel_rfl
theorem isMethodComparable (v : Value) (w : World) : (Go.method 288 118 v "Comparable").run Try.prog w = .ok (106, v) w := by kernel_rfl
theorem noIsE (v : Value) (xT : TypeId) (w : World) : (Instr.typeAssert (.iface 106 v) xT 120 true).run Try.prog w = .ok (.tuple #[.nilIface, .bool false]) w := run_typeAssert_lacksB Try.underlying120 (by kernel_rfl) (by kernel_rfl) v xT w
theorem noUnwrapE (v : Value) (xT : TypeId) (w : World) : (Instr.typeAssert (.iface 106 v) xT 123 true).run Try.prog w = .ok (.tuple #[.nilIface, .bool false]) w := run_typeAssert_lacksB Try.underlying123 (by kernel_rfl) (by kernel_rfl) v xT w
theorem noUnwrapsE (v : Value) (xT : TypeId) (w : World) : (Instr.typeAssert (.iface 106 v) xT 124 true).run Try.prog w = .ok (.tuple #[.nilIface, .bool false]) w := run_typeAssert_lacksB Try.underlying124 (by kernel_rfl) (by kernel_rfl) v xT w
theorem eqOwn (w : World) : (binOp .eql 66 (.iface 70 (.agg #[])) (.iface 70 (.agg #[]))).run Try.prog w = .ok (.bool true) w := by kernel_rfl

set_option maxRecDepth 100000 in
set_option maxHeartbeats 800000 in
theorem is_own (w : World) : Calls Try.prog 34 #[.iface 70 (.agg #[]), .iface 70 (.agg #[])] w fun e w' => e = .returned (.bool true) ∧ w = w' := by
  have h8 := @run_callFunc_extern Try.prog 46 _ Extern.ReflectliteType.typeOf Try.func46 (by kernel_rfl) (by kernel_rfl) (by kernel_rfl) (by kernel_rfl)
  have h32 := @run_callFunc_extern Try.prog 106 _ (Extern.ReflectliteType.method fun t => do Extern.Rtype.noPackHeld "Comparable" t; pure (.bool (← typeInfo t).comparable)) Try.func106 (by kernel_rfl) (by kernel_rfl) (by kernel_rfl) (by kernel_rfl)
  have tT := isTypeOf
  have cT := isComparable
  have mR := isMethodComparable
  have heq := eqOwn
  go_enter Try.func34, Try.ntmps34
  go_wp2
  refine wp_loop_rounds 1 ?_
  rw [rounds_succ]
  go_wp2
  go_ret
  exact ⟨rfl, rfl⟩

set_option maxRecDepth 100000 in
set_option maxHeartbeats 800000 in
theorem is_else (b : Addr) (w : World) : Calls Try.prog 34 #[.iface 106 (.pointer (some b)), .iface 70 (.agg #[])] w fun e w' => e = .returned (.bool false) ∧ w = w' := by
  have h8 := @run_callFunc_extern Try.prog 46 _ Extern.ReflectliteType.typeOf Try.func46 (by kernel_rfl) (by kernel_rfl) (by kernel_rfl) (by kernel_rfl)
  have h32 := @run_callFunc_extern Try.prog 106 _ (Extern.ReflectliteType.method fun t => do Extern.Rtype.noPackHeld "Comparable" t; pure (.bool (← typeInfo t).comparable)) Try.func106 (by kernel_rfl) (by kernel_rfl) (by kernel_rfl) (by kernel_rfl)
  have tT := isTypeOf
  have cT := isComparable
  have mR := isMethodComparable
  have nE := noIsE
  have uE := noUnwrapE
  have vE := noUnwrapsE
  have hty := run_eql_iface_types (P := Try.prog) 106 70 (.pointer (some b)) (.agg #[]) Try.underlying66 (by decide) w
  go_enter Try.func34, Try.ntmps34
  go_wp2
  refine wp_loop_rounds 1 ?_
  rw [rounds_succ]
  go_wp2
  go_ret
  exact ⟨rfl, rfl⟩
end Go.Proofs.Ytpjehmblndjknaa
