/-
  Which function a method call comes to; what the type assertions of errors.as give.
-/
import Derived.Test.Qxb6616973aDoorExt
namespace Go.Proofs.Qxb6616973aDoor
open Go.RowKit Go.Extern.Stop Go.Stop Go.Extern
set_option linter.unusedVariables false

theorem mAssignableTo (h : Value) (w : World) : (Go.method 212 69 (.agg #[h]) "AssignableTo").run Tryd.prog w = .ok (49, .agg #[h]) w := by kernel_rfl
theorem mKind (h : Value) (w : World) : (Go.method 212 69 (.agg #[h]) "Kind").run Tryd.prog w = .ok (34, h) w := by kernel_rfl
theorem mElem (h : Value) (w : World) : (Go.method 212 69 (.agg #[h]) "Elem").run Tryd.prog w = .ok (51, .agg #[h]) w := by kernel_rfl
theorem mImplements (h : Value) (w : World) : (Go.method 212 69 (.agg #[h]) "Implements").run Tryd.prog w = .ok (52, .agg #[h]) w := by kernel_rfl
theorem mUnwrap24 (a : Addr) (w : World) : (Go.method 212 24 (.pointer (some a)) "Unwrap").run Tryd.prog w = .ok (38, .pointer (some a)) w := by kernel_rfl
theorem mUnwrap26 (a : Addr) (w : World) : (Go.method 212 26 (.pointer (some a)) "Unwrap").run Tryd.prog w = .ok (8, .pointer (some a)) w := by kernel_rfl
theorem as74_24 (v : Value) (w : World) : (Instr.typeAssert (.iface 24 v) 29 74 true).run Tryd.prog w = .ok (.tuple #[.nilIface, .bool false]) w := run_typeAssert_lacksB Tryd.underlying74 (by kernel_rfl) (by kernel_rfl) v 29 w
theorem as74_26 (v : Value) (w : World) : (Instr.typeAssert (.iface 26 v) 29 74 true).run Tryd.prog w = .ok (.tuple #[.nilIface, .bool false]) w := run_typeAssert_lacksB Tryd.underlying74 (by kernel_rfl) (by kernel_rfl) v 29 w
theorem as74_52 (v : Value) (w : World) : (Instr.typeAssert (.iface 52 v) 29 74 true).run Tryd.prog w = .ok (.tuple #[.nilIface, .bool false]) w := run_typeAssert_lacksB Tryd.underlying74 (by kernel_rfl) (by kernel_rfl) v 29 w
theorem as77_24 (v : Value) (w : World) : (Instr.typeAssert (.iface 24 v) 29 77 true).run Tryd.prog w = .ok (.tuple #[.iface 24 v, .bool true]) w := run_typeAssert_hasB Tryd.underlying77 (by kernel_rfl) v 29 w
theorem as77_26 (v : Value) (w : World) : (Instr.typeAssert (.iface 26 v) 29 77 true).run Tryd.prog w = .ok (.tuple #[.iface 26 v, .bool true]) w := run_typeAssert_hasB Tryd.underlying77 (by kernel_rfl) v 29 w
theorem as77_52 (v : Value) (w : World) : (Instr.typeAssert (.iface 52 v) 29 77 true).run Tryd.prog w = .ok (.tuple #[.nilIface, .bool false]) w := run_typeAssert_lacksB Tryd.underlying77 (by kernel_rfl) (by kernel_rfl) v 29 w
theorem as78_52 (v : Value) (w : World) : (Instr.typeAssert (.iface 52 v) 29 78 true).run Tryd.prog w = .ok (.tuple #[.nilIface, .bool false]) w := run_typeAssert_lacksB Tryd.underlying78 (by kernel_rfl) (by kernel_rfl) v 29 w
end Go.Proofs.Qxb6616973aDoor
