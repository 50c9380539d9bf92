/-
  The functions without a body on the road: what a call of each runs.
-/
import Derived.Test.Qxb6616973aDoorSet
namespace Go.Proofs.Qxb6616973aDoor
open Go.RowKit Go.Extern.Stop Go.Stop Go.Extern
set_option linter.unusedVariables false

theorem ext13 (args : Array Value) (w : World) : (callFunc 13 args).run Tryd.prog w = ((ReflectliteValue.unpack (args.getD 0 (.tuple #[]))).run Tryd.prog w).andThen fun v w' => .ok (.value v) w' :=
  @run_callFunc_extern Tryd.prog 13 _ (fun args => ReflectliteValue.unpack (args.getD 0 (.tuple #[]))) Tryd.func13 (by kernel_rfl) (by kernel_rfl) (by kernel_rfl) (by kernel_rfl) args w
theorem ext14 (args : Array Value) (w : World) : (callFunc 14 args).run Tryd.prog w = (((ReflectliteValue.methodAny (ReflectliteValue.valueError "reflectlite.Value.Type" 0) (fun t _ _ _ => ReflectliteType.toType t)) args).run Tryd.prog w).andThen fun v w' => .ok (.value v) w' :=
  run_callFunc_extern Tryd.func14 (by kernel_rfl) (by kernel_rfl) (by kernel_rfl) (by kernel_rfl) args w
theorem ext15 (args : Array Value) (w : World) : (callFunc 15 args).run Tryd.prog w = (((ReflectliteValue.method (ReflectliteValue.valueError "reflectlite.Value.IsNil" 0) ReflectliteValue.isNil) args).run Tryd.prog w).andThen fun v w' => .ok (.value v) w' :=
  run_callFunc_extern Tryd.func15 (by kernel_rfl) (by kernel_rfl) (by kernel_rfl) (by kernel_rfl) args w
theorem ext34 (args : Array Value) (w : World) : (callFunc 34 args).run Tryd.prog w = (((ReflectliteType.abiMethod fun t => do pure (.int .u8 (← Rtype.kind t))) args).run Tryd.prog w).andThen fun v w' => .ok (.value v) w' :=
  run_callFunc_extern Tryd.func34 (by kernel_rfl) (by kernel_rfl) (by kernel_rfl) (by kernel_rfl) args w
theorem ext51 (args : Array Value) (w : World) : (callFunc 51 args).run Tryd.prog w = (((ReflectliteType.method ReflectliteType.elem) args).run Tryd.prog w).andThen fun v w' => .ok (.value v) w' :=
  run_callFunc_extern Tryd.func51 (by kernel_rfl) (by kernel_rfl) (by kernel_rfl) (by kernel_rfl) args w
theorem ext52 (args : Array Value) (w : World) : (callFunc 52 args).run Tryd.prog w = (((ReflectliteType.relation "Implements" ReflectliteType.implements_) args).run Tryd.prog w).andThen fun v w' => .ok (.value v) w' :=
  run_callFunc_extern Tryd.func52 (by kernel_rfl) (by kernel_rfl) (by kernel_rfl) (by kernel_rfl) args w
theorem ext17 (args : Array Value) (w : World) : (callFunc 17 args).run Tryd.prog w = ((ReflectliteType.typeOf args).run Tryd.prog w).andThen fun v w' => .ok (.value v) w' :=
  run_callFunc_extern Tryd.func17 (by kernel_rfl) (by kernel_rfl) (by kernel_rfl) (by kernel_rfl) args w
theorem ext49 (args : Array Value) (w : World) : (callFunc 49 args).run Tryd.prog w = (((ReflectliteType.relation "AssignableTo" ReflectliteType.assignableTo) args).run Tryd.prog w).andThen fun v w' => .ok (.value v) w' :=
  run_callFunc_extern Tryd.func49 (by kernel_rfl) (by kernel_rfl) (by kernel_rfl) (by kernel_rfl) args w
theorem ext18 (args : Array Value) (w : World) : (callFunc 18 args).run Tryd.prog w = (((ReflectliteValue.method (ReflectliteValue.valueError "reflectlite.Value.Elem" 0) ReflectliteValue.elem) args).run Tryd.prog w).andThen fun v w' => .ok (.value v) w' :=
  run_callFunc_extern Tryd.func18 (by kernel_rfl) (by kernel_rfl) (by kernel_rfl) (by kernel_rfl) args w
theorem ext19 (args : Array Value) (w : World) : (callFunc 19 args).run Tryd.prog w = ((ReflectliteValue.set args).run Tryd.prog w).andThen fun v w' => .ok (.value v) w' :=
  run_callFunc_extern Tryd.func19 (by kernel_rfl) (by kernel_rfl) (by kernel_rfl) (by kernel_rfl) args w

end Go.Proofs.Qxb6616973aDoor
