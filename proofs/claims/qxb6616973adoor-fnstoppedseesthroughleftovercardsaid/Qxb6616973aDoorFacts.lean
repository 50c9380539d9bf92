/-
  errors.As at two concrete targets: closed facts on the model's entries for internal reflectlite at this dump's numbers. After the guide's worked text ToyasAs.
  24: the paused error's pointer type · 42: a pointer to it · 43: the stuck error's pointer type · 44: a pointer to it · 26: the leftover error's pointer type · 52: errors.New's · 29: error · 69: reflectlite's rtype · 58: reflectlite's Value.
-/
import Derived.Test.Qxb6616973aDoorRows
import Derived.WalkKit
import Derived.Outline
import Derived.Below
import Derived.LaidEql
import Derived.Stop.Asserts
import Derived.RowKitTokens
namespace Go.Proofs.Qxb6616973aDoor
open Go.RowKit Go.Extern.Stop Go.Stop Go.Extern
set_option linter.unusedVariables false

theorem valueOf42 (t : Addr) (w : World) : (ReflectliteValue.unpack (.iface 42 (.pointer (some t)))).run Tryd.prog w
    = .ok (.agg #[.pointer (some ⟨1, 42, none⟩), .pointer (some ⟨w.heap.size, 0, none⟩), .int .u64 150]) (w.alloc (.cells #[.pointer (some t)] 42)) := by kernel_rfl
theorem valueOf44 (t : Addr) (w : World) : (ReflectliteValue.unpack (.iface 44 (.pointer (some t)))).run Tryd.prog w
    = .ok (.agg #[.pointer (some ⟨1, 44, none⟩), .pointer (some ⟨w.heap.size, 0, none⟩), .int .u64 150]) (w.alloc (.cells #[.pointer (some t)] 44)) := by kernel_rfl
theorem type42 (a : Addr) (w : World) : (ReflectliteValue.methodAny (ReflectliteValue.valueError "reflectlite.Value.Type" 0) (fun t _ _ _ => ReflectliteType.toType t) #[.agg #[.pointer (some ⟨1, 42, none⟩), .pointer (some a), .int .u64 150]]).run Tryd.prog w
    = .ok (.iface 69 (.agg #[.pointer (some ⟨1, 42, none⟩)])) w := by kernel_rfl
theorem type44 (a : Addr) (w : World) : (ReflectliteValue.methodAny (ReflectliteValue.valueError "reflectlite.Value.Type" 0) (fun t _ _ _ => ReflectliteType.toType t) #[.agg #[.pointer (some ⟨1, 44, none⟩), .pointer (some a), .int .u64 150]]).run Tryd.prog w
    = .ok (.iface 69 (.agg #[.pointer (some ⟨1, 44, none⟩)])) w := by kernel_rfl
theorem kind42 (w : World) : ((ReflectliteType.abiMethod fun t => (fun a : Nat => Value.int IntKind.u8 (a : Int)) <$> Rtype.kind t) #[.pointer (some ⟨1, 42, none⟩)]).run Tryd.prog w = .ok (.int .u8 22) w := by kernel_rfl
theorem kind44 (w : World) : ((ReflectliteType.abiMethod fun t => (fun a : Nat => Value.int IntKind.u8 (a : Int)) <$> Rtype.kind t) #[.pointer (some ⟨1, 44, none⟩)]).run Tryd.prog w = .ok (.int .u8 22) w := by kernel_rfl
theorem kind24 (w : World) : ((ReflectliteType.abiMethod fun t => (fun a : Nat => Value.int IntKind.u8 (a : Int)) <$> Rtype.kind t) #[.pointer (some ⟨1, 24, none⟩)]).run Tryd.prog w = .ok (.int .u8 22) w := by kernel_rfl
theorem kind43 (w : World) : ((ReflectliteType.abiMethod fun t => (fun a : Nat => Value.int IntKind.u8 (a : Int)) <$> Rtype.kind t) #[.pointer (some ⟨1, 43, none⟩)]).run Tryd.prog w = .ok (.int .u8 22) w := by kernel_rfl

theorem rlm (z : Sem Value) (f : TypeId → Addr → Nat → Nat → Sem Value) (v : Value) :
    ReflectliteValue.method z f #[v] = (do match ← ReflectliteValue.parts v with | none => z | some (t, a, fl) => f t a fl (fl % 32)) := rfl
theorem parts42 (a : Addr) (w : World) : (ReflectliteValue.parts (.agg #[.pointer (some ⟨1, 42, none⟩), .pointer (some a), .int .u64 150])).run Tryd.prog w = .ok (some (42, a, 150)) w := by kernel_rfl
theorem parts44 (a : Addr) (w : World) : (ReflectliteValue.parts (.agg #[.pointer (some ⟨1, 44, none⟩), .pointer (some a), .int .u64 150])).run Tryd.prog w = .ok (some (44, a, 150)) w := by kernel_rfl
theorem isNil42 (a p : Addr) (W : World) (ha : W.cell? a = some (.pointer (some p))) :
    (ReflectliteValue.method (ReflectliteValue.valueError "reflectlite.Value.IsNil" 0) ReflectliteValue.isNil #[.agg #[.pointer (some ⟨1, 42, none⟩), .pointer (some a), .int .u64 150]]).run Tryd.prog W = .ok (.bool false) W := by
  rw [rlm]
  simp only [Sem.run_bind, parts42, Result.andThen]
  simp [ReflectliteValue.isNil, loadVar, isAgg, underlying, Tryd.underlying42, ha, Result.andThen]
theorem isNil44 (a p : Addr) (W : World) (ha : W.cell? a = some (.pointer (some p))) :
    (ReflectliteValue.method (ReflectliteValue.valueError "reflectlite.Value.IsNil" 0) ReflectliteValue.isNil #[.agg #[.pointer (some ⟨1, 44, none⟩), .pointer (some a), .int .u64 150]]).run Tryd.prog W = .ok (.bool false) W := by
  rw [rlm]
  simp only [Sem.run_bind, parts44, Result.andThen]
  simp [ReflectliteValue.isNil, loadVar, isAgg, underlying, Tryd.underlying44, ha, Result.andThen]
theorem elem42 (w : World) : (ReflectliteType.method ReflectliteType.elem #[.agg #[.pointer (some ⟨1, 42, none⟩)]]).run Tryd.prog w = .ok (.iface 69 (.agg #[.pointer (some ⟨1, 24, none⟩)])) w := by kernel_rfl
theorem elem44 (w : World) : (ReflectliteType.method ReflectliteType.elem #[.agg #[.pointer (some ⟨1, 44, none⟩)]]).run Tryd.prog w = .ok (.iface 69 (.agg #[.pointer (some ⟨1, 43, none⟩)])) w := by kernel_rfl
theorem implements24 (w : World) : (ReflectliteType.relation "Implements" ReflectliteType.implements_ #[.agg #[.pointer (some ⟨1, 24, none⟩)], .iface 69 (.agg #[.pointer (some ⟨1, 29, none⟩)])]).run Tryd.prog w = .ok (.bool true) w := by kernel_rfl
theorem implements43 (w : World) : (ReflectliteType.relation "Implements" ReflectliteType.implements_ #[.agg #[.pointer (some ⟨1, 43, none⟩)], .iface 69 (.agg #[.pointer (some ⟨1, 29, none⟩)])]).run Tryd.prog w = .ok (.bool true) w := by kernel_rfl
theorem typeOf24 (v : Value) (w : World) : (ReflectliteType.typeOf #[.iface 24 v]).run Tryd.prog w = .ok (.iface 69 (.agg #[.pointer (some ⟨1, 24, none⟩)])) w := by kernel_rfl
theorem typeOf26 (v : Value) (w : World) : (ReflectliteType.typeOf #[.iface 26 v]).run Tryd.prog w = .ok (.iface 69 (.agg #[.pointer (some ⟨1, 26, none⟩)])) w := by kernel_rfl
theorem typeOf52 (v : Value) (w : World) : (ReflectliteType.typeOf #[.iface 52 v]).run Tryd.prog w = .ok (.iface 69 (.agg #[.pointer (some ⟨1, 52, none⟩)])) w := by kernel_rfl
theorem asgn24_24 (w : World) : (ReflectliteType.relation "AssignableTo" ReflectliteType.assignableTo #[.agg #[.pointer (some ⟨1, 24, none⟩)], .iface 69 (.agg #[.pointer (some ⟨1, 24, none⟩)])]).run Tryd.prog w = .ok (.bool true) w := by kernel_rfl
theorem asgn26_24 (w : World) : (ReflectliteType.relation "AssignableTo" ReflectliteType.assignableTo #[.agg #[.pointer (some ⟨1, 26, none⟩)], .iface 69 (.agg #[.pointer (some ⟨1, 24, none⟩)])]).run Tryd.prog w = .ok (.bool false) w := by kernel_rfl
theorem asgn24_43 (w : World) : (ReflectliteType.relation "AssignableTo" ReflectliteType.assignableTo #[.agg #[.pointer (some ⟨1, 24, none⟩)], .iface 69 (.agg #[.pointer (some ⟨1, 43, none⟩)])]).run Tryd.prog w = .ok (.bool false) w := by kernel_rfl
theorem asgn26_43 (w : World) : (ReflectliteType.relation "AssignableTo" ReflectliteType.assignableTo #[.agg #[.pointer (some ⟨1, 26, none⟩)], .iface 69 (.agg #[.pointer (some ⟨1, 43, none⟩)])]).run Tryd.prog w = .ok (.bool false) w := by kernel_rfl
theorem asgn52_43 (w : World) : (ReflectliteType.relation "AssignableTo" ReflectliteType.assignableTo #[.agg #[.pointer (some ⟨1, 52, none⟩)], .iface 69 (.agg #[.pointer (some ⟨1, 43, none⟩)])]).run Tryd.prog w = .ok (.bool false) w := by kernel_rfl
theorem valueOf24 (e : Addr) (w : World) : (ReflectliteValue.unpack (.iface 24 (.pointer (some e)))).run Tryd.prog w
    = .ok (.agg #[.pointer (some ⟨1, 24, none⟩), .pointer (some ⟨w.heap.size, 0, none⟩), .int .u64 150]) (w.alloc (.cells #[.pointer (some e)] 24)) := by kernel_rfl
theorem elemOf42 (w : World) : (Rtype.elem? 42).run Tryd.prog w = .ok (some 24) w := by kernel_rfl
theorem mk24 (p : Addr) (w : World) : (ReflectliteValue.mk 24 p ReflectliteValue.flagAddr).run Tryd.prog w = .ok (.agg #[.pointer (some ⟨1, 24, none⟩), .pointer (some p), .int .u64 406]) w := by kernel_rfl
theorem elemV42 (a p : Addr) (W : World) (ha : W.cell? a = some (.pointer (some p))) :
    (ReflectliteValue.method (ReflectliteValue.valueError "reflectlite.Value.Elem" 0) ReflectliteValue.elem #[.agg #[.pointer (some ⟨1, 42, none⟩), .pointer (some a), .int .u64 150]]).run Tryd.prog W
      = .ok (.agg #[.pointer (some ⟨1, 24, none⟩), .pointer (some p), .int .u64 406]) W := by
  rw [rlm]
  simp only [Sem.run_bind, parts42, Result.andThen]
  simp [ReflectliteValue.elem, loadVar, isAgg, underlying, Tryd.underlying42, ha, Result.andThen, elemOf42, mk24]
theorem parts24a (a : Addr) (w : World) : (ReflectliteValue.parts (.agg #[.pointer (some ⟨1, 24, none⟩), .pointer (some a), .int .u64 406])).run Tryd.prog w = .ok (some (24, a, 406)) w := by kernel_rfl
theorem parts24 (a : Addr) (w : World) : (ReflectliteValue.parts (.agg #[.pointer (some ⟨1, 24, none⟩), .pointer (some a), .int .u64 150])).run Tryd.prog w = .ok (some (24, a, 150)) w := by kernel_rfl
theorem direct24 (w : World) : (Rtype.directlyAssignable 24 24).run Tryd.prog w = .ok true w := by kernel_rfl
end Go.Proofs.Qxb6616973aDoor
