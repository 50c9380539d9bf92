/-
  (Value).Set at the paused error's pointer type.
-/
import Derived.Test.Qxb6616973aDoorFacts
namespace Go.Proofs.Qxb6616973aDoor
open Go.RowKit Go.Extern.Stop Go.Stop Go.Extern
set_option linter.unusedVariables false

theorem rls : ∃ (z1 : Sem Value) (z2 : Sem PUnit) (rest : TypeId → TypeId → Addr → Addr → Nat → Value → Sem Value), ∀ v x : Value, ReflectliteValue.set #[v, x] = (do
    let (some (dst, a, fl), some (src, b, _)) := (← ReflectliteValue.parts v, ← ReflectliteValue.parts x)
      | z1
    if fl / ReflectliteValue.flagAddr % 2 == 0 then z2
    let val ← loadVar src b
    let c ← Rtype.directlyAssignable dst src
    if c then (do storeVar dst a val; pure (.tuple #[])) else rest dst src a b fl val) := ⟨_, _, _, fun _ _ => rfl⟩
theorem set24 (ta b e : Addr) (old : Value) (W : World) (hb : W.cell? b = some (.pointer (some e))) (ht : W.cell? ta = some old) (hf : W.frozen? ta = false) :
    (ReflectliteValue.set #[.agg #[.pointer (some ⟨1, 24, none⟩), .pointer (some ta), .int .u64 406], .agg #[.pointer (some ⟨1, 24, none⟩), .pointer (some b), .int .u64 150]]).run Tryd.prog W
      = .ok (.tuple #[]) (W.setCell ta (.pointer (some e))) := by
  obtain ⟨z1, z2, rest, hr⟩ := rls
  rw [hr]
  simp only [Sem.run_bind, parts24a, parts24, Result.andThen]
  simp [ReflectliteValue.flagAddr, loadVar, isAgg, underlying, Tryd.underlying24, hb, Result.andThen, direct24, storeVar, Value.cells, storeCells, Addr.add]
  rw [run_store Tryd.prog W ta _ _ (by rfl)]
  simp [ht, hf]
end Go.Proofs.Qxb6616973aDoor
