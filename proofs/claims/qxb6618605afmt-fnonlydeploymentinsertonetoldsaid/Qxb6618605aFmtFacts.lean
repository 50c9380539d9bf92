/-
  Closed facts of this seat: the maps that ZZonlyDeploymentOfKinds builds (kind, zzid), their look-ups, and what the stop at fmt's errorf asks.
-/
import Derived.Test.Qxb6618605aFmtCards
import Derived.WalkKit
import Derived.Outline
import Derived.Below
import Derived.WideMake
import Derived.Stop.CallBack
import Derived.Stop.IfaceNil
import GoSem.ClaimData
namespace Go.Proofs.Qxb6618605aFmt
open Go.RowKit Go.Extern.Stop Go.Stop Go.Extern
set_option linter.unusedVariables false

theorem call15 (args : Array Value) (w : World) : (callFunc 15 args).run Tryf.prog w = ((FmtStop.errorf #[9, 47] #[33] args).run Tryf.prog w).andThen fun v w' => .ok (.value v) w' :=
  run_callFunc_extern Tryf.func15 (by kernel_rfl) (by kernel_rfl) (by kernel_rfl) (by kernel_rfl) args w
theorem guardF (name : String) (w : World) : (FmtStop.guard name).run Tryf.prog w = .ok () w := by kernel_rfl
theorem fmt0 : FmtStop.printed? ⟨#[37, 100, 32, 68, 101, 112, 108, 111, 121, 109, 101, 110, 116, 115, 32, 105, 110, 32, 116, 104, 101, 32, 105, 110, 112, 117, 116, 59, 32, 119, 97, 110, 116, 32, 101, 120, 97, 99, 116, 108, 121, 32, 111, 110, 101]⟩ 1 = some [(0, 100, false)] := by kernel_rfl
theorem fmt0r (w : World) : (FmtDoors.printed ⟨#[37, 100, 32, 68, 101, 112, 108, 111, 121, 109, 101, 110, 116, 115, 32, 105, 110, 32, 116, 104, 101, 32, 105, 110, 112, 117, 116, 59, 32, 119, 97, 110, 116, 32, 101, 120, 97, 99, 116, 108, 121, 32, 111, 110, 101]⟩ 1).run Tryf.prog w = .ok [(0, 100, false)] w := by kernel_rfl
def shape3 : List UInt8 := [5, 3, 0, 0, 0, 0, 0, 0, 0, 105, 110, 116]
theorem op3_100 (name : String) (x : Int) (w : World) : (FmtStop.operand name false 100 false (.iface 3 (.int .i64 x))).run Tryf.prog w = .ok (shape3, Go.Extern.Stop.digits 8 (x % 2 ^ 64).toNat) w := by kernel_rfl
theorem op3_100w (name : String) (x : Int) (w : World) : (FmtStop.operand name true 100 false (.iface 3 (.int .i64 x))).run Tryf.prog w = .ok (shape3, Go.Extern.Stop.digits 8 (x % 2 ^ 64).toNat) w := by kernel_rfl
theorem ptr44 (w : World) : (FmtStop.ptrTo "errors.errorString").run Tryf.prog w = .ok 44 w := by kernel_rfl
theorem elem44 (w : World) : (elemOf 44).run Tryf.prog w = .ok 46 w := by kernel_rfl
theorem ptr48 (w : World) : (FmtStop.ptrTo "fmt.wrapError").run Tryf.prog w = .ok 48 w := by kernel_rfl

/-- The entries of the map that is built for kind s at place i. -/
def ents (s : ByteArray) (i : Int) : Array MapEntry := #[⟨.string ⟨#[107, 105, 110, 100]⟩, .iface 9 (.string s), 0⟩, ⟨.string ⟨#[122, 122, 105, 100]⟩, .iface 3 (.int .i64 i), 1⟩]

theorem set_alloc (w : World) (A B : Obj) : ({ w.alloc A with heap := (w.alloc A).heap.setIfInBounds w.heap.size B } : World) = w.alloc B := by
  have h : (w.heap.push A).setIfInBounds w.heap.size B = w.heap.push B := by
    apply Array.ext_getElem?
    intro i
    rw [Array.getElem?_setIfInBounds, Array.getElem?_push, Array.getElem?_push]
    by_cases e : w.heap.size = i
    · subst e; simp
    · have e' : i ≠ w.heap.size := fun h => e h.symm
      rw [if_neg e, if_neg e', if_neg e']
  show ({ w with heap := (w.heap.push A).setIfInBounds w.heap.size B } : World) = { w with heap := w.heap.push B }
  rw [h]

theorem ins1 (w : World) (v : Value) : (Instr.mapUpdate 31 (.map (some w.heap.size)) (.string ⟨#[107, 105, 110, 100]⟩) v).run Tryf.prog (w.alloc (.map #[] 0)) = .ok () (w.alloc (.map #[⟨.string ⟨#[107, 105, 110, 100]⟩, v, 0⟩] 1)) := by
  rw [run_mapUpdate_first (P := Tryf.prog) (w.alloc (.map #[] 0)) 31 9 20 w.heap.size 0 _ v Tryf.underlying31 Tryf.underlying9 (heap_alloc_new _ _), set_alloc]

theorem ins2 (w : World) (v u : Value) : (Instr.mapUpdate 31 (.map (some w.heap.size)) (.string ⟨#[122, 122, 105, 100]⟩) u).run Tryf.prog (w.alloc (.map #[⟨.string ⟨#[107, 105, 110, 100]⟩, v, 0⟩] 1)) = .ok () (w.alloc (.map #[⟨.string ⟨#[107, 105, 110, 100]⟩, v, 0⟩, ⟨.string ⟨#[122, 122, 105, 100]⟩, u, 1⟩] 2)) := by
  have hb := heap_alloc_new w (.map #[⟨.string ⟨#[107, 105, 110, 100]⟩, v, 0⟩] 1)
  have hf : Instr.findNow .string (.string ⟨#[122, 122, 105, 100]⟩) [(⟨.string ⟨#[107, 105, 110, 100]⟩, v, 0⟩ : MapEntry)] 0 = some none := rfl
  have hc : (Instr.checkKey false 10000 9 (.string ⟨#[122, 122, 105, 100]⟩)).run Tryf.prog (w.alloc (.map #[⟨.string ⟨#[107, 105, 110, 100]⟩, v, 0⟩] 1)) = .ok () _ := MapKept.run_checkKey (k := .string ⟨#[122, 122, 105, 100]⟩) Tryf.underlying9 (by simp [MapKept.IsKey]) false 9999
  simp [Instr.mapUpdate, run_underlying Tryf.underlying31, MapKept.run_getObj_map hb, hc, MapKept.run_findKey Tryf.underlying9 hf, MapKept.run_setObj_map _ hb, Result.andThen]
  exact set_alloc w _ _

/-- A look-up in such a map. -/
theorem look_at (w : World) (m : Nat) (s : ByteArray) (i : Int) (k : ByteArray) (hm : w.heap[m]? = some (.map (ents s i) 2)) (r : Option (Nat × Value))
    (hf : Instr.findNow .string (.string k) (ents s i).toList 0 = some r) :
    (Instr.lookup 31 (.map (some m)) (.string k) false).run Tryf.prog w = .ok (match r with | some (_, v) => v | none => .nilIface) w := by
  have hc : ∀ e, (Instr.checkKey e 10000 9 (.string k)).run Tryf.prog w = .ok () w := fun e => MapKept.run_checkKey (k := .string k) Tryf.underlying9 (by simp [MapKept.IsKey]) e 9999
  have hz : (zeroValue 20).run Tryf.prog w = .ok .nilIface w := by kernel_rfl
  cases r with
  | none => simp [Instr.lookup, run_underlying Tryf.underlying31, MapKept.run_getObj_map hm, hc, MapKept.run_findKey Tryf.underlying9 hf, hz, Result.andThen]
  | some p => obtain ⟨j, v⟩ := p; simp [Instr.lookup, run_underlying Tryf.underlying31, MapKept.run_getObj_map hm, hc, MapKept.run_findKey Tryf.underlying9 hf, Result.andThen]

theorem look_none (w : World) (k : ByteArray) : (Instr.lookup 31 (.map none) (.string k) false).run Tryf.prog w = .ok .nilIface w := by
  have hc : ∀ e, (Instr.checkKey e 10000 9 (.string k)).run Tryf.prog w = .ok () w := fun e => MapKept.run_checkKey (k := .string k) Tryf.underlying9 (by simp [MapKept.IsKey]) e 9999
  have hz : (zeroValue 20).run Tryf.prog w = .ok .nilIface w := by kernel_rfl
  have hf : Instr.findNow .string (.string k) [] 0 = some none := rfl
  simp [Instr.lookup, run_underlying Tryf.underlying31, hc, MapKept.run_findKey Tryf.underlying9 hf, hz, Result.andThen]
theorem as9_nil (w : World) : (Instr.typeAssert .nilIface 20 9 true).run Tryf.prog w = .ok (.tuple #[.string ⟨#[]⟩, .bool false]) w := by kernel_rfl
theorem as9_some (s : ByteArray) (w : World) : (Instr.typeAssert (.iface 9 (.string s)) 20 9 true).run Tryf.prog w = .ok (.tuple #[.string s, .bool true]) w := by kernel_rfl
theorem as31_nil (w : World) : (Instr.typeAssert .nilIface 20 31 true).run Tryf.prog w = .ok (.tuple #[.map none, .bool false]) w := by kernel_rfl
theorem as3_nil (w : World) : (Instr.typeAssert .nilIface 20 3 true).run Tryf.prog w = .ok (.tuple #[.int .i64 0, .bool false]) w := by kernel_rfl
theorem as3_some (i : Int) (w : World) : (Instr.typeAssert (.iface 3 (.int .i64 i)) 20 3 true).run Tryf.prog w = .ok (.tuple #[.int .i64 i, .bool true]) w := by kernel_rfl
end Go.Proofs.Qxb6618605aFmt
