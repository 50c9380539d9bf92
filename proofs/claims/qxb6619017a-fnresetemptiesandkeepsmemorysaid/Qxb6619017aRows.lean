/-
  No cell of these rows narrows 'for every input' (looked for: loops, veiled, ifaces, maps, wideKeys, modest, calm, conditions, laid).
  DERIVED. THE GIVEN ROWS OF THIS SEAT. 1 by the template 'for every input the law returns true; each argument reads behind the call as it read before'; 0 by the template 'total and deterministic' (their statements: Qxb6619017aTotals.lean).
  GIVEN WITH THE SEED: the statements are not yours to turn. If you find one false, say at which input.
  Laid BY PROGRAM, IN A SANDBOX (cutbox-rows.mjs): the forced cells as the released guide's own fill.sh prints them over the translation 8444f38d21459b60… (all of the seat's roots in one cut). By AI agents, Wed Nov 11 2026. No macro, syntax, notation, axiom, sorry.
-/
import Derived.Test.Qxb6619017aChecked
import GoSem.Claim
import GoSem.ClaimJoined
import GoSem.ClaimMapViews
import Derived.JoinedTies
import Derived.KernelRfl
namespace Go.Proofs.Qxb6619017a
/- THE CELL 'sum', in the pinned program and in every row, IS THE sha256 OF THE DUMP (.gsa) THAT Qxb6619017aProg.lean LOADS. Nothing in Lean hashes anything: it is a label: what it is worth is what the hold of that sum in a sandbox is worth. -/
noncomputable def Try.pinned : Pinned := { name := "qxb6619017a", sum := "8444f38d21459b60e9a9f561274365ad39f754c7e1c1634c8a15f712d47366b3", checked := Try.checked }
namespace Rows
def none {H : Type} : Left H := { results := [], args := [] }

/-- 'zzlaws_pkg_catalog_b1.FnResetEmptiesAndKeepsMemory': WHATEVER THE INPUT: true; the input reads as it did. -/
def fnResetEmptiesAndKeepsMemorySpec : ChangeSpec := { name := "fnResetEmptiesAndKeepsMemory", fn := fun _ => fun
  | [d1, d2, d3] => { results := [.lit (.bool true)], args := [d1, d2, d3] }
  | _ => none }
def fnResetEmptiesAndKeepsMemoryRow : OpenClaim := { program := "qxb6619017a", sum := "8444f38d21459b60e9a9f561274365ad39f754c7e1c1634c8a15f712d47366b3", func := "example.com/vetted-catalog/vetted-catalog/zzlaws_pkg_catalog_b1.FnResetEmptiesAndKeepsMemory", spec := "fnResetEmptiesAndKeepsMemory", apart := false }
def FnResetEmptiesAndKeepsMemorySaid : Prop := fnResetEmptiesAndKeepsMemoryRow.holds Try.pinned (OpenSpec.ofChange fnResetEmptiesAndKeepsMemorySpec)

/-- ITS FALSE NEIGHBOUR: 'it returns false'. Refute it at one input. -/
def fnResetEmptiesAndKeepsMemoryWrong : ChangeSpec := { name := "fnResetEmptiesAndKeepsMemory", fn := fun _ => fun
  | [d1, d2, d3] => { results := [.lit (.bool false)], args := [d1, d2, d3] }
  | _ => none }
def FnResetEmptiesAndKeepsMemoryWrongFalsely : Prop := fnResetEmptiesAndKeepsMemoryRow.holds Try.pinned (OpenSpec.ofChange fnResetEmptiesAndKeepsMemoryWrong)

end Rows
end Go.Proofs.Qxb6619017a
