/-
  No cell of these rows narrows 'for every input' (looked for: loops, veiled, ifaces, maps, wideKeys, modest, calm, conditions, laid).
  DERIVED. THE GIVEN ROWS OF THIS SEAT. 2 by the template 'for every input the law returns true; each argument reads behind the call as it read before'; 0 by the template 'total and deterministic' (their statements: Qxb6618605aTotals.lean).
  GIVEN WITH THE SEED: the statements are not yours to turn. If you find one false, say at which input.
  Laid BY PROGRAM, IN A SANDBOX (cutbox-rows.mjs): the forced cells as the released guide's own fill.sh prints them over the translation fa685d63fda4a915… (all of the seat's roots in one cut). By AI agents, Wed Nov 11 2026. No macro, syntax, notation, axiom, sorry.
-/
import Derived.Test.Qxb6618605aChecked
import GoSem.Claim
import GoSem.ClaimJoined
import GoSem.ClaimMapViews
import Derived.JoinedTies
import Derived.KernelRfl
namespace Go.Proofs.Qxb6618605a
/- THE CELL 'sum', in the pinned program and in every row, IS THE sha256 OF THE DUMP (.gsa) THAT Qxb6618605aProg.lean LOADS. Nothing in Lean hashes anything: it is a label: what it is worth is what the hold of that sum in a sandbox is worth. -/
noncomputable def Try.pinned : Pinned := { name := "qxb6618605a", sum := "fa685d63fda4a9159d955d382c2ec9a85bf87cd1bd3b9f03cd593e38a2755579", checked := Try.checked }
namespace Rows
def none {H : Type} : Left H := { results := [], args := [] }

/-- 'zzlaws_root_b1.FnPlainSpanPlacesBytesInOneRun': WHATEVER THE INPUT: true; the input reads as it did. -/
def fnPlainSpanPlacesBytesInOneRunSpec : ChangeSpec := { name := "fnPlainSpanPlacesBytesInOneRun", fn := fun _ => fun
  | [d1, d2, d3] => { results := [.lit (.bool true)], args := [d1, d2, d3] }
  | _ => none }
def fnPlainSpanPlacesBytesInOneRunRow : OpenClaim := { program := "qxb6618605a", sum := "fa685d63fda4a9159d955d382c2ec9a85bf87cd1bd3b9f03cd593e38a2755579", func := "example.com/specmark/specmark/zzlaws_root_b1.FnPlainSpanPlacesBytesInOneRun", spec := "fnPlainSpanPlacesBytesInOneRun", apart := false }
def FnPlainSpanPlacesBytesInOneRunSaid : Prop := fnPlainSpanPlacesBytesInOneRunRow.holds Try.pinned (OpenSpec.ofChange fnPlainSpanPlacesBytesInOneRunSpec)

/-- ITS FALSE NEIGHBOUR: 'it returns false'. Refute it at one input. -/
def fnPlainSpanPlacesBytesInOneRunWrong : ChangeSpec := { name := "fnPlainSpanPlacesBytesInOneRun", fn := fun _ => fun
  | [d1, d2, d3] => { results := [.lit (.bool false)], args := [d1, d2, d3] }
  | _ => none }
def FnPlainSpanPlacesBytesInOneRunWrongFalsely : Prop := fnPlainSpanPlacesBytesInOneRunRow.holds Try.pinned (OpenSpec.ofChange fnPlainSpanPlacesBytesInOneRunWrong)

/-- 'zzlaws_root_b1.FnEmitDeliversUntilRefused': WHATEVER THE INPUT: true; the input reads as it did. -/
def fnEmitDeliversUntilRefusedSpec : ChangeSpec := { name := "fnEmitDeliversUntilRefused", fn := fun _ => fun
  | [d1, d2, d3, d4] => { results := [.lit (.bool true)], args := [d1, d2, d3, d4] }
  | _ => none }
def fnEmitDeliversUntilRefusedRow : OpenClaim := { program := "qxb6618605a", sum := "fa685d63fda4a9159d955d382c2ec9a85bf87cd1bd3b9f03cd593e38a2755579", func := "example.com/specmark/specmark/zzlaws_root_b1.FnEmitDeliversUntilRefused", spec := "fnEmitDeliversUntilRefused", unfollowed := true, recurses := true, apart := false }
def FnEmitDeliversUntilRefusedSaid : Prop := fnEmitDeliversUntilRefusedRow.holds Try.pinned (OpenSpec.ofChange fnEmitDeliversUntilRefusedSpec)

/-- ITS FALSE NEIGHBOUR: 'it returns false'. Refute it at one input. -/
def fnEmitDeliversUntilRefusedWrong : ChangeSpec := { name := "fnEmitDeliversUntilRefused", fn := fun _ => fun
  | [d1, d2, d3, d4] => { results := [.lit (.bool false)], args := [d1, d2, d3, d4] }
  | _ => none }
def FnEmitDeliversUntilRefusedWrongFalsely : Prop := fnEmitDeliversUntilRefusedRow.holds Try.pinned (OpenSpec.ofChange fnEmitDeliversUntilRefusedWrong)

end Rows
end Go.Proofs.Qxb6618605a
