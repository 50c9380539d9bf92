/-
  No cell of these rows narrows 'for every input' (looked for: loops, veiled, ifaces, maps, wideKeys, modest, calm, conditions, laid).
  DERIVED. THE GIVEN ROWS OF THIS SEAT. 2 by the template 'for every input the law returns true; each argument reads behind the call as it read before'; 0 by the template 'total and deterministic' (their statements: Qxb6618605aFmtTotals.lean).
  GIVEN WITH THE SEED: the statements are not yours to turn. If you find one false, say at which input.
  Laid BY PROGRAM, IN A SANDBOX (cutbox-rows.mjs): the forced cells as the released guide's own fill.sh prints them over the translation f46b2da2eb532101… (all of the seat's roots in one cut). By AI agents, Wed Nov 11 2026. No macro, syntax, notation, axiom, sorry.
-/
import Derived.Test.Qxb6618605aFmtChecked
import GoSem.Claim
import GoSem.ClaimJoined
import GoSem.ClaimMapViews
import Derived.JoinedTies
import Derived.KernelRfl
namespace Go.Proofs.Qxb6618605aFmt
/- THE CELL 'sum', in the pinned program and in every row, IS THE sha256 OF THE DUMP (.gsa) THAT Qxb6618605aFmtProg.lean LOADS. Nothing in Lean hashes anything: it is a label: what it is worth is what the hold of that sum in a sandbox is worth. -/
noncomputable def Tryf.pinned : Pinned := { name := "qxb6618605afmt", sum := "f46b2da2eb5321016e067ae6d772806b14f49a0193b8d5d47e32e7e7d0686ca0", checked := Tryf.checked }
namespace Rows
def none {H : Type} : Left H := { results := [], args := [] }

/-- 'zzlaws_root_b1.FnOnlyDeploymentPicksTheOnlyOne': WHATEVER THE INPUT: true; the input reads as it did. -/
def fnOnlyDeploymentPicksTheOnlyOneSpec : ChangeSpec := { name := "fnOnlyDeploymentPicksTheOnlyOne", fn := fun _ => fun
  | [d] => { results := [.lit (.bool true)], args := [d] }
  | _ => none }
def fnOnlyDeploymentPicksTheOnlyOneRow : OpenClaim := { program := "qxb6618605afmt", sum := "f46b2da2eb5321016e067ae6d772806b14f49a0193b8d5d47e32e7e7d0686ca0", func := "example.com/specmark/specmark/zzlaws_root_b1.FnOnlyDeploymentPicksTheOnlyOne", spec := "fnOnlyDeploymentPicksTheOnlyOne", stops := ["fmt.errorf"], inPlace := ["fmt.errorf"], unfollowed := true, recurses := true, apart := false }
/-- NO THEOREM (fmt's text is open here; it may be false): for the released tool's asking of the row's closed facts alone. THE STATEMENT IS 'FnOnlyDeploymentPicksTheOnlyOneToldSaid' (Qxb6618605aFmtCards.lean). -/
def FnOnlyDeploymentPicksTheOnlyOneFormAsk : Prop := fnOnlyDeploymentPicksTheOnlyOneRow.holds Tryf.pinned (OpenSpec.ofChange fnOnlyDeploymentPicksTheOnlyOneSpec)

/-- ITS FALSE NEIGHBOUR: 'it returns false'. Refute it at one input. -/
def fnOnlyDeploymentPicksTheOnlyOneWrong : ChangeSpec := { name := "fnOnlyDeploymentPicksTheOnlyOne", fn := fun _ => fun
  | [d] => { results := [.lit (.bool false)], args := [d] }
  | _ => none }
def FnOnlyDeploymentPicksTheOnlyOneWrongFormAsk : Prop := fnOnlyDeploymentPicksTheOnlyOneRow.holds Tryf.pinned (OpenSpec.ofChange fnOnlyDeploymentPicksTheOnlyOneWrong)

/-- 'zzlaws_root_b1.FnOnlyDeploymentInsertOne': WHATEVER THE INPUT: true; the input reads as it did. -/
def fnOnlyDeploymentInsertOneSpec : ChangeSpec := { name := "fnOnlyDeploymentInsertOne", fn := fun _ => fun
  | [d1, d2, d3] => { results := [.lit (.bool true)], args := [d1, d2, d3] }
  | _ => none }
def fnOnlyDeploymentInsertOneRow : OpenClaim := { program := "qxb6618605afmt", sum := "f46b2da2eb5321016e067ae6d772806b14f49a0193b8d5d47e32e7e7d0686ca0", func := "example.com/specmark/specmark/zzlaws_root_b1.FnOnlyDeploymentInsertOne", spec := "fnOnlyDeploymentInsertOne", stops := ["fmt.errorf"], inPlace := ["fmt.errorf"], unfollowed := true, recurses := true, apart := false }
/-- NO THEOREM (fmt's text is open here; it may be false): for the released tool's asking of the row's closed facts alone. THE STATEMENT IS 'FnOnlyDeploymentInsertOneToldSaid' (Qxb6618605aFmtCards.lean). -/
def FnOnlyDeploymentInsertOneFormAsk : Prop := fnOnlyDeploymentInsertOneRow.holds Tryf.pinned (OpenSpec.ofChange fnOnlyDeploymentInsertOneSpec)

/-- ITS FALSE NEIGHBOUR: 'it returns false'. Refute it at one input. -/
def fnOnlyDeploymentInsertOneWrong : ChangeSpec := { name := "fnOnlyDeploymentInsertOne", fn := fun _ => fun
  | [d1, d2, d3] => { results := [.lit (.bool false)], args := [d1, d2, d3] }
  | _ => none }
def FnOnlyDeploymentInsertOneWrongFormAsk : Prop := fnOnlyDeploymentInsertOneRow.holds Tryf.pinned (OpenSpec.ofChange fnOnlyDeploymentInsertOneWrong)

end Rows
end Go.Proofs.Qxb6618605aFmt
