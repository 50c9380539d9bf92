/-
  No cell of these rows narrows 'for every input' (looked for: loops, veiled, ifaces, maps, wideKeys, modest, calm, conditions, laid).
  DERIVED. THE GIVEN ROWS OF THIS SEAT. 2 by the template 'for every input the law returns true; each argument reads behind the call as it read before'; 0 by the template 'total and deterministic' (their statements: Qxb6616995aTotals.lean).
  GIVEN WITH THE SEED: the statements are not yours to turn. If you find one false, say at which input.
  Laid BY PROGRAM, IN A SANDBOX (cutbox-rows.mjs): the forced cells as the released guide's own fill.sh prints them over the translation 6edbbbecf205ab24… (all of the seat's roots in one cut). By AI agents, Wed Nov 11 2026. No macro, syntax, notation, axiom, sorry.
-/
import Derived.Test.Qxb6616995aChecked
import GoSem.Claim
import GoSem.ClaimJoined
import GoSem.ClaimMapViews
import Derived.JoinedTies
import Derived.KernelRfl
namespace Go.Proofs.Qxb6616995a
/- THE CELL 'sum', in the pinned program and in every row, IS THE sha256 OF THE DUMP (.gsa) THAT Qxb6616995aProg.lean LOADS. Nothing in Lean hashes anything: it is a label: what it is worth is what the hold of that sum in a sandbox is worth. -/
noncomputable def Try.pinned : Pinned := { name := "qxb6616995a", sum := "6edbbbecf205ab24da4884a70bd60e64895049b1b5da01d8e85abb2194838853", checked := Try.checked }
namespace Rows
def none {H : Type} : Left H := { results := [], args := [] }

/-- 'zzlaws_events_b1.FnHeadSizeGrowsByOneHeader': WHATEVER THE INPUT: true; the input reads as it did. -/
def fnHeadSizeGrowsByOneHeaderSpec : ChangeSpec := { name := "fnHeadSizeGrowsByOneHeader", fn := fun _ => fun
  | [d1, d2, d3, d4, d5] => { results := [.lit (.bool true)], args := [d1, d2, d3, d4, d5] }
  | _ => none }
def fnHeadSizeGrowsByOneHeaderRow : OpenClaim := { program := "qxb6616995a", sum := "6edbbbecf205ab24da4884a70bd60e64895049b1b5da01d8e85abb2194838853", func := "example.com/flags-to-fleet/flags-to-fleet/zzlaws_events_b1.FnHeadSizeGrowsByOneHeader", spec := "fnHeadSizeGrowsByOneHeader", inPlace := ["internal/abi.NoEscape", "internal/bytealg.MakeNoZero"], apart := false }
def FnHeadSizeGrowsByOneHeaderSaid : Prop := fnHeadSizeGrowsByOneHeaderRow.holds Try.pinned (OpenSpec.ofChange fnHeadSizeGrowsByOneHeaderSpec)

/-- ITS FALSE NEIGHBOUR: 'it returns false'. Refute it at one input. -/
def fnHeadSizeGrowsByOneHeaderWrong : ChangeSpec := { name := "fnHeadSizeGrowsByOneHeader", fn := fun _ => fun
  | [d1, d2, d3, d4, d5] => { results := [.lit (.bool false)], args := [d1, d2, d3, d4, d5] }
  | _ => none }
def FnHeadSizeGrowsByOneHeaderWrongFalsely : Prop := fnHeadSizeGrowsByOneHeaderRow.holds Try.pinned (OpenSpec.ofChange fnHeadSizeGrowsByOneHeaderWrong)

/-- 'zzlaws_events_b1.FnHeadSizeAddsOverAnySplit': WHATEVER THE INPUT: true; the input reads as it did. -/
def fnHeadSizeAddsOverAnySplitSpec : ChangeSpec := { name := "fnHeadSizeAddsOverAnySplit", fn := fun _ => fun
  | [d1, d2, d3, d4, d5] => { results := [.lit (.bool true)], args := [d1, d2, d3, d4, d5] }
  | _ => none }
def fnHeadSizeAddsOverAnySplitRow : OpenClaim := { program := "qxb6616995a", sum := "6edbbbecf205ab24da4884a70bd60e64895049b1b5da01d8e85abb2194838853", func := "example.com/flags-to-fleet/flags-to-fleet/zzlaws_events_b1.FnHeadSizeAddsOverAnySplit", spec := "fnHeadSizeAddsOverAnySplit", inPlace := ["internal/abi.NoEscape", "internal/bytealg.MakeNoZero"], apart := false }
def FnHeadSizeAddsOverAnySplitSaid : Prop := fnHeadSizeAddsOverAnySplitRow.holds Try.pinned (OpenSpec.ofChange fnHeadSizeAddsOverAnySplitSpec)

/-- ITS FALSE NEIGHBOUR: 'it returns false'. Refute it at one input. -/
def fnHeadSizeAddsOverAnySplitWrong : ChangeSpec := { name := "fnHeadSizeAddsOverAnySplit", fn := fun _ => fun
  | [d1, d2, d3, d4, d5] => { results := [.lit (.bool false)], args := [d1, d2, d3, d4, d5] }
  | _ => none }
def FnHeadSizeAddsOverAnySplitWrongFalsely : Prop := fnHeadSizeAddsOverAnySplitRow.holds Try.pinned (OpenSpec.ofChange fnHeadSizeAddsOverAnySplitWrong)

end Rows
end Go.Proofs.Qxb6616995a
