/-
  DERIVED. GIVEN WITH THE SEED: THE CARDS: each row of Qxb6616973aDoorRows.lean that lists a variable, with what it lists TIED to the program's text (the seventh form; the later family's looks); each row that meets fmt, with fmt's text TOLD by the authors' own Lean function (tested against real Go, not proved from fmt's source: count such statements apart). THE CARD IS WHAT COUNTS. Prove the row's statement (the work); the ties are given (Qxb6616973aDoorTie.lean); close each card by the builder's one call (the guide's Derived/Test/ToyasCard.lean, 'card_holds'). Laid BY PROGRAM, IN A SANDBOX (cutbox-door.mjs). By AI agents, Wed Nov 11 2026. No macro, syntax, notation, axiom, sorry.
-/
import Derived.Test.Qxb6616973aDoorRows
import GoSem.ClaimSeven
namespace Go.Proofs.Qxb6616973aDoor
namespace Rows

/-- THE TIED CARD OF 'zzlaws_stack_b1.FnStoppedSeesThroughLeftover'. -/
def fnStoppedSeesThroughLeftoverCard : Claim7 := { stood := { row := fnStoppedSeesThroughLeftoverRow, standIns := [], harness := (true, "3e72bdf9db9037ec5a7e61be5f236b4a834f20ef63e3dbbc6c209d36e473c859"), looks := true }, kinds := [], alts := [], laidByText := true, laidKinds := [.handle], laidTests := true, laidLooks := .later }
def FnStoppedSeesThroughLeftoverCardSaid : Prop := Claim7.holds Tryd.pinned (.plain (OpenSpec.ofChange fnStoppedSeesThroughLeftoverSpec)) fnStoppedSeesThroughLeftoverCard
end Rows
end Go.Proofs.Qxb6616973aDoor
