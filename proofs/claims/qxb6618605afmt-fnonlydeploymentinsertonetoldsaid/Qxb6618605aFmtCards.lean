/-
  DERIVED. GIVEN WITH THE SEED: THE CARDS: each row of Qxb6618605aFmtRows.lean that lists a variable, with what it lists TIED to the program's text (the seventh form; the later family's looks); each row that meets fmt, with fmt's text TOLD by the authors' own Lean function (tested against real Go, not proved from fmt's source: count such statements apart). THE CARD IS WHAT COUNTS. Prove the row's statement (the work); the ties are given (Qxb6618605aFmtTie.lean); close each card by the builder's one call (the guide's Derived/Test/ToyasCard.lean, 'card_holds'). Laid BY PROGRAM, IN A SANDBOX (cutbox-door.mjs). By AI agents, Wed Nov 11 2026. No macro, syntax, notation, axiom, sorry.
-/
import Derived.Test.Qxb6618605aFmtRows
import GoSem.ClaimSeven
namespace Go.Proofs.Qxb6618605aFmt
namespace Rows

/-- THE TOLD CARD OF 'zzlaws_root_b1.FnOnlyDeploymentPicksTheOnlyOne'. -/
def fnOnlyDeploymentPicksTheOnlyOneCard : Claim7 := { stood := { row := fnOnlyDeploymentPicksTheOnlyOneRow, standIns := [], harness := (true, "0216b75734c74db1752dff6d02d0a72155dcf6b71043b8ebe5d17076610fc896"), looks := true }, told := true, goes := false }
def FnOnlyDeploymentPicksTheOnlyOneToldSaid : Prop := Claim7.holds Tryf.pinned (.plain (OpenSpec.ofChange fnOnlyDeploymentPicksTheOnlyOneSpec)) fnOnlyDeploymentPicksTheOnlyOneCard
/-- ITS FALSE NEIGHBOUR. Refute it at one input. -/
def FnOnlyDeploymentPicksTheOnlyOneToldWrongFalsely : Prop := Claim7.holds Tryf.pinned (.plain (OpenSpec.ofChange fnOnlyDeploymentPicksTheOnlyOneWrong)) fnOnlyDeploymentPicksTheOnlyOneCard

/-- THE TOLD CARD OF 'zzlaws_root_b1.FnOnlyDeploymentInsertOne'. -/
def fnOnlyDeploymentInsertOneCard : Claim7 := { stood := { row := fnOnlyDeploymentInsertOneRow, standIns := [], harness := (true, "0216b75734c74db1752dff6d02d0a72155dcf6b71043b8ebe5d17076610fc896"), looks := true }, told := true, goes := false }
def FnOnlyDeploymentInsertOneToldSaid : Prop := Claim7.holds Tryf.pinned (.plain (OpenSpec.ofChange fnOnlyDeploymentInsertOneSpec)) fnOnlyDeploymentInsertOneCard
/-- ITS FALSE NEIGHBOUR. Refute it at one input. -/
def FnOnlyDeploymentInsertOneToldWrongFalsely : Prop := Claim7.holds Tryf.pinned (.plain (OpenSpec.ofChange fnOnlyDeploymentInsertOneWrong)) fnOnlyDeploymentInsertOneCard
end Rows
end Go.Proofs.Qxb6618605aFmt
