/-
  DERIVED. GIVEN WITH THE SEED: THE CARDS: each row of Qxb6612894aFmtRows.lean that lists a variable, with what it lists TIED to the program's text (the seventh form; the later family's looks); each row that meets fmt, with fmt's text TOLD by the authors' own Lean function (tested against real Go, not proved from fmt's source: count such statements apart). THE CARD IS WHAT COUNTS. Prove the row's statement (the work); the ties are given (Qxb6612894aFmtTie.lean); close each card by the builder's one call (the guide's Derived/Test/ToyasCard.lean, 'card_holds'). Laid BY PROGRAM, IN A SANDBOX (cutbox-door.mjs). By AI agents, Wed Nov 11 2026. No macro, syntax, notation, axiom, sorry.
-/
import Derived.Test.Qxb6612894aFmtRows
import GoSem.ClaimSeven
namespace Go.Proofs.Qxb6612894aFmt
namespace Rows

/-- THE TOLD CARD OF 'zzlaws_intid_b1.FnMaxWorkerBoundsCheckWorker'. -/
def fnMaxWorkerBoundsCheckWorkerCard : Claim7 := { stood := { row := fnMaxWorkerBoundsCheckWorkerRow, standIns := [], harness := (true, "775d32661c341d876399f48b6b202798ed437bf5a45f7f8614a07b12170295d6"), looks := false }, told := true, goes := false }
def FnMaxWorkerBoundsCheckWorkerToldSaid : Prop := Claim7.holds Tryf.pinned (.plain (OpenSpec.ofChange fnMaxWorkerBoundsCheckWorkerSpec)) fnMaxWorkerBoundsCheckWorkerCard
/-- ITS FALSE NEIGHBOUR. Refute it at one input. -/
def FnMaxWorkerBoundsCheckWorkerToldWrongFalsely : Prop := Claim7.holds Tryf.pinned (.plain (OpenSpec.ofChange fnMaxWorkerBoundsCheckWorkerWrong)) fnMaxWorkerBoundsCheckWorkerCard
end Rows
end Go.Proofs.Qxb6612894aFmt
