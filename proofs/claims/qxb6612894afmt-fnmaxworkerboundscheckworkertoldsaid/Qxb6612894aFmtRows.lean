/-
  No cell of these rows narrows 'for every input' (looked for: loops, veiled, ifaces, maps, wideKeys, modest, calm, conditions, laid).
  DERIVED. THE GIVEN ROWS OF THIS SEAT. 1 by the template 'for every input the law returns true; each argument reads behind the call as it read before'; 0 by the template 'total and deterministic' (their statements: Qxb6612894aFmtTotals.lean).
  GIVEN WITH THE SEED: the statements are not yours to turn. If you find one false, say at which input.
  Laid BY PROGRAM, IN A SANDBOX (cutbox-rows.mjs): the forced cells as the released guide's own fill.sh prints them over the translation 929e98bf69b2cf36… (all of the seat's roots in one cut). By AI agents, Wed Nov 11 2026. No macro, syntax, notation, axiom, sorry.
-/
import Derived.Test.Qxb6612894aFmtChecked
import GoSem.Claim
import GoSem.ClaimJoined
import GoSem.ClaimMapViews
import Derived.JoinedTies
import Derived.KernelRfl
namespace Go.Proofs.Qxb6612894aFmt
/- THE CELL 'sum', in the pinned program and in every row, IS THE sha256 OF THE DUMP (.gsa) THAT Qxb6612894aFmtProg.lean LOADS. Nothing in Lean hashes anything: it is a label: what it is worth is what the hold of that sum in a sandbox is worth. -/
noncomputable def Tryf.pinned : Pinned := { name := "qxb6612894afmt", sum := "929e98bf69b2cf368d7a1dd5e7b5392758b7618d6aa01f68ca6c3c06973cb641", checked := Tryf.checked }
namespace Rows
def none {H : Type} : Left H := { results := [], args := [] }

/-- 'zzlaws_intid_b1.FnMaxWorkerBoundsCheckWorker': WHATEVER THE INPUT: true; the input reads as it did. -/
def fnMaxWorkerBoundsCheckWorkerSpec : ChangeSpec := { name := "fnMaxWorkerBoundsCheckWorker", fn := fun _ => fun
  | [d1, d2, d3, d4, d5] => { results := [.lit (.bool true)], args := [d1, d2, d3, d4, d5] }
  | _ => none }
def fnMaxWorkerBoundsCheckWorkerRow : OpenClaim := { program := "qxb6612894afmt", sum := "929e98bf69b2cf368d7a1dd5e7b5392758b7618d6aa01f68ca6c3c06973cb641", func := "example.com/keymint/keymint/zzlaws_intid_b1.FnMaxWorkerBoundsCheckWorker", spec := "fnMaxWorkerBoundsCheckWorker", stops := ["fmt.errorf"], inPlace := ["fmt.errorf"], apart := false }
/-- NO THEOREM (fmt's text is open here; it may be false): for the released tool's asking of the row's closed facts alone. THE STATEMENT IS 'FnMaxWorkerBoundsCheckWorkerToldSaid' (Qxb6612894aFmtCards.lean). -/
def FnMaxWorkerBoundsCheckWorkerFormAsk : Prop := fnMaxWorkerBoundsCheckWorkerRow.holds Tryf.pinned (OpenSpec.ofChange fnMaxWorkerBoundsCheckWorkerSpec)

/-- ITS FALSE NEIGHBOUR: 'it returns false'. Refute it at one input. -/
def fnMaxWorkerBoundsCheckWorkerWrong : ChangeSpec := { name := "fnMaxWorkerBoundsCheckWorker", fn := fun _ => fun
  | [d1, d2, d3, d4, d5] => { results := [.lit (.bool false)], args := [d1, d2, d3, d4, d5] }
  | _ => none }
def FnMaxWorkerBoundsCheckWorkerWrongFormAsk : Prop := fnMaxWorkerBoundsCheckWorkerRow.holds Tryf.pinned (OpenSpec.ofChange fnMaxWorkerBoundsCheckWorkerWrong)

end Rows
end Go.Proofs.Qxb6612894aFmt
