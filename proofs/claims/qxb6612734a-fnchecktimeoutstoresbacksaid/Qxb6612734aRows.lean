/-
  No cell of these rows narrows 'for every input' (looked for: loops, veiled, ifaces, maps, wideKeys, modest, calm, conditions, laid).
  DERIVED. THE GIVEN ROWS OF THIS SEAT. 1 by the template 'for every input the law returns true; each argument reads behind the call as it read before'; 0 by the template 'total and deterministic' (their statements: Qxb6612734aTotals.lean).
  GIVEN WITH THE SEED: the statements are not yours to turn. If you find one false, say at which input.
  Laid BY PROGRAM, IN A SANDBOX (cutbox-rows.mjs): the forced cells as the released guide's own fill.sh prints them over the translation 3c9bbe23118857b5… (all of the seat's roots in one cut). By AI agents, Wed Nov 11 2026. No macro, syntax, notation, axiom, sorry.
-/
import Derived.Test.Qxb6612734aChecked
import GoSem.Claim
import GoSem.ClaimJoined
import GoSem.ClaimMapViews
import Derived.JoinedTies
import Derived.KernelRfl
namespace Go.Proofs.Qxb6612734a
/- THE CELL 'sum', in the pinned program and in every row, IS THE sha256 OF THE DUMP (.gsa) THAT Qxb6612734aProg.lean LOADS. Nothing in Lean hashes anything: it is a label: what it is worth is what the hold of that sum in a sandbox is worth. -/
noncomputable def Try.pinned : Pinned := { name := "qxb6612734a", sum := "3c9bbe23118857b596bf7573203600b33b00772b37f9bc506a1cab98327fca8d", checked := Try.checked }
namespace Rows
def none {H : Type} : Left H := { results := [], args := [] }

/-- 'zzlaws_root_b1.FnCheckTimeoutStoresBack': WHATEVER THE INPUT: true; the input reads as it did. -/
def fnCheckTimeoutStoresBackSpec : ChangeSpec := { name := "fnCheckTimeoutStoresBack", fn := fun _ => fun
  | [d] => { results := [.lit (.bool true)], args := [d] }
  | _ => none }
def fnCheckTimeoutStoresBackRow : OpenClaim := { program := "qxb6612734a", sum := "3c9bbe23118857b596bf7573203600b33b00772b37f9bc506a1cab98327fca8d", func := "example.com/pulsekeep/pulsekeep/zzlaws_root_b1.FnCheckTimeoutStoresBack", spec := "fnCheckTimeoutStoresBack", inPlace := ["sync/atomic.StoreUint32", "sync/atomic.StoreInt64", "sync/atomic.LoadInt64"], apart := false }
def FnCheckTimeoutStoresBackSaid : Prop := fnCheckTimeoutStoresBackRow.holds Try.pinned (OpenSpec.ofChange fnCheckTimeoutStoresBackSpec)

/-- ITS FALSE NEIGHBOUR: 'it returns false'. Refute it at one input. -/
def fnCheckTimeoutStoresBackWrong : ChangeSpec := { name := "fnCheckTimeoutStoresBack", fn := fun _ => fun
  | [d] => { results := [.lit (.bool false)], args := [d] }
  | _ => none }
def FnCheckTimeoutStoresBackWrongFalsely : Prop := fnCheckTimeoutStoresBackRow.holds Try.pinned (OpenSpec.ofChange fnCheckTimeoutStoresBackWrong)

end Rows
end Go.Proofs.Qxb6612734a
