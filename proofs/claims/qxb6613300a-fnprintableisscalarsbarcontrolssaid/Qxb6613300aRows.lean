/-
  No cell of these rows narrows 'for every input' (looked for: loops, veiled, ifaces, maps, wideKeys, modest, calm, conditions, laid).
  DERIVED. THE GIVEN ROWS OF THIS SEAT. 1 by the template 'for every input the law returns true; each argument reads behind the call as it read before'; 0 by the template 'total and deterministic' (their statements: Qxb6613300aTotals.lean).
  GIVEN WITH THE SEED: the statements are not yours to turn. If you find one false, say at which input.
  Laid BY PROGRAM, IN A SANDBOX (cutbox-rows.mjs): the forced cells as the released guide's own fill.sh prints them over the translation 53ae739cf497efad… (all of the seat's roots in one cut). By AI agents, Wed Nov 11 2026. No macro, syntax, notation, axiom, sorry.
-/
import Derived.Test.Qxb6613300aChecked
import GoSem.Claim
import GoSem.ClaimJoined
import GoSem.ClaimMapViews
import Derived.JoinedTies
import Derived.KernelRfl
namespace Go.Proofs.Qxb6613300a
/- THE CELL 'sum', in the pinned program and in every row, IS THE sha256 OF THE DUMP (.gsa) THAT Qxb6613300aProg.lean LOADS. Nothing in Lean hashes anything: it is a label: what it is worth is what the hold of that sum in a sandbox is worth. -/
noncomputable def Try.pinned : Pinned := { name := "qxb6613300a", sum := "53ae739cf497efad799babee5b71031b804fd2fd7381a16b7c182eb36aaf6977", checked := Try.checked }
namespace Rows
def none {H : Type} : Left H := { results := [], args := [] }

/-- 'zzlaws_internal_manifest_b1.FnPrintableIsScalarsBarControls': WHATEVER THE INPUT: true; the input reads as it did. -/
def fnPrintableIsScalarsBarControlsSpec : ChangeSpec := { name := "fnPrintableIsScalarsBarControls", fn := fun _ => fun
  | [d] => { results := [.lit (.bool true)], args := [d] }
  | _ => none }
def fnPrintableIsScalarsBarControlsRow : OpenClaim := { program := "qxb6613300a", sum := "53ae739cf497efad799babee5b71031b804fd2fd7381a16b7c182eb36aaf6977", func := "example.com/portcullis/portcullis/zzlaws_internal_manifest_b1.FnPrintableIsScalarsBarControls", spec := "fnPrintableIsScalarsBarControls", apart := false }
def FnPrintableIsScalarsBarControlsSaid : Prop := fnPrintableIsScalarsBarControlsRow.holds Try.pinned (OpenSpec.ofChange fnPrintableIsScalarsBarControlsSpec)

/-- ITS FALSE NEIGHBOUR: 'it returns false'. Refute it at one input. -/
def fnPrintableIsScalarsBarControlsWrong : ChangeSpec := { name := "fnPrintableIsScalarsBarControls", fn := fun _ => fun
  | [d] => { results := [.lit (.bool false)], args := [d] }
  | _ => none }
def FnPrintableIsScalarsBarControlsWrongFalsely : Prop := fnPrintableIsScalarsBarControlsRow.holds Try.pinned (OpenSpec.ofChange fnPrintableIsScalarsBarControlsWrong)

end Rows
end Go.Proofs.Qxb6613300a
