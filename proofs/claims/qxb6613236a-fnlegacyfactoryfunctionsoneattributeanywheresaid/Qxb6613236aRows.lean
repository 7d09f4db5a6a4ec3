/-
  No cell of these rows narrows 'for every input' (looked for: loops, veiled, ifaces, maps, wideKeys, modest, calm, conditions, laid).
  DERIVED. THE GIVEN ROWS OF THIS SEAT. 2 by the template 'for every input the law returns true; each argument reads behind the call as it read before'; 0 by the template 'total and deterministic' (their statements: Qxb6613236aTotals.lean).
  GIVEN WITH THE SEED: the statements are not yours to turn. If you find one false, say at which input.
  Laid BY PROGRAM, IN A SANDBOX (cutbox-rows.mjs): the forced cells as the released guide's own fill.sh prints them over the translation ccf925532c10ad5b… (all of the seat's roots in one cut). By AI agents, Wed Nov 11 2026. No macro, syntax, notation, axiom, sorry.
-/
import Derived.Test.Qxb6613236aChecked
import GoSem.Claim
import GoSem.ClaimJoined
import GoSem.ClaimMapViews
import Derived.JoinedTies
import Derived.KernelRfl
namespace Go.Proofs.Qxb6613236a
/- THE CELL 'sum', in the pinned program and in every row, IS THE sha256 OF THE DUMP (.gsa) THAT Qxb6613236aProg.lean LOADS. Nothing in Lean hashes anything: it is a label: what it is worth is what the hold of that sum in a sandbox is worth. -/
noncomputable def Try.pinned : Pinned := { name := "qxb6613236a", sum := "ccf925532c10ad5b2d7a0cbed94b3a3bb5bef2ed31fcbca18bf59ce779a5da69", checked := Try.checked }
namespace Rows
def none {H : Type} : Left H := { results := [], args := [] }

/-- 'zzlaws_pkg_webidl_b1.FnLegacyFactoryFunctionsSplitAtAnyCut': WHATEVER THE INPUT: true; the input reads as it did. -/
def fnLegacyFactoryFunctionsSplitAtAnyCutSpec : ChangeSpec := { name := "fnLegacyFactoryFunctionsSplitAtAnyCut", fn := fun _ => fun
  | [d1, d2] => { results := [.lit (.bool true)], args := [d1, d2] }
  | _ => none }
def fnLegacyFactoryFunctionsSplitAtAnyCutRow : OpenClaim := { program := "qxb6613236a", sum := "ccf925532c10ad5b2d7a0cbed94b3a3bb5bef2ed31fcbca18bf59ce779a5da69", func := "example.com/bindweave/bindweave/zzlaws_pkg_webidl_b1.FnLegacyFactoryFunctionsSplitAtAnyCut", spec := "fnLegacyFactoryFunctionsSplitAtAnyCut", apart := false }
def FnLegacyFactoryFunctionsSplitAtAnyCutSaid : Prop := fnLegacyFactoryFunctionsSplitAtAnyCutRow.holds Try.pinned (OpenSpec.ofChange fnLegacyFactoryFunctionsSplitAtAnyCutSpec)

/-- ITS FALSE NEIGHBOUR: 'it returns false'. Refute it at one input. -/
def fnLegacyFactoryFunctionsSplitAtAnyCutWrong : ChangeSpec := { name := "fnLegacyFactoryFunctionsSplitAtAnyCut", fn := fun _ => fun
  | [d1, d2] => { results := [.lit (.bool false)], args := [d1, d2] }
  | _ => none }
def FnLegacyFactoryFunctionsSplitAtAnyCutWrongFalsely : Prop := fnLegacyFactoryFunctionsSplitAtAnyCutRow.holds Try.pinned (OpenSpec.ofChange fnLegacyFactoryFunctionsSplitAtAnyCutWrong)

/-- 'zzlaws_pkg_webidl_b1.FnLegacyFactoryFunctionsOneAttributeAnywhere': WHATEVER THE INPUT: true; the input reads as it did. -/
def fnLegacyFactoryFunctionsOneAttributeAnywhereSpec : ChangeSpec := { name := "fnLegacyFactoryFunctionsOneAttributeAnywhere", fn := fun _ => fun
  | [d1, d2, d3] => { results := [.lit (.bool true)], args := [d1, d2, d3] }
  | _ => none }
def fnLegacyFactoryFunctionsOneAttributeAnywhereRow : OpenClaim := { program := "qxb6613236a", sum := "ccf925532c10ad5b2d7a0cbed94b3a3bb5bef2ed31fcbca18bf59ce779a5da69", func := "example.com/bindweave/bindweave/zzlaws_pkg_webidl_b1.FnLegacyFactoryFunctionsOneAttributeAnywhere", spec := "fnLegacyFactoryFunctionsOneAttributeAnywhere", apart := false }
def FnLegacyFactoryFunctionsOneAttributeAnywhereSaid : Prop := fnLegacyFactoryFunctionsOneAttributeAnywhereRow.holds Try.pinned (OpenSpec.ofChange fnLegacyFactoryFunctionsOneAttributeAnywhereSpec)

/-- ITS FALSE NEIGHBOUR: 'it returns false'. Refute it at one input. -/
def fnLegacyFactoryFunctionsOneAttributeAnywhereWrong : ChangeSpec := { name := "fnLegacyFactoryFunctionsOneAttributeAnywhere", fn := fun _ => fun
  | [d1, d2, d3] => { results := [.lit (.bool false)], args := [d1, d2, d3] }
  | _ => none }
def FnLegacyFactoryFunctionsOneAttributeAnywhereWrongFalsely : Prop := fnLegacyFactoryFunctionsOneAttributeAnywhereRow.holds Try.pinned (OpenSpec.ofChange fnLegacyFactoryFunctionsOneAttributeAnywhereWrong)

end Rows
end Go.Proofs.Qxb6613236a
