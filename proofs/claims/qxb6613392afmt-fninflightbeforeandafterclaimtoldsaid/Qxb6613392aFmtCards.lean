/-
  DERIVED. GIVEN WITH THE SEED: THE CARDS: each row of Qxb6613392aFmtRows.lean that lists a variable, with what it lists TIED to the program's text (the seventh form; the later family's looks); each row that meets fmt, with fmt's text TOLD by the authors' own Lean function (tested against real Go, not proved from fmt's source: count such statements apart). THE CARD IS WHAT COUNTS. Prove the row's statement (the work); the ties are given (Qxb6613392aFmtTie.lean); close each card by the builder's one call (the guide's Derived/Test/ToyasCard.lean, 'card_holds'). Laid BY PROGRAM, IN A SANDBOX (cutbox-door.mjs). By AI agents, Wed Nov 11 2026. No macro, syntax, notation, axiom, sorry.
-/
import Derived.Test.Qxb6613392aFmtRows
import GoSem.ClaimSeven
namespace Go.Proofs.Qxb6613392aFmt
namespace Rows

/-- THE TOLD AND TIED CARD OF 'zzlaws_tasks_b1.FnInFlightBeforeAndAfterClaim'. -/
def fnInFlightBeforeAndAfterClaimCard : Claim7 := { stood := { row := fnInFlightBeforeAndAfterClaimRow, standIns := [], harness := (true, "e5ac0384400fbbe6b153fa85d222fefdff11febc196c6ed80f55cd1ef586ef80"), looks := false }, told := true, laidByText := true, laidKinds := [.sentinel, .sentinel, .sentinel], laidTests := true, laidLooks := .later, goes := false }
def FnInFlightBeforeAndAfterClaimToldSaid : Prop := Claim7.holds Tryf.pinned (.plain (OpenSpec.ofChange fnInFlightBeforeAndAfterClaimSpec)) fnInFlightBeforeAndAfterClaimCard
/-- ITS FALSE NEIGHBOUR. Refute it at one input. -/
def FnInFlightBeforeAndAfterClaimToldWrongFalsely : Prop := Claim7.holds Tryf.pinned (.plain (OpenSpec.ofChange fnInFlightBeforeAndAfterClaimWrong)) fnInFlightBeforeAndAfterClaimCard
end Rows
end Go.Proofs.Qxb6613392aFmt
