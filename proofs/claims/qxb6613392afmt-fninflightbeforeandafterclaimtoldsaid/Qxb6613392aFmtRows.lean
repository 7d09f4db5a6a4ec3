/-
  NARROWER THAN 'FOR EVERY INPUT', by the rows' own cells (each row's printed sentence says how): FnInFlightBeforeAndAfterClaim: ifaces, laid.
  DERIVED. THE GIVEN ROWS OF THIS SEAT. 1 by the template 'for every input the law returns true; each argument reads behind the call as it read before'; 0 by the template 'total and deterministic' (their statements: Qxb6613392aFmtTotals.lean).
  GIVEN WITH THE SEED: the statements are not yours to turn. If you find one false, say at which input.
  Laid BY PROGRAM, IN A SANDBOX (cutbox-rows.mjs): the forced cells as the released guide's own fill.sh prints them over the translation c6c2e6f2531c23eb… (all of the seat's roots in one cut). By AI agents, Wed Nov 11 2026. No macro, syntax, notation, axiom, sorry.
-/
import Derived.Test.Qxb6613392aFmtChecked
import GoSem.Claim
import GoSem.ClaimJoined
import GoSem.ClaimMapViews
import Derived.JoinedTies
import Derived.KernelRfl
namespace Go.Proofs.Qxb6613392aFmt
/- THE CELL 'sum', in the pinned program and in every row, IS THE sha256 OF THE DUMP (.gsa) THAT Qxb6613392aFmtProg.lean LOADS. Nothing in Lean hashes anything: it is a label: what it is worth is what the hold of that sum in a sandbox is worth. -/
noncomputable def Tryf.pinned : Pinned := { name := "qxb6613392afmt", sum := "c6c2e6f2531c23eb8dc031c284048a848e1728e620bc6ecb8e936a765fccc55a", checked := Tryf.checked }
namespace Rows
def none {H : Type} : Left H := { results := [], args := [] }

/- WHAT THE LISTED PACKAGE-LEVEL VARIABLES READ AS WHEN THE CALL BEGINS. Each datum BY PROGRAM (the guide's laid-datum.mjs) off the statement by which the dump's own 'gosem.cut.vars' lays the variable. In a bare row this is a premise. The card (Qxb6613392aFmtCards.lean) ties it to the program's text. -/
def laid_example_com_unwind_on_abort_unwind_on_abort_tasks_ErrExecutionInProgress {H : Type} : DataW H := .iface "*errors.errorString" (.ptr (.agg [.lit (.string [116, 97, 115, 107, 115, 58, 32, 97, 110, 32, 101, 120, 101, 99, 117, 116, 105, 111, 110, 32, 111, 102, 32, 116, 104, 105, 115, 32, 116, 97, 115, 107, 32, 105, 115, 32, 105, 110, 32, 112, 114, 111, 103, 114, 101, 115, 115])]))
def laid_example_com_unwind_on_abort_unwind_on_abort_tasks_ErrCancelationInProgress {H : Type} : DataW H := .iface "*errors.errorString" (.ptr (.agg [.lit (.string [116, 97, 115, 107, 115, 58, 32, 97, 32, 99, 97, 110, 99, 101, 108, 32, 111, 102, 32, 116, 104, 105, 115, 32, 116, 97, 115, 107, 32, 105, 115, 32, 105, 110, 32, 112, 114, 111, 103, 114, 101, 115, 115])]))
def laid_example_com_unwind_on_abort_unwind_on_abort_tasks_ErrManagerClosed {H : Type} : DataW H := .iface "*errors.errorString" (.ptr (.agg [.lit (.string [116, 97, 115, 107, 115, 58, 32, 116, 104, 101, 32, 109, 97, 110, 97, 103, 101, 114, 32, 105, 115, 32, 99, 108, 111, 115, 101, 100])]))

/-- 'zzlaws_tasks_b1.FnInFlightBeforeAndAfterClaim': WHATEVER THE INPUT: true; the input reads as it did. -/
def fnInFlightBeforeAndAfterClaimSpec : ChangeSpec := { name := "fnInFlightBeforeAndAfterClaim", vars := ["example.com/unwind-on-abort/unwind-on-abort/tasks.ErrManagerClosed", "example.com/unwind-on-abort/unwind-on-abort/tasks.ErrExecutionInProgress", "example.com/unwind-on-abort/unwind-on-abort/tasks.ErrCancelationInProgress"], fn := fun _ => fun
  | [d1, d2, d3, d4, d5, g1, g2, g3] => { results := [.lit (.bool true)], args := [d1, d2, d3, d4, d5], vars := [g1, g2, g3] }
  | _ => none }
def fnInFlightBeforeAndAfterClaimRow : OpenClaim := { program := "qxb6613392afmt", sum := "c6c2e6f2531c23eb8dc031c284048a848e1728e620bc6ecb8e936a765fccc55a", func := "example.com/unwind-on-abort/unwind-on-abort/zzlaws_tasks_b1.FnInFlightBeforeAndAfterClaim", spec := "fnInFlightBeforeAndAfterClaim", stops := ["fmt.errorf"], inPlace := ["(*internal/sync.Mutex).Lock", "internal/race.Disable", "sync/atomic.CompareAndSwapInt32", "internal/race.Enable", "internal/race.Acquire", "(*internal/sync.Mutex).lockSlow", "internal/sync.runtime_canSpin", "internal/sync.runtime_doSpin", "internal/sync.throw", "internal/sync.runtime_nanotime", "internal/sync.runtime_SemacquireMutex", "sync/atomic.AddInt32", "(*internal/sync.Mutex).Unlock", "internal/race.ReleaseMerge", "(*internal/sync.Mutex).unlockSlow", "internal/sync.fatal", "internal/sync.runtime_Semrelease", "fmt.errorf"], unfollowed := true, recurses := true, named := ["example.com/unwind-on-abort/unwind-on-abort/tasks.ErrManagerClosed", "example.com/unwind-on-abort/unwind-on-abort/tasks.ErrExecutionInProgress", "example.com/unwind-on-abort/unwind-on-abort/tasks.ErrCancelationInProgress"], ifaces := true, apart := false, laid := [("example.com/unwind-on-abort/unwind-on-abort/tasks.ErrExecutionInProgress", laid_example_com_unwind_on_abort_unwind_on_abort_tasks_ErrExecutionInProgress), ("example.com/unwind-on-abort/unwind-on-abort/tasks.ErrCancelationInProgress", laid_example_com_unwind_on_abort_unwind_on_abort_tasks_ErrCancelationInProgress), ("example.com/unwind-on-abort/unwind-on-abort/tasks.ErrManagerClosed", laid_example_com_unwind_on_abort_unwind_on_abort_tasks_ErrManagerClosed)] }
/-- NO THEOREM (fmt's text is open here; it may be false): for the released tool's asking of the row's closed facts alone. THE STATEMENT IS 'FnInFlightBeforeAndAfterClaimToldSaid' (Qxb6613392aFmtCards.lean). -/
def FnInFlightBeforeAndAfterClaimFormAsk : Prop := fnInFlightBeforeAndAfterClaimRow.holds Tryf.pinned (OpenSpec.ofChange fnInFlightBeforeAndAfterClaimSpec)

/-- ITS FALSE NEIGHBOUR: 'it returns false'. Refute it at one input. -/
def fnInFlightBeforeAndAfterClaimWrong : ChangeSpec := { name := "fnInFlightBeforeAndAfterClaim", vars := ["example.com/unwind-on-abort/unwind-on-abort/tasks.ErrManagerClosed", "example.com/unwind-on-abort/unwind-on-abort/tasks.ErrExecutionInProgress", "example.com/unwind-on-abort/unwind-on-abort/tasks.ErrCancelationInProgress"], fn := fun _ => fun
  | [d1, d2, d3, d4, d5, g1, g2, g3] => { results := [.lit (.bool false)], args := [d1, d2, d3, d4, d5], vars := [g1, g2, g3] }
  | _ => none }
def FnInFlightBeforeAndAfterClaimWrongFormAsk : Prop := fnInFlightBeforeAndAfterClaimRow.holds Tryf.pinned (OpenSpec.ofChange fnInFlightBeforeAndAfterClaimWrong)

end Rows
end Go.Proofs.Qxb6613392aFmt
