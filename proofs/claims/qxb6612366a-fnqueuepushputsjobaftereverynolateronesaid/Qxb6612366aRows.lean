/-
  No cell of these rows narrows 'for every input' (looked for: loops, veiled, ifaces, maps, wideKeys, modest, calm, conditions, laid).
  DERIVED. THE GIVEN ROWS OF THIS SEAT. 2 by the template 'for every input the law returns true; each argument reads behind the call as it read before'; 0 by the template 'total and deterministic' (their statements: Qxb6612366aTotals.lean).
  GIVEN WITH THE SEED: the statements are not yours to turn. If you find one false, say at which input.
  Laid BY PROGRAM, IN A SANDBOX (cutbox-rows.mjs): the forced cells as the released guide's own fill.sh prints them over the translation 75c435282ce75491… (all of the seat's roots in one cut). By AI agents, Wed Nov 11 2026. No macro, syntax, notation, axiom, sorry.
-/
import Derived.Test.Qxb6612366aChecked
import GoSem.Claim
import GoSem.ClaimJoined
import GoSem.ClaimMapViews
import Derived.JoinedTies
import Derived.KernelRfl
namespace Go.Proofs.Qxb6612366a
/- THE CELL 'sum', in the pinned program and in every row, IS THE sha256 OF THE DUMP (.gsa) THAT Qxb6612366aProg.lean LOADS. Nothing in Lean hashes anything: it is a label: what it is worth is what the hold of that sum in a sandbox is worth. -/
noncomputable def Try.pinned : Pinned := { name := "qxb6612366a", sum := "75c435282ce75491433a4f665a03d24cc29377c18e6ea6e366a4b9112dbaf414", checked := Try.checked }
namespace Rows
def none {H : Type} : Left H := { results := [], args := [] }

/-- 'zzlaws_pkg_ledger_b1.FnQueuePushPutsJobAfterEveryNoLaterOne': WHATEVER THE INPUT: true; the input reads as it did. -/
def fnQueuePushPutsJobAfterEveryNoLaterOneSpec : ChangeSpec := { name := "fnQueuePushPutsJobAfterEveryNoLaterOne", fn := fun _ => fun
  | [d1, d2, d3, d4] => { results := [.lit (.bool true)], args := [d1, d2, d3, d4] }
  | _ => none }
def fnQueuePushPutsJobAfterEveryNoLaterOneRow : OpenClaim := { program := "qxb6612366a", sum := "75c435282ce75491433a4f665a03d24cc29377c18e6ea6e366a4b9112dbaf414", func := "example.com/jobledger/jobledger/zzlaws_pkg_ledger_b1.FnQueuePushPutsJobAfterEveryNoLaterOne", spec := "fnQueuePushPutsJobAfterEveryNoLaterOne", inPlace := ["slices.overlaps[*example.com/jobledger/jobledger/pkg/ledger.Job]"], unfollowed := true, recurses := true, apart := false }
def FnQueuePushPutsJobAfterEveryNoLaterOneSaid : Prop := fnQueuePushPutsJobAfterEveryNoLaterOneRow.holds Try.pinned (OpenSpec.ofChange fnQueuePushPutsJobAfterEveryNoLaterOneSpec)

/-- ITS FALSE NEIGHBOUR: 'it returns false'. Refute it at one input. -/
def fnQueuePushPutsJobAfterEveryNoLaterOneWrong : ChangeSpec := { name := "fnQueuePushPutsJobAfterEveryNoLaterOne", fn := fun _ => fun
  | [d1, d2, d3, d4] => { results := [.lit (.bool false)], args := [d1, d2, d3, d4] }
  | _ => none }
def FnQueuePushPutsJobAfterEveryNoLaterOneWrongFalsely : Prop := fnQueuePushPutsJobAfterEveryNoLaterOneRow.holds Try.pinned (OpenSpec.ofChange fnQueuePushPutsJobAfterEveryNoLaterOneWrong)

/-- 'zzlaws_pkg_ledger_b1.FnQueuePushKeepsPendingJobsSortedStably': WHATEVER THE INPUT: true; the input reads as it did. -/
def fnQueuePushKeepsPendingJobsSortedStablySpec : ChangeSpec := { name := "fnQueuePushKeepsPendingJobsSortedStably", fn := fun _ => fun
  | [d] => { results := [.lit (.bool true)], args := [d] }
  | _ => none }
def fnQueuePushKeepsPendingJobsSortedStablyRow : OpenClaim := { program := "qxb6612366a", sum := "75c435282ce75491433a4f665a03d24cc29377c18e6ea6e366a4b9112dbaf414", func := "example.com/jobledger/jobledger/zzlaws_pkg_ledger_b1.FnQueuePushKeepsPendingJobsSortedStably", spec := "fnQueuePushKeepsPendingJobsSortedStably", inPlace := ["slices.overlaps[*example.com/jobledger/jobledger/pkg/ledger.Job]"], unfollowed := true, recurses := true, apart := false }
def FnQueuePushKeepsPendingJobsSortedStablySaid : Prop := fnQueuePushKeepsPendingJobsSortedStablyRow.holds Try.pinned (OpenSpec.ofChange fnQueuePushKeepsPendingJobsSortedStablySpec)

/-- ITS FALSE NEIGHBOUR: 'it returns false'. Refute it at one input. -/
def fnQueuePushKeepsPendingJobsSortedStablyWrong : ChangeSpec := { name := "fnQueuePushKeepsPendingJobsSortedStably", fn := fun _ => fun
  | [d] => { results := [.lit (.bool false)], args := [d] }
  | _ => none }
def FnQueuePushKeepsPendingJobsSortedStablyWrongFalsely : Prop := fnQueuePushKeepsPendingJobsSortedStablyRow.holds Try.pinned (OpenSpec.ofChange fnQueuePushKeepsPendingJobsSortedStablyWrong)

end Rows
end Go.Proofs.Qxb6612366a
