/-
  No cell of these rows narrows 'for every input' (looked for: loops, veiled, ifaces, maps, wideKeys, modest, calm, conditions, laid).
  DERIVED. THE GIVEN ROWS OF THIS SEAT. 3 by the template 'for every input the law returns true; each argument reads behind the call as it read before'; 0 by the template 'total and deterministic' (their statements: Qxb6612721aTotals.lean).
  GIVEN WITH THE SEED: the statements are not yours to turn. If you find one false, say at which input.
  Laid BY PROGRAM, IN A SANDBOX (cutbox-rows.mjs): the forced cells as the released guide's own fill.sh prints them over the translation e55a6453673c987a… (all of the seat's roots in one cut). By AI agents, Wed Nov 11 2026. No macro, syntax, notation, axiom, sorry.
-/
import Derived.Test.Qxb6612721aChecked
import GoSem.Claim
import GoSem.ClaimJoined
import GoSem.ClaimMapViews
import Derived.JoinedTies
import Derived.KernelRfl
namespace Go.Proofs.Qxb6612721a
/- THE CELL 'sum', in the pinned program and in every row, IS THE sha256 OF THE DUMP (.gsa) THAT Qxb6612721aProg.lean LOADS. Nothing in Lean hashes anything: it is a label: what it is worth is what the hold of that sum in a sandbox is worth. -/
noncomputable def Try.pinned : Pinned := { name := "qxb6612721a", sum := "e55a6453673c987a318afefa513d3f4e39f5b83402761347aa79844d3dd33479", checked := Try.checked }
namespace Rows
def none {H : Type} : Left H := { results := [], args := [] }

/-- 'zzlaws_internal_types_b1.FnSkipWhileLettersCut': WHATEVER THE INPUT: true; the input reads as it did. -/
def fnSkipWhileLettersCutSpec : ChangeSpec := { name := "fnSkipWhileLettersCut", fn := fun _ => fun
  | [d1, d2, d3] => { results := [.lit (.bool true)], args := [d1, d2, d3] }
  | _ => none }
def fnSkipWhileLettersCutRow : OpenClaim := { program := "qxb6612721a", sum := "e55a6453673c987a318afefa513d3f4e39f5b83402761347aa79844d3dd33479", func := "example.com/archipel/archipel/zzlaws_internal_types_b1.FnSkipWhileLettersCut", spec := "fnSkipWhileLettersCut", unfollowed := true, recurses := true, apart := false }
def FnSkipWhileLettersCutSaid : Prop := fnSkipWhileLettersCutRow.holds Try.pinned (OpenSpec.ofChange fnSkipWhileLettersCutSpec)

/-- ITS FALSE NEIGHBOUR: 'it returns false'. Refute it at one input. -/
def fnSkipWhileLettersCutWrong : ChangeSpec := { name := "fnSkipWhileLettersCut", fn := fun _ => fun
  | [d1, d2, d3] => { results := [.lit (.bool false)], args := [d1, d2, d3] }
  | _ => none }
def FnSkipWhileLettersCutWrongFalsely : Prop := fnSkipWhileLettersCutRow.holds Try.pinned (OpenSpec.ofChange fnSkipWhileLettersCutWrong)

/-- 'zzlaws_internal_types_b1.FnSkipWhileDigitsJoin': WHATEVER THE INPUT: true; the input reads as it did. -/
def fnSkipWhileDigitsJoinSpec : ChangeSpec := { name := "fnSkipWhileDigitsJoin", fn := fun _ => fun
  | [d1, d2, d3] => { results := [.lit (.bool true)], args := [d1, d2, d3] }
  | _ => none }
def fnSkipWhileDigitsJoinRow : OpenClaim := { program := "qxb6612721a", sum := "e55a6453673c987a318afefa513d3f4e39f5b83402761347aa79844d3dd33479", func := "example.com/archipel/archipel/zzlaws_internal_types_b1.FnSkipWhileDigitsJoin", spec := "fnSkipWhileDigitsJoin", unfollowed := true, recurses := true, apart := false }
def FnSkipWhileDigitsJoinSaid : Prop := fnSkipWhileDigitsJoinRow.holds Try.pinned (OpenSpec.ofChange fnSkipWhileDigitsJoinSpec)

/-- ITS FALSE NEIGHBOUR: 'it returns false'. Refute it at one input. -/
def fnSkipWhileDigitsJoinWrong : ChangeSpec := { name := "fnSkipWhileDigitsJoin", fn := fun _ => fun
  | [d1, d2, d3] => { results := [.lit (.bool false)], args := [d1, d2, d3] }
  | _ => none }
def FnSkipWhileDigitsJoinWrongFalsely : Prop := fnSkipWhileDigitsJoinRow.holds Try.pinned (OpenSpec.ofChange fnSkipWhileDigitsJoinWrong)

/-- 'zzlaws_internal_types_b1.FnIsLetterCaseBlindAndExact': WHATEVER THE INPUT: true; the input reads as it did. -/
def fnIsLetterCaseBlindAndExactSpec : ChangeSpec := { name := "fnIsLetterCaseBlindAndExact", fn := fun _ => fun
  | [d] => { results := [.lit (.bool true)], args := [d] }
  | _ => none }
def fnIsLetterCaseBlindAndExactRow : OpenClaim := { program := "qxb6612721a", sum := "e55a6453673c987a318afefa513d3f4e39f5b83402761347aa79844d3dd33479", func := "example.com/archipel/archipel/zzlaws_internal_types_b1.FnIsLetterCaseBlindAndExact", spec := "fnIsLetterCaseBlindAndExact", apart := false }
def FnIsLetterCaseBlindAndExactSaid : Prop := fnIsLetterCaseBlindAndExactRow.holds Try.pinned (OpenSpec.ofChange fnIsLetterCaseBlindAndExactSpec)

/-- ITS FALSE NEIGHBOUR: 'it returns false'. Refute it at one input. -/
def fnIsLetterCaseBlindAndExactWrong : ChangeSpec := { name := "fnIsLetterCaseBlindAndExact", fn := fun _ => fun
  | [d] => { results := [.lit (.bool false)], args := [d] }
  | _ => none }
def FnIsLetterCaseBlindAndExactWrongFalsely : Prop := fnIsLetterCaseBlindAndExactRow.holds Try.pinned (OpenSpec.ofChange fnIsLetterCaseBlindAndExactWrong)

end Rows
end Go.Proofs.Qxb6612721a
