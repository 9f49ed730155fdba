/-
  No cell of these rows narrows 'for every input' (looked for: loops, veiled, ifaces, maps, wideKeys, modest, calm, conditions, laid).
  DERIVED. THE GIVEN ROWS OF THIS SEAT. 1 by the template 'for every input the law returns true; each argument reads behind the call as it read before'; 0 by the template 'total and deterministic' (their statements: Qxb6612352aFmtTotals.lean).
  GIVEN WITH THE SEED: the statements are not yours to turn. If you find one false, say at which input.
  Laid BY PROGRAM, IN A SANDBOX (cutbox-rows.mjs): the forced cells as the released guide's own fill.sh prints them over the translation 5b6b656668887aff… (all of the seat's roots in one cut). By AI agents, Wed Nov 11 2026. No macro, syntax, notation, axiom, sorry.
-/
import Derived.Test.Qxb6612352aFmtChecked
import GoSem.Claim
import GoSem.ClaimJoined
import GoSem.ClaimMapViews
import Derived.JoinedTies
import Derived.KernelRfl
namespace Go.Proofs.Qxb6612352aFmt
/- THE CELL 'sum', in the pinned program and in every row, IS THE sha256 OF THE DUMP (.gsa) THAT Qxb6612352aFmtProg.lean LOADS. Nothing in Lean hashes anything: it is a label: what it is worth is what the hold of that sum in a sandbox is worth. -/
noncomputable def Tryf.pinned : Pinned := { name := "qxb6612352afmt", sum := "5b6b656668887affadeae713a67b970f5105fafb4592e80e075d26e0b15b585f", checked := Tryf.checked }
namespace Rows
def none {H : Type} : Left H := { results := [], args := [] }

/-- 'zzlaws_plan_b1.FnDocumentErrorfIgnoresDocument': WHATEVER THE INPUT: true; the input reads as it did. -/
def fnDocumentErrorfIgnoresDocumentSpec : ChangeSpec := { name := "fnDocumentErrorfIgnoresDocument", fn := fun _ => fun
  | [d1, d2, d3, d4] => { results := [.lit (.bool true)], args := [d1, d2, d3, d4] }
  | _ => none }
def fnDocumentErrorfIgnoresDocumentRow : OpenClaim := { program := "qxb6612352afmt", sum := "5b6b656668887affadeae713a67b970f5105fafb4592e80e075d26e0b15b585f", func := "example.com/vestwright/vestwright/zzlaws_plan_b1.FnDocumentErrorfIgnoresDocument", spec := "fnDocumentErrorfIgnoresDocument", stops := ["fmt.Sprintf, its operands' methods called"], inPlace := ["fmt.Sprintf"], unfollowed := true, recurses := true, apart := false }
/-- NO THEOREM (fmt's text is open here; it may be false): for the released tool's asking of the row's closed facts alone. THE STATEMENT IS 'FnDocumentErrorfIgnoresDocumentToldSaid' (Qxb6612352aFmtCards.lean). -/
def FnDocumentErrorfIgnoresDocumentFormAsk : Prop := fnDocumentErrorfIgnoresDocumentRow.holds Tryf.pinned (OpenSpec.ofChange fnDocumentErrorfIgnoresDocumentSpec)

/-- ITS FALSE NEIGHBOUR: 'it returns false'. Refute it at one input. -/
def fnDocumentErrorfIgnoresDocumentWrong : ChangeSpec := { name := "fnDocumentErrorfIgnoresDocument", fn := fun _ => fun
  | [d1, d2, d3, d4] => { results := [.lit (.bool false)], args := [d1, d2, d3, d4] }
  | _ => none }
def FnDocumentErrorfIgnoresDocumentWrongFormAsk : Prop := fnDocumentErrorfIgnoresDocumentRow.holds Tryf.pinned (OpenSpec.ofChange fnDocumentErrorfIgnoresDocumentWrong)

end Rows
end Go.Proofs.Qxb6612352aFmt
