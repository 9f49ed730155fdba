/-
  DERIVED. GIVEN WITH THE SEED: THE CARDS: each row of Qxb6612352aFmtRows.lean that lists a variable, with what it lists TIED to the program's text (the seventh form; the later family's looks); each row that meets fmt, with fmt's text TOLD by the authors' own Lean function (tested against real Go, not proved from fmt's source: count such statements apart). THE CARD IS WHAT COUNTS. Prove the row's statement (the work); the ties are given (Qxb6612352aFmtTie.lean); close each card by the builder's one call (the guide's Derived/Test/ToyasCard.lean, 'card_holds'). Laid BY PROGRAM, IN A SANDBOX (cutbox-door.mjs). By AI agents, Wed Nov 11 2026. No macro, syntax, notation, axiom, sorry.
-/
import Derived.Test.Qxb6612352aFmtRows
import GoSem.ClaimSeven
namespace Go.Proofs.Qxb6612352aFmt
namespace Rows

/-- THE TOLD CARD OF 'zzlaws_plan_b1.FnDocumentErrorfIgnoresDocument'. -/
def fnDocumentErrorfIgnoresDocumentCard : Claim7 := { stood := { row := fnDocumentErrorfIgnoresDocumentRow, standIns := [], harness := (true, "1a76a71e7bfb250928ac5c3fb0ae9292983f32242d9807fb53f63fe6af6f1235"), looks := false }, told := true, goes := false }
def FnDocumentErrorfIgnoresDocumentToldSaid : Prop := Claim7.holds Tryf.pinned (.plain (OpenSpec.ofChange fnDocumentErrorfIgnoresDocumentSpec)) fnDocumentErrorfIgnoresDocumentCard
/-- ITS FALSE NEIGHBOUR. Refute it at one input. -/
def FnDocumentErrorfIgnoresDocumentToldWrongFalsely : Prop := Claim7.holds Tryf.pinned (.plain (OpenSpec.ofChange fnDocumentErrorfIgnoresDocumentWrong)) fnDocumentErrorfIgnoresDocumentCard
end Rows
end Go.Proofs.Qxb6612352aFmt
