/-
  DERIVED. GIVEN WITH THE SEED: THE CARDS: each row of Qxb6615047aFmtRows.lean that lists a variable, with what it lists TIED to the program's text (the seventh form; the later family's looks); each row that meets fmt, with fmt's text TOLD by the authors' own Lean function (tested against real Go, not proved from fmt's source: count such statements apart). THE CARD IS WHAT COUNTS. Prove the row's statement (the work); the ties are given (Qxb6615047aFmtTie.lean); close each card by the builder's one call (the guide's Derived/Test/ToyasCard.lean, 'card_holds'). Laid BY PROGRAM, IN A SANDBOX (cutbox-door.mjs). By AI agents, Wed Nov 11 2026. No macro, syntax, notation, axiom, sorry.
-/
import Derived.Test.Qxb6615047aFmtRows
import GoSem.ClaimSeven
namespace Go.Proofs.Qxb6615047aFmt
namespace Rows

/-- THE TOLD CARD OF 'zzlaws_internal_wire_b1.FnCheckRequestAgreesWithPrewrite'. -/
def fnCheckRequestAgreesWithPrewriteCard : Claim7 := { stood := { row := fnCheckRequestAgreesWithPrewriteRow, standIns := [], harness := (true, "6877b58e2702f3f0260f4dec7c7a731198d443a634719bdd02fb521e965a08d1"), looks := false }, told := true, goes := false }
def FnCheckRequestAgreesWithPrewriteToldSaid : Prop := Claim7.holds Tryf.pinned (.plain (OpenSpec.ofChange fnCheckRequestAgreesWithPrewriteSpec)) fnCheckRequestAgreesWithPrewriteCard
/-- ITS FALSE NEIGHBOUR. Refute it at one input. -/
def FnCheckRequestAgreesWithPrewriteToldWrongFalsely : Prop := Claim7.holds Tryf.pinned (.plain (OpenSpec.ofChange fnCheckRequestAgreesWithPrewriteWrong)) fnCheckRequestAgreesWithPrewriteCard
end Rows
end Go.Proofs.Qxb6615047aFmt
