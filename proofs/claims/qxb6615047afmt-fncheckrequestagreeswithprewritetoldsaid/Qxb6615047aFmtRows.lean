/-
  No cell of these rows narrows 'for every input' (looked for: loops, veiled, ifaces, maps, wideKeys, modest, calm, conditions, laid).
  DERIVED. THE GIVEN ROWS OF THIS SEAT. 1 by the template 'for every input the law returns true; each argument reads behind the call as it read before'; 0 by the template 'total and deterministic' (their statements: Qxb6615047aFmtTotals.lean).
  GIVEN WITH THE SEED: the statements are not yours to turn. If you find one false, say at which input.
  Laid BY PROGRAM, IN A SANDBOX (cutbox-rows.mjs): the forced cells as the released guide's own fill.sh prints them over the translation 87c8ab99c10363ff… (all of the seat's roots in one cut). By AI agents, Wed Nov 11 2026. No macro, syntax, notation, axiom, sorry.
-/
import Derived.Test.Qxb6615047aFmtChecked
import GoSem.Claim
import GoSem.ClaimJoined
import GoSem.ClaimMapViews
import Derived.JoinedTies
import Derived.KernelRfl
namespace Go.Proofs.Qxb6615047aFmt
/- THE CELL 'sum', in the pinned program and in every row, IS THE sha256 OF THE DUMP (.gsa) THAT Qxb6615047aFmtProg.lean LOADS. Nothing in Lean hashes anything: it is a label: what it is worth is what the hold of that sum in a sandbox is worth. -/
noncomputable def Tryf.pinned : Pinned := { name := "qxb6615047afmt", sum := "87c8ab99c10363ff37237c932c0f87c4371fcb5d272fa6050569261bf878b22a", checked := Tryf.checked }
namespace Rows
def none {H : Type} : Left H := { results := [], args := [] }

/-- 'zzlaws_internal_wire_b1.FnCheckRequestAgreesWithPrewrite': WHATEVER THE INPUT: true; the input reads as it did. -/
def fnCheckRequestAgreesWithPrewriteSpec : ChangeSpec := { name := "fnCheckRequestAgreesWithPrewrite", fn := fun _ => fun
  | [d1, d2] => { results := [.lit (.bool true)], args := [d1, d2] }
  | _ => none }
def fnCheckRequestAgreesWithPrewriteRow : OpenClaim := { program := "qxb6615047afmt", sum := "87c8ab99c10363ff37237c932c0f87c4371fcb5d272fa6050569261bf878b22a", func := "example.com/sandglass/sandglass/zzlaws_internal_wire_b1.FnCheckRequestAgreesWithPrewrite", spec := "fnCheckRequestAgreesWithPrewrite", stops := ["fmt.errorf"], inPlace := ["fmt.errorf"], apart := false }
/-- NO THEOREM (fmt's text is open here; it may be false): for the released tool's asking of the row's closed facts alone. THE STATEMENT IS 'FnCheckRequestAgreesWithPrewriteToldSaid' (Qxb6615047aFmtCards.lean). -/
def FnCheckRequestAgreesWithPrewriteFormAsk : Prop := fnCheckRequestAgreesWithPrewriteRow.holds Tryf.pinned (OpenSpec.ofChange fnCheckRequestAgreesWithPrewriteSpec)

/-- ITS FALSE NEIGHBOUR: 'it returns false'. Refute it at one input. -/
def fnCheckRequestAgreesWithPrewriteWrong : ChangeSpec := { name := "fnCheckRequestAgreesWithPrewrite", fn := fun _ => fun
  | [d1, d2] => { results := [.lit (.bool false)], args := [d1, d2] }
  | _ => none }
def FnCheckRequestAgreesWithPrewriteWrongFormAsk : Prop := fnCheckRequestAgreesWithPrewriteRow.holds Tryf.pinned (OpenSpec.ofChange fnCheckRequestAgreesWithPrewriteWrong)

end Rows
end Go.Proofs.Qxb6615047aFmt
