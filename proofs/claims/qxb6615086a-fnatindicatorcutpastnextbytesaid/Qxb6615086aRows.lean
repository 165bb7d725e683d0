/-
  No cell of these rows narrows 'for every input' (looked for: loops, veiled, ifaces, maps, wideKeys, modest, calm, conditions, laid).
  DERIVED. THE GIVEN ROWS OF THIS SEAT. 2 by the template 'for every input the law returns true; each argument reads behind the call as it read before'; 0 by the template 'total and deterministic' (their statements: Qxb6615086aTotals.lean).
  GIVEN WITH THE SEED: the statements are not yours to turn. If you find one false, say at which input.
  Laid BY PROGRAM, IN A SANDBOX (cutbox-rows.mjs): the forced cells as the released guide's own fill.sh prints them over the translation cc3f2698bf9531ac… (all of the seat's roots in one cut). By AI agents, Wed Nov 11 2026. No macro, syntax, notation, axiom, sorry.
-/
import Derived.Test.Qxb6615086aChecked
import GoSem.Claim
import GoSem.ClaimJoined
import GoSem.ClaimMapViews
import Derived.JoinedTies
import Derived.KernelRfl
namespace Go.Proofs.Qxb6615086a
/- THE CELL 'sum', in the pinned program and in every row, IS THE sha256 OF THE DUMP (.gsa) THAT Qxb6615086aProg.lean LOADS. Nothing in Lean hashes anything: it is a label: what it is worth is what the hold of that sum in a sandbox is worth. -/
noncomputable def Try.pinned : Pinned := { name := "qxb6615086a", sum := "cc3f2698bf9531ac82c343e67702ace785fb1168de16b716309ef62e69d1da49", checked := Try.checked }
namespace Rows
def none {H : Type} : Left H := { results := [], args := [] }

/-- 'zzlaws_root_b1.FnAtIndicatorCutPastNextByte': WHATEVER THE INPUT: true; the input reads as it did. -/
def fnAtIndicatorCutPastNextByteSpec : ChangeSpec := { name := "fnAtIndicatorCutPastNextByte", fn := fun _ => fun
  | [d1, d2, d3, d4] => { results := [.lit (.bool true)], args := [d1, d2, d3, d4] }
  | _ => none }
def fnAtIndicatorCutPastNextByteRow : OpenClaim := { program := "qxb6615086a", sum := "cc3f2698bf9531ac82c343e67702ace785fb1168de16b716309ef62e69d1da49", func := "example.com/values-over-layers/values-over-layers/zzlaws_root_b1.FnAtIndicatorCutPastNextByte", spec := "fnAtIndicatorCutPastNextByte", apart := false }
def FnAtIndicatorCutPastNextByteSaid : Prop := fnAtIndicatorCutPastNextByteRow.holds Try.pinned (OpenSpec.ofChange fnAtIndicatorCutPastNextByteSpec)

/-- ITS FALSE NEIGHBOUR: 'it returns false'. Refute it at one input. -/
def fnAtIndicatorCutPastNextByteWrong : ChangeSpec := { name := "fnAtIndicatorCutPastNextByte", fn := fun _ => fun
  | [d1, d2, d3, d4] => { results := [.lit (.bool false)], args := [d1, d2, d3, d4] }
  | _ => none }
def FnAtIndicatorCutPastNextByteWrongFalsely : Prop := fnAtIndicatorCutPastNextByteRow.holds Try.pinned (OpenSpec.ofChange fnAtIndicatorCutPastNextByteWrong)

/-- 'zzlaws_root_b1.FnAtIndicatorBlankAfterFindsTheOne': WHATEVER THE INPUT: true; the input reads as it did. -/
def fnAtIndicatorBlankAfterFindsTheOneSpec : ChangeSpec := { name := "fnAtIndicatorBlankAfterFindsTheOne", fn := fun _ => fun
  | [d1, d2, d3] => { results := [.lit (.bool true)], args := [d1, d2, d3] }
  | _ => none }
def fnAtIndicatorBlankAfterFindsTheOneRow : OpenClaim := { program := "qxb6615086a", sum := "cc3f2698bf9531ac82c343e67702ace785fb1168de16b716309ef62e69d1da49", func := "example.com/values-over-layers/values-over-layers/zzlaws_root_b1.FnAtIndicatorBlankAfterFindsTheOne", spec := "fnAtIndicatorBlankAfterFindsTheOne", apart := false }
def FnAtIndicatorBlankAfterFindsTheOneSaid : Prop := fnAtIndicatorBlankAfterFindsTheOneRow.holds Try.pinned (OpenSpec.ofChange fnAtIndicatorBlankAfterFindsTheOneSpec)

/-- ITS FALSE NEIGHBOUR: 'it returns false'. Refute it at one input. -/
def fnAtIndicatorBlankAfterFindsTheOneWrong : ChangeSpec := { name := "fnAtIndicatorBlankAfterFindsTheOne", fn := fun _ => fun
  | [d1, d2, d3] => { results := [.lit (.bool false)], args := [d1, d2, d3] }
  | _ => none }
def FnAtIndicatorBlankAfterFindsTheOneWrongFalsely : Prop := fnAtIndicatorBlankAfterFindsTheOneRow.holds Try.pinned (OpenSpec.ofChange fnAtIndicatorBlankAfterFindsTheOneWrong)

end Rows
end Go.Proofs.Qxb6615086a
