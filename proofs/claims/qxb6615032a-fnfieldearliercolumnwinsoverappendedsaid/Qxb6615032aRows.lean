/-
  No cell of these rows narrows 'for every input' (looked for: loops, veiled, ifaces, maps, wideKeys, modest, calm, conditions, laid).
  DERIVED. THE GIVEN ROWS OF THIS SEAT. 4 by the template 'for every input the law returns true; each argument reads behind the call as it read before'; 0 by the template 'total and deterministic' (their statements: Qxb6615032aTotals.lean).
  GIVEN WITH THE SEED: the statements are not yours to turn. If you find one false, say at which input.
  Laid BY PROGRAM, IN A SANDBOX (cutbox-rows.mjs): the forced cells as the released guide's own fill.sh prints them over the translation 684f50591b3ba6e9… (all of the seat's roots in one cut). By AI agents, Wed Nov 11 2026. No macro, syntax, notation, axiom, sorry.
-/
import Derived.Test.Qxb6615032aChecked
import GoSem.Claim
import GoSem.ClaimJoined
import GoSem.ClaimMapViews
import Derived.JoinedTies
import Derived.KernelRfl
namespace Go.Proofs.Qxb6615032a
/- THE CELL 'sum', in the pinned program and in every row, IS THE sha256 OF THE DUMP (.gsa) THAT Qxb6615032aProg.lean LOADS. Nothing in Lean hashes anything: it is a label: what it is worth is what the hold of that sum in a sandbox is worth. -/
noncomputable def Try.pinned : Pinned := { name := "qxb6615032a", sum := "684f50591b3ba6e9bd62450581bb53938f910e5af50ed5bf184da995f04a0fe6", checked := Try.checked }
namespace Rows
def none {H : Type} : Left H := { results := [], args := [] }

/-- 'zzlaws_pkg_records_b1.FnFieldEarlierColumnWinsOverAppended': WHATEVER THE INPUT: true; the input reads as it did. -/
def fnFieldEarlierColumnWinsOverAppendedSpec : ChangeSpec := { name := "fnFieldEarlierColumnWinsOverAppended", fn := fun _ => fun
  | [d1, d2, d3, d4, d5, d6, d7, d8, d9] => { results := [.lit (.bool true)], args := [d1, d2, d3, d4, d5, d6, d7, d8, d9] }
  | _ => none }
def fnFieldEarlierColumnWinsOverAppendedRow : OpenClaim := { program := "qxb6615032a", sum := "684f50591b3ba6e9bd62450581bb53938f910e5af50ed5bf184da995f04a0fe6", func := "example.com/vestwright/vestwright/zzlaws_pkg_records_b1.FnFieldEarlierColumnWinsOverAppended", spec := "fnFieldEarlierColumnWinsOverAppended", apart := false }
def FnFieldEarlierColumnWinsOverAppendedSaid : Prop := fnFieldEarlierColumnWinsOverAppendedRow.holds Try.pinned (OpenSpec.ofChange fnFieldEarlierColumnWinsOverAppendedSpec)

/-- ITS FALSE NEIGHBOUR: 'it returns false'. Refute it at one input. -/
def fnFieldEarlierColumnWinsOverAppendedWrong : ChangeSpec := { name := "fnFieldEarlierColumnWinsOverAppended", fn := fun _ => fun
  | [d1, d2, d3, d4, d5, d6, d7, d8, d9] => { results := [.lit (.bool false)], args := [d1, d2, d3, d4, d5, d6, d7, d8, d9] }
  | _ => none }
def FnFieldEarlierColumnWinsOverAppendedWrongFalsely : Prop := fnFieldEarlierColumnWinsOverAppendedRow.holds Try.pinned (OpenSpec.ofChange fnFieldEarlierColumnWinsOverAppendedWrong)

/-- 'zzlaws_pkg_records_b1.FnResetKeepsTheLastRecordsFields': WHATEVER THE INPUT: true; the input reads as it did. -/
def fnResetKeepsTheLastRecordsFieldsSpec : ChangeSpec := { name := "fnResetKeepsTheLastRecordsFields", fn := fun _ => fun
  | [d1, d2, d3] => { results := [.lit (.bool true)], args := [d1, d2, d3] }
  | _ => none }
def fnResetKeepsTheLastRecordsFieldsRow : OpenClaim := { program := "qxb6615032a", sum := "684f50591b3ba6e9bd62450581bb53938f910e5af50ed5bf184da995f04a0fe6", func := "example.com/vestwright/vestwright/zzlaws_pkg_records_b1.FnResetKeepsTheLastRecordsFields", spec := "fnResetKeepsTheLastRecordsFields", inPlace := ["internal/bytealg.IndexByte"], apart := false }
def FnResetKeepsTheLastRecordsFieldsSaid : Prop := fnResetKeepsTheLastRecordsFieldsRow.holds Try.pinned (OpenSpec.ofChange fnResetKeepsTheLastRecordsFieldsSpec)

/-- ITS FALSE NEIGHBOUR: 'it returns false'. Refute it at one input. -/
def fnResetKeepsTheLastRecordsFieldsWrong : ChangeSpec := { name := "fnResetKeepsTheLastRecordsFields", fn := fun _ => fun
  | [d1, d2, d3] => { results := [.lit (.bool false)], args := [d1, d2, d3] }
  | _ => none }
def FnResetKeepsTheLastRecordsFieldsWrongFalsely : Prop := fnResetKeepsTheLastRecordsFieldsRow.holds Try.pinned (OpenSpec.ofChange fnResetKeepsTheLastRecordsFieldsWrong)

/-- 'zzlaws_pkg_records_b1.FnSplitMatchesRecordGrammar': WHATEVER THE INPUT: true; the input reads as it did. -/
def fnSplitMatchesRecordGrammarSpec : ChangeSpec := { name := "fnSplitMatchesRecordGrammar", fn := fun _ => fun
  | [d1, d2] => { results := [.lit (.bool true)], args := [d1, d2] }
  | _ => none }
def fnSplitMatchesRecordGrammarRow : OpenClaim := { program := "qxb6615032a", sum := "684f50591b3ba6e9bd62450581bb53938f910e5af50ed5bf184da995f04a0fe6", func := "example.com/vestwright/vestwright/zzlaws_pkg_records_b1.FnSplitMatchesRecordGrammar", spec := "fnSplitMatchesRecordGrammar", inPlace := ["internal/bytealg.IndexByte"], apart := false }
def FnSplitMatchesRecordGrammarSaid : Prop := fnSplitMatchesRecordGrammarRow.holds Try.pinned (OpenSpec.ofChange fnSplitMatchesRecordGrammarSpec)

/-- ITS FALSE NEIGHBOUR: 'it returns false'. Refute it at one input. -/
def fnSplitMatchesRecordGrammarWrong : ChangeSpec := { name := "fnSplitMatchesRecordGrammar", fn := fun _ => fun
  | [d1, d2] => { results := [.lit (.bool false)], args := [d1, d2] }
  | _ => none }
def FnSplitMatchesRecordGrammarWrongFalsely : Prop := fnSplitMatchesRecordGrammarRow.holds Try.pinned (OpenSpec.ofChange fnSplitMatchesRecordGrammarWrong)

/-- 'zzlaws_pkg_records_b1.FnSplitJoinedWithQuoteFreeTail': WHATEVER THE INPUT: true; the input reads as it did. -/
def fnSplitJoinedWithQuoteFreeTailSpec : ChangeSpec := { name := "fnSplitJoinedWithQuoteFreeTail", fn := fun _ => fun
  | [d1, d2] => { results := [.lit (.bool true)], args := [d1, d2] }
  | _ => none }
def fnSplitJoinedWithQuoteFreeTailRow : OpenClaim := { program := "qxb6615032a", sum := "684f50591b3ba6e9bd62450581bb53938f910e5af50ed5bf184da995f04a0fe6", func := "example.com/vestwright/vestwright/zzlaws_pkg_records_b1.FnSplitJoinedWithQuoteFreeTail", spec := "fnSplitJoinedWithQuoteFreeTail", inPlace := ["internal/bytealg.IndexByte"], apart := false }
def FnSplitJoinedWithQuoteFreeTailSaid : Prop := fnSplitJoinedWithQuoteFreeTailRow.holds Try.pinned (OpenSpec.ofChange fnSplitJoinedWithQuoteFreeTailSpec)

/-- ITS FALSE NEIGHBOUR: 'it returns false'. Refute it at one input. -/
def fnSplitJoinedWithQuoteFreeTailWrong : ChangeSpec := { name := "fnSplitJoinedWithQuoteFreeTail", fn := fun _ => fun
  | [d1, d2] => { results := [.lit (.bool false)], args := [d1, d2] }
  | _ => none }
def FnSplitJoinedWithQuoteFreeTailWrongFalsely : Prop := fnSplitJoinedWithQuoteFreeTailRow.holds Try.pinned (OpenSpec.ofChange fnSplitJoinedWithQuoteFreeTailWrong)

end Rows
end Go.Proofs.Qxb6615032a
