/-
  No cell of these rows narrows 'for every input' (looked for: loops, veiled, ifaces, maps, wideKeys, modest, calm, conditions, laid).
  DERIVED. THE GIVEN ROWS OF THIS SEAT. 7 by the template 'for every input the law returns true; each argument reads behind the call as it read before'; 0 by the template 'total and deterministic' (their statements: Qxb6603932aTotals.lean).
  GIVEN WITH THE SEED: the statements are not yours to turn. If you find one false, say at which input.
  Laid BY PROGRAM, IN A SANDBOX (cutbox-rows.mjs): the forced cells as the released guide's own fill.sh prints them over the translation 0aff9ff68e3b0f83… (all of the seat's roots in one cut). By AI agents, Wed Nov 11 2026. No macro, syntax, notation, axiom, sorry.
-/
import Derived.Test.Qxb6603932aChecked
import GoSem.Claim
import GoSem.ClaimJoined
import GoSem.ClaimMapViews
import Derived.JoinedTies
import Derived.KernelRfl
namespace Go.Proofs.Qxb6603932a
/- THE CELL 'sum', in the pinned program and in every row, IS THE sha256 OF THE DUMP (.gsa) THAT Qxb6603932aProg.lean LOADS. Nothing in Lean hashes anything: it is a label: what it is worth is what the hold of that sum in a sandbox is worth. -/
noncomputable def Try.pinned : Pinned := { name := "qxb6603932a", sum := "0aff9ff68e3b0f8338f267c8aed97f730f3e96631804a142ac52847cf48f2e35", checked := Try.checked }
namespace Rows
def none {H : Type} : Left H := { results := [], args := [] }

/-- 'zzlaws_internal_message_b1.FnScanQuotedInvertsQuoting': WHATEVER THE INPUT: true; the input reads as it did. -/
def fnScanQuotedInvertsQuotingSpec : ChangeSpec := { name := "fnScanQuotedInvertsQuoting", fn := fun _ => fun
  | [d1, d2] => { results := [.lit (.bool true)], args := [d1, d2] }
  | _ => none }
def fnScanQuotedInvertsQuotingRow : OpenClaim := { program := "qxb6603932a", sum := "0aff9ff68e3b0f8338f267c8aed97f730f3e96631804a142ac52847cf48f2e35", func := "example.com/threadwell/threadwell/zzlaws_internal_message_b1.FnScanQuotedInvertsQuoting", spec := "fnScanQuotedInvertsQuoting", inPlace := ["internal/abi.NoEscape"], apart := false }
def FnScanQuotedInvertsQuotingSaid : Prop := fnScanQuotedInvertsQuotingRow.holds Try.pinned (OpenSpec.ofChange fnScanQuotedInvertsQuotingSpec)

/-- ITS FALSE NEIGHBOUR: 'it returns false'. Refute it at one input. -/
def fnScanQuotedInvertsQuotingWrong : ChangeSpec := { name := "fnScanQuotedInvertsQuoting", fn := fun _ => fun
  | [d1, d2] => { results := [.lit (.bool false)], args := [d1, d2] }
  | _ => none }
def FnScanQuotedInvertsQuotingWrongFalsely : Prop := fnScanQuotedInvertsQuotingRow.holds Try.pinned (OpenSpec.ofChange fnScanQuotedInvertsQuotingWrong)

/-- 'zzlaws_internal_message_b1.FnScanCommentAgreesWithScanQuotedOffDelimiters': WHATEVER THE INPUT: true; the input reads as it did. -/
def fnScanCommentAgreesWithScanQuotedOffDelimitersSpec : ChangeSpec := { name := "fnScanCommentAgreesWithScanQuotedOffDelimiters", fn := fun _ => fun
  | [d] => { results := [.lit (.bool true)], args := [d] }
  | _ => none }
def fnScanCommentAgreesWithScanQuotedOffDelimitersRow : OpenClaim := { program := "qxb6603932a", sum := "0aff9ff68e3b0f8338f267c8aed97f730f3e96631804a142ac52847cf48f2e35", func := "example.com/threadwell/threadwell/zzlaws_internal_message_b1.FnScanCommentAgreesWithScanQuotedOffDelimiters", spec := "fnScanCommentAgreesWithScanQuotedOffDelimiters", inPlace := ["internal/abi.NoEscape"], apart := false }
def FnScanCommentAgreesWithScanQuotedOffDelimitersSaid : Prop := fnScanCommentAgreesWithScanQuotedOffDelimitersRow.holds Try.pinned (OpenSpec.ofChange fnScanCommentAgreesWithScanQuotedOffDelimitersSpec)

/-- ITS FALSE NEIGHBOUR: 'it returns false'. Refute it at one input. -/
def fnScanCommentAgreesWithScanQuotedOffDelimitersWrong : ChangeSpec := { name := "fnScanCommentAgreesWithScanQuotedOffDelimiters", fn := fun _ => fun
  | [d] => { results := [.lit (.bool false)], args := [d] }
  | _ => none }
def FnScanCommentAgreesWithScanQuotedOffDelimitersWrongFalsely : Prop := fnScanCommentAgreesWithScanQuotedOffDelimitersRow.holds Try.pinned (OpenSpec.ofChange fnScanCommentAgreesWithScanQuotedOffDelimitersWrong)

/-- 'zzlaws_internal_message_b1.FnScanCommentFirstItemTable': WHATEVER THE INPUT: true; the input reads as it did. -/
def fnScanCommentFirstItemTableSpec : ChangeSpec := { name := "fnScanCommentFirstItemTable", fn := fun _ => fun
  | [d] => { results := [.lit (.bool true)], args := [d] }
  | _ => none }
def fnScanCommentFirstItemTableRow : OpenClaim := { program := "qxb6603932a", sum := "0aff9ff68e3b0f8338f267c8aed97f730f3e96631804a142ac52847cf48f2e35", func := "example.com/threadwell/threadwell/zzlaws_internal_message_b1.FnScanCommentFirstItemTable", spec := "fnScanCommentFirstItemTable", inPlace := ["internal/abi.NoEscape"], apart := false }
def FnScanCommentFirstItemTableSaid : Prop := fnScanCommentFirstItemTableRow.holds Try.pinned (OpenSpec.ofChange fnScanCommentFirstItemTableSpec)

/-- ITS FALSE NEIGHBOUR: 'it returns false'. Refute it at one input. -/
def fnScanCommentFirstItemTableWrong : ChangeSpec := { name := "fnScanCommentFirstItemTable", fn := fun _ => fun
  | [d] => { results := [.lit (.bool false)], args := [d] }
  | _ => none }
def FnScanCommentFirstItemTableWrongFalsely : Prop := fnScanCommentFirstItemTableRow.holds Try.pinned (OpenSpec.ofChange fnScanCommentFirstItemTableWrong)

/-- 'zzlaws_internal_message_b1.FnScanCommentInvertsEscaping': WHATEVER THE INPUT: true; the input reads as it did. -/
def fnScanCommentInvertsEscapingSpec : ChangeSpec := { name := "fnScanCommentInvertsEscaping", fn := fun _ => fun
  | [d1, d2] => { results := [.lit (.bool true)], args := [d1, d2] }
  | _ => none }
def fnScanCommentInvertsEscapingRow : OpenClaim := { program := "qxb6603932a", sum := "0aff9ff68e3b0f8338f267c8aed97f730f3e96631804a142ac52847cf48f2e35", func := "example.com/threadwell/threadwell/zzlaws_internal_message_b1.FnScanCommentInvertsEscaping", spec := "fnScanCommentInvertsEscaping", inPlace := ["internal/abi.NoEscape"], apart := false }
def FnScanCommentInvertsEscapingSaid : Prop := fnScanCommentInvertsEscapingRow.holds Try.pinned (OpenSpec.ofChange fnScanCommentInvertsEscapingSpec)

/-- ITS FALSE NEIGHBOUR: 'it returns false'. Refute it at one input. -/
def fnScanCommentInvertsEscapingWrong : ChangeSpec := { name := "fnScanCommentInvertsEscaping", fn := fun _ => fun
  | [d1, d2] => { results := [.lit (.bool false)], args := [d1, d2] }
  | _ => none }
def FnScanCommentInvertsEscapingWrongFalsely : Prop := fnScanCommentInvertsEscapingRow.holds Try.pinned (OpenSpec.ofChange fnScanCommentInvertsEscapingWrong)

/-- 'zzlaws_internal_message_b1.FnScanCommentKeepsBalancedText': WHATEVER THE INPUT: true; the input reads as it did. -/
def fnScanCommentKeepsBalancedTextSpec : ChangeSpec := { name := "fnScanCommentKeepsBalancedText", fn := fun _ => fun
  | [d1, d2] => { results := [.lit (.bool true)], args := [d1, d2] }
  | _ => none }
def fnScanCommentKeepsBalancedTextRow : OpenClaim := { program := "qxb6603932a", sum := "0aff9ff68e3b0f8338f267c8aed97f730f3e96631804a142ac52847cf48f2e35", func := "example.com/threadwell/threadwell/zzlaws_internal_message_b1.FnScanCommentKeepsBalancedText", spec := "fnScanCommentKeepsBalancedText", inPlace := ["internal/abi.NoEscape"], apart := false }
def FnScanCommentKeepsBalancedTextSaid : Prop := fnScanCommentKeepsBalancedTextRow.holds Try.pinned (OpenSpec.ofChange fnScanCommentKeepsBalancedTextSpec)

/-- ITS FALSE NEIGHBOUR: 'it returns false'. Refute it at one input. -/
def fnScanCommentKeepsBalancedTextWrong : ChangeSpec := { name := "fnScanCommentKeepsBalancedText", fn := fun _ => fun
  | [d1, d2] => { results := [.lit (.bool false)], args := [d1, d2] }
  | _ => none }
def FnScanCommentKeepsBalancedTextWrongFalsely : Prop := fnScanCommentKeepsBalancedTextRow.holds Try.pinned (OpenSpec.ofChange fnScanCommentKeepsBalancedTextWrong)

/-- 'zzlaws_internal_message_b1.FnAlternativeShownCaseTable': WHATEVER THE INPUT: true; the input reads as it did. -/
def fnAlternativeShownCaseTableSpec : ChangeSpec := { name := "fnAlternativeShownCaseTable", fn := fun _ => fun
  | [d] => { results := [.lit (.bool true)], args := [d] }
  | _ => none }
def fnAlternativeShownCaseTableRow : OpenClaim := { program := "qxb6603932a", sum := "0aff9ff68e3b0f8338f267c8aed97f730f3e96631804a142ac52847cf48f2e35", func := "example.com/threadwell/threadwell/zzlaws_internal_message_b1.FnAlternativeShownCaseTable", spec := "fnAlternativeShownCaseTable", apart := false }
def FnAlternativeShownCaseTableSaid : Prop := fnAlternativeShownCaseTableRow.holds Try.pinned (OpenSpec.ofChange fnAlternativeShownCaseTableSpec)

/-- ITS FALSE NEIGHBOUR: 'it returns false'. Refute it at one input. -/
def fnAlternativeShownCaseTableWrong : ChangeSpec := { name := "fnAlternativeShownCaseTable", fn := fun _ => fun
  | [d] => { results := [.lit (.bool false)], args := [d] }
  | _ => none }
def FnAlternativeShownCaseTableWrongFalsely : Prop := fnAlternativeShownCaseTableRow.holds Try.pinned (OpenSpec.ofChange fnAlternativeShownCaseTableWrong)

/-- 'zzlaws_internal_message_b1.FnAlternativeShownOfConcatenation': WHATEVER THE INPUT: true; the input reads as it did. -/
def fnAlternativeShownOfConcatenationSpec : ChangeSpec := { name := "fnAlternativeShownOfConcatenation", fn := fun _ => fun
  | [d1, d2] => { results := [.lit (.bool true)], args := [d1, d2] }
  | _ => none }
def fnAlternativeShownOfConcatenationRow : OpenClaim := { program := "qxb6603932a", sum := "0aff9ff68e3b0f8338f267c8aed97f730f3e96631804a142ac52847cf48f2e35", func := "example.com/threadwell/threadwell/zzlaws_internal_message_b1.FnAlternativeShownOfConcatenation", spec := "fnAlternativeShownOfConcatenation", apart := false }
def FnAlternativeShownOfConcatenationSaid : Prop := fnAlternativeShownOfConcatenationRow.holds Try.pinned (OpenSpec.ofChange fnAlternativeShownOfConcatenationSpec)

/-- ITS FALSE NEIGHBOUR: 'it returns false'. Refute it at one input. -/
def fnAlternativeShownOfConcatenationWrong : ChangeSpec := { name := "fnAlternativeShownOfConcatenation", fn := fun _ => fun
  | [d1, d2] => { results := [.lit (.bool false)], args := [d1, d2] }
  | _ => none }
def FnAlternativeShownOfConcatenationWrongFalsely : Prop := fnAlternativeShownOfConcatenationRow.holds Try.pinned (OpenSpec.ofChange fnAlternativeShownOfConcatenationWrong)

end Rows
end Go.Proofs.Qxb6603932a
