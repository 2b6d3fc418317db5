/-
  No cell of these rows narrows 'for every input' (looked for: loops, veiled, ifaces, maps, wideKeys, modest, calm, conditions, laid).
  DERIVED. THE GIVEN ROWS OF THIS SEAT. 3 by the template 'for every input the law returns true; each argument reads behind the call as it read before'; 0 by the template 'total and deterministic' (their statements: Qxb6602891aTotals.lean).
  GIVEN WITH THE SEED: the statements are not yours to turn. If you find one false, say at which input.
  Laid BY PROGRAM, IN A SANDBOX (cutbox-rows.mjs): the forced cells as the released guide's own fill.sh prints them over the translation 3c8b1374cda27c58… (all of the seat's roots in one cut). By AI agents, Wed Nov 11 2026. No macro, syntax, notation, axiom, sorry.
-/
import Derived.Test.Qxb6602891aChecked
import GoSem.Claim
import GoSem.ClaimJoined
import GoSem.ClaimMapViews
import Derived.JoinedTies
import Derived.KernelRfl
namespace Go.Proofs.Qxb6602891a
/- THE CELL 'sum', in the pinned program and in every row, IS THE sha256 OF THE DUMP (.gsa) THAT Qxb6602891aProg.lean LOADS. Nothing in Lean hashes anything: it is a label: what it is worth is what the hold of that sum in a sandbox is worth. -/
noncomputable def Try.pinned : Pinned := { name := "qxb6602891a", sum := "3c8b1374cda27c58c17a33d1b0afe1899ef6eeb0577ea51f9c013de1d8ac0ce4", checked := Try.checked }
namespace Rows
def none {H : Type} : Left H := { results := [], args := [] }

/-- 'zzlaws_root_b1.FnLabelsMatchSurvivesAnExtraResourceLabel': WHATEVER THE INPUT: true; the input reads as it did. -/
def fnLabelsMatchSurvivesAnExtraResourceLabelSpec : ChangeSpec := { name := "fnLabelsMatchSurvivesAnExtraResourceLabel", fn := fun _ => fun
  | [d1, d2, d3, d4, d5, d6] => { results := [.lit (.bool true)], args := [d1, d2, d3, d4, d5, d6] }
  | _ => none }
def fnLabelsMatchSurvivesAnExtraResourceLabelRow : OpenClaim := { program := "qxb6602891a", sum := "3c8b1374cda27c58c17a33d1b0afe1899ef6eeb0577ea51f9c013de1d8ac0ce4", func := "example.com/kleis/kleis/zzlaws_root_b1.FnLabelsMatchSurvivesAnExtraResourceLabel", spec := "fnLabelsMatchSurvivesAnExtraResourceLabel", apart := false }
def FnLabelsMatchSurvivesAnExtraResourceLabelSaid : Prop := fnLabelsMatchSurvivesAnExtraResourceLabelRow.holds Try.pinned (OpenSpec.ofChange fnLabelsMatchSurvivesAnExtraResourceLabelSpec)

/-- ITS FALSE NEIGHBOUR: 'it returns false'. Refute it at one input. -/
def fnLabelsMatchSurvivesAnExtraResourceLabelWrong : ChangeSpec := { name := "fnLabelsMatchSurvivesAnExtraResourceLabel", fn := fun _ => fun
  | [d1, d2, d3, d4, d5, d6] => { results := [.lit (.bool false)], args := [d1, d2, d3, d4, d5, d6] }
  | _ => none }
def FnLabelsMatchSurvivesAnExtraResourceLabelWrongFalsely : Prop := fnLabelsMatchSurvivesAnExtraResourceLabelRow.holds Try.pinned (OpenSpec.ofChange fnLabelsMatchSurvivesAnExtraResourceLabelWrong)

/-- 'zzlaws_root_b1.FnLabelsMatchNarrowsWithAnExtraBlockKey': WHATEVER THE INPUT: true; the input reads as it did. -/
def fnLabelsMatchNarrowsWithAnExtraBlockKeySpec : ChangeSpec := { name := "fnLabelsMatchNarrowsWithAnExtraBlockKey", fn := fun _ => fun
  | [d1, d2, d3, d4, d5, d6] => { results := [.lit (.bool true)], args := [d1, d2, d3, d4, d5, d6] }
  | _ => none }
def fnLabelsMatchNarrowsWithAnExtraBlockKeyRow : OpenClaim := { program := "qxb6602891a", sum := "3c8b1374cda27c58c17a33d1b0afe1899ef6eeb0577ea51f9c013de1d8ac0ce4", func := "example.com/kleis/kleis/zzlaws_root_b1.FnLabelsMatchNarrowsWithAnExtraBlockKey", spec := "fnLabelsMatchNarrowsWithAnExtraBlockKey", apart := false }
def FnLabelsMatchNarrowsWithAnExtraBlockKeySaid : Prop := fnLabelsMatchNarrowsWithAnExtraBlockKeyRow.holds Try.pinned (OpenSpec.ofChange fnLabelsMatchNarrowsWithAnExtraBlockKeySpec)

/-- ITS FALSE NEIGHBOUR: 'it returns false'. Refute it at one input. -/
def fnLabelsMatchNarrowsWithAnExtraBlockKeyWrong : ChangeSpec := { name := "fnLabelsMatchNarrowsWithAnExtraBlockKey", fn := fun _ => fun
  | [d1, d2, d3, d4, d5, d6] => { results := [.lit (.bool false)], args := [d1, d2, d3, d4, d5, d6] }
  | _ => none }
def FnLabelsMatchNarrowsWithAnExtraBlockKeyWrongFalsely : Prop := fnLabelsMatchNarrowsWithAnExtraBlockKeyRow.holds Try.pinned (OpenSpec.ofChange fnLabelsMatchNarrowsWithAnExtraBlockKeyWrong)

/-- 'zzlaws_root_b1.FnRefFormsListsEachKindsPathInSchemaOrder': WHATEVER THE INPUT: true; the input reads as it did. -/
def fnRefFormsListsEachKindsPathInSchemaOrderSpec : ChangeSpec := { name := "fnRefFormsListsEachKindsPathInSchemaOrder", fn := fun _ => fun
  | [d1, d2] => { results := [.lit (.bool true)], args := [d1, d2] }
  | _ => none }
def fnRefFormsListsEachKindsPathInSchemaOrderRow : OpenClaim := { program := "qxb6602891a", sum := "3c8b1374cda27c58c17a33d1b0afe1899ef6eeb0577ea51f9c013de1d8ac0ce4", func := "example.com/kleis/kleis/zzlaws_root_b1.FnRefFormsListsEachKindsPathInSchemaOrder", spec := "fnRefFormsListsEachKindsPathInSchemaOrder", inPlace := ["internal/abi.NoEscape", "internal/bytealg.MakeNoZero"], recurses := true, apart := false }
def FnRefFormsListsEachKindsPathInSchemaOrderSaid : Prop := fnRefFormsListsEachKindsPathInSchemaOrderRow.holds Try.pinned (OpenSpec.ofChange fnRefFormsListsEachKindsPathInSchemaOrderSpec)

/-- ITS FALSE NEIGHBOUR: 'it returns false'. Refute it at one input. -/
def fnRefFormsListsEachKindsPathInSchemaOrderWrong : ChangeSpec := { name := "fnRefFormsListsEachKindsPathInSchemaOrder", fn := fun _ => fun
  | [d1, d2] => { results := [.lit (.bool false)], args := [d1, d2] }
  | _ => none }
def FnRefFormsListsEachKindsPathInSchemaOrderWrongFalsely : Prop := fnRefFormsListsEachKindsPathInSchemaOrderRow.holds Try.pinned (OpenSpec.ofChange fnRefFormsListsEachKindsPathInSchemaOrderWrong)

end Rows
end Go.Proofs.Qxb6602891a
