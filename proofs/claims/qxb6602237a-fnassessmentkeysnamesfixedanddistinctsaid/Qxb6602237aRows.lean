/-
  No cell of these rows narrows 'for every input' (looked for: loops, veiled, ifaces, maps, wideKeys, modest, calm, conditions, laid).
  DERIVED. THE GIVEN ROWS OF THIS SEAT. 2 by the template 'for every input the law returns true; each argument reads behind the call as it read before'; 0 by the template 'total and deterministic' (their statements: Qxb6602237aTotals.lean).
  GIVEN WITH THE SEED: the statements are not yours to turn. If you find one false, say at which input.
  Laid BY PROGRAM, IN A SANDBOX (cutbox-rows.mjs): the forced cells as the released guide's own fill.sh prints them over the translation 4a67de55e7c044f6… (all of the seat's roots in one cut). By AI agents, Wed Nov 11 2026. No macro, syntax, notation, axiom, sorry.
-/
import Derived.Test.Qxb6602237aChecked
import GoSem.Claim
import GoSem.ClaimJoined
import GoSem.ClaimMapViews
import Derived.JoinedTies
import Derived.KernelRfl
namespace Go.Proofs.Qxb6602237a
/- THE CELL 'sum', in the pinned program and in every row, IS THE sha256 OF THE DUMP (.gsa) THAT Qxb6602237aProg.lean LOADS. Nothing in Lean hashes anything: it is a label: what it is worth is what the hold of that sum in a sandbox is worth. -/
noncomputable def Try.pinned : Pinned := { name := "qxb6602237a", sum := "4a67de55e7c044f613592f4eaf720fe4cee4073278c5aebcd70615768615c12d", checked := Try.checked }
namespace Rows
def none {H : Type} : Left H := { results := [], args := [] }

/-- 'zzlaws_plan_b1.FnAssessmentKeysNamesFixedAndDistinct': WHATEVER THE INPUT: true; the input reads as it did. -/
def fnAssessmentKeysNamesFixedAndDistinctSpec : ChangeSpec := { name := "fnAssessmentKeysNamesFixedAndDistinct", fn := fun _ => fun
  | [d1, d2, d3, d4, d5, d6, d7, d8, d9, d10] => { results := [.lit (.bool true)], args := [d1, d2, d3, d4, d5, d6, d7, d8, d9, d10] }
  | _ => none }
def fnAssessmentKeysNamesFixedAndDistinctRow : OpenClaim := { program := "qxb6602237a", sum := "4a67de55e7c044f613592f4eaf720fe4cee4073278c5aebcd70615768615c12d", func := "example.com/vestline/vestline/zzlaws_plan_b1.FnAssessmentKeysNamesFixedAndDistinct", spec := "fnAssessmentKeysNamesFixedAndDistinct", apart := false }
def FnAssessmentKeysNamesFixedAndDistinctSaid : Prop := fnAssessmentKeysNamesFixedAndDistinctRow.holds Try.pinned (OpenSpec.ofChange fnAssessmentKeysNamesFixedAndDistinctSpec)

/-- ITS FALSE NEIGHBOUR: 'it returns false'. Refute it at one input. -/
def fnAssessmentKeysNamesFixedAndDistinctWrong : ChangeSpec := { name := "fnAssessmentKeysNamesFixedAndDistinct", fn := fun _ => fun
  | [d1, d2, d3, d4, d5, d6, d7, d8, d9, d10] => { results := [.lit (.bool false)], args := [d1, d2, d3, d4, d5, d6, d7, d8, d9, d10] }
  | _ => none }
def FnAssessmentKeysNamesFixedAndDistinctWrongFalsely : Prop := fnAssessmentKeysNamesFixedAndDistinctRow.holds Try.pinned (OpenSpec.ofChange fnAssessmentKeysNamesFixedAndDistinctWrong)

/-- 'zzlaws_plan_b1.FnAssessmentKeysIgnoresShapeFields': WHATEVER THE INPUT: true; the input reads as it did. -/
def fnAssessmentKeysIgnoresShapeFieldsSpec : ChangeSpec := { name := "fnAssessmentKeysIgnoresShapeFields", fn := fun _ => fun
  | [d1, d2, d3, d4, d5, d6, d7, d8, d9, d10] => { results := [.lit (.bool true)], args := [d1, d2, d3, d4, d5, d6, d7, d8, d9, d10] }
  | _ => none }
def fnAssessmentKeysIgnoresShapeFieldsRow : OpenClaim := { program := "qxb6602237a", sum := "4a67de55e7c044f613592f4eaf720fe4cee4073278c5aebcd70615768615c12d", func := "example.com/vestline/vestline/zzlaws_plan_b1.FnAssessmentKeysIgnoresShapeFields", spec := "fnAssessmentKeysIgnoresShapeFields", apart := false }
def FnAssessmentKeysIgnoresShapeFieldsSaid : Prop := fnAssessmentKeysIgnoresShapeFieldsRow.holds Try.pinned (OpenSpec.ofChange fnAssessmentKeysIgnoresShapeFieldsSpec)

/-- ITS FALSE NEIGHBOUR: 'it returns false'. Refute it at one input. -/
def fnAssessmentKeysIgnoresShapeFieldsWrong : ChangeSpec := { name := "fnAssessmentKeysIgnoresShapeFields", fn := fun _ => fun
  | [d1, d2, d3, d4, d5, d6, d7, d8, d9, d10] => { results := [.lit (.bool false)], args := [d1, d2, d3, d4, d5, d6, d7, d8, d9, d10] }
  | _ => none }
def FnAssessmentKeysIgnoresShapeFieldsWrongFalsely : Prop := fnAssessmentKeysIgnoresShapeFieldsRow.holds Try.pinned (OpenSpec.ofChange fnAssessmentKeysIgnoresShapeFieldsWrong)

end Rows
end Go.Proofs.Qxb6602237a
