/-
  No cell of these rows narrows 'for every input' (looked for: loops, veiled, ifaces, maps, wideKeys, modest, calm, conditions, laid).
  DERIVED. THE GIVEN ROWS OF THIS SEAT. 3 by the template 'for every input the law returns true; each argument reads behind the call as it read before'; 0 by the template 'total and deterministic' (their statements: Qxb6602099aTotals.lean).
  GIVEN WITH THE SEED: the statements are not yours to turn. If you find one false, say at which input.
  Laid BY PROGRAM, IN A SANDBOX (cutbox-rows.mjs): the forced cells as the released guide's own fill.sh prints them over the translation 32d34f2bd5f18e19… (all of the seat's roots in one cut). By AI agents, Wed Nov 11 2026. No macro, syntax, notation, axiom, sorry.
-/
import Derived.Test.Qxb6602099aChecked
import GoSem.Claim
import GoSem.ClaimJoined
import GoSem.ClaimMapViews
import Derived.JoinedTies
import Derived.KernelRfl
namespace Go.Proofs.Qxb6602099a
/- THE CELL 'sum', in the pinned program and in every row, IS THE sha256 OF THE DUMP (.gsa) THAT Qxb6602099aProg.lean LOADS. Nothing in Lean hashes anything: it is a label: what it is worth is what the hold of that sum in a sandbox is worth. -/
noncomputable def Try.pinned : Pinned := { name := "qxb6602099a", sum := "32d34f2bd5f18e19b46b30c2e06f44dff806f1bf9439483b37193fd27e46e3fb", checked := Try.checked }
namespace Rows
def none {H : Type} : Left H := { results := [], args := [] }

/-- 'zzlaws_internal_porttest_b1.FnBlocksOutsideMatchesPerPortModel': WHATEVER THE INPUT: true; the input reads as it did. -/
def fnBlocksOutsideMatchesPerPortModelSpec : ChangeSpec := { name := "fnBlocksOutsideMatchesPerPortModel", fn := fun _ => fun
  | [d1, d2] => { results := [.lit (.bool true)], args := [d1, d2] }
  | _ => none }
def fnBlocksOutsideMatchesPerPortModelRow : OpenClaim := { program := "qxb6602099a", sum := "32d34f2bd5f18e19b46b30c2e06f44dff806f1bf9439483b37193fd27e46e3fb", func := "example.com/understudy/understudy/zzlaws_internal_porttest_b1.FnBlocksOutsideMatchesPerPortModel", spec := "fnBlocksOutsideMatchesPerPortModel", apart := false }
def FnBlocksOutsideMatchesPerPortModelSaid : Prop := fnBlocksOutsideMatchesPerPortModelRow.holds Try.pinned (OpenSpec.ofChange fnBlocksOutsideMatchesPerPortModelSpec)

/-- ITS FALSE NEIGHBOUR: 'it returns false'. Refute it at one input. -/
def fnBlocksOutsideMatchesPerPortModelWrong : ChangeSpec := { name := "fnBlocksOutsideMatchesPerPortModel", fn := fun _ => fun
  | [d1, d2] => { results := [.lit (.bool false)], args := [d1, d2] }
  | _ => none }
def FnBlocksOutsideMatchesPerPortModelWrongFalsely : Prop := fnBlocksOutsideMatchesPerPortModelRow.holds Try.pinned (OpenSpec.ofChange fnBlocksOutsideMatchesPerPortModelWrong)

/-- 'zzlaws_internal_porttest_b1.FnBlocksOutsideOrdinaryIntervalClosedForm': WHATEVER THE INPUT: true; the input reads as it did. -/
def fnBlocksOutsideOrdinaryIntervalClosedFormSpec : ChangeSpec := { name := "fnBlocksOutsideOrdinaryIntervalClosedForm", fn := fun _ => fun
  | [d1, d2] => { results := [.lit (.bool true)], args := [d1, d2] }
  | _ => none }
def fnBlocksOutsideOrdinaryIntervalClosedFormRow : OpenClaim := { program := "qxb6602099a", sum := "32d34f2bd5f18e19b46b30c2e06f44dff806f1bf9439483b37193fd27e46e3fb", func := "example.com/understudy/understudy/zzlaws_internal_porttest_b1.FnBlocksOutsideOrdinaryIntervalClosedForm", spec := "fnBlocksOutsideOrdinaryIntervalClosedForm", apart := false }
def FnBlocksOutsideOrdinaryIntervalClosedFormSaid : Prop := fnBlocksOutsideOrdinaryIntervalClosedFormRow.holds Try.pinned (OpenSpec.ofChange fnBlocksOutsideOrdinaryIntervalClosedFormSpec)

/-- ITS FALSE NEIGHBOUR: 'it returns false'. Refute it at one input. -/
def fnBlocksOutsideOrdinaryIntervalClosedFormWrong : ChangeSpec := { name := "fnBlocksOutsideOrdinaryIntervalClosedForm", fn := fun _ => fun
  | [d1, d2] => { results := [.lit (.bool false)], args := [d1, d2] }
  | _ => none }
def FnBlocksOutsideOrdinaryIntervalClosedFormWrongFalsely : Prop := fnBlocksOutsideOrdinaryIntervalClosedFormRow.holds Try.pinned (OpenSpec.ofChange fnBlocksOutsideOrdinaryIntervalClosedFormWrong)

/-- 'zzlaws_internal_porttest_b1.FnBlocksOutsideShrinksAsIntervalWidens': WHATEVER THE INPUT: true; the input reads as it did. -/
def fnBlocksOutsideShrinksAsIntervalWidensSpec : ChangeSpec := { name := "fnBlocksOutsideShrinksAsIntervalWidens", fn := fun _ => fun
  | [d1, d2, d3, d4] => { results := [.lit (.bool true)], args := [d1, d2, d3, d4] }
  | _ => none }
def fnBlocksOutsideShrinksAsIntervalWidensRow : OpenClaim := { program := "qxb6602099a", sum := "32d34f2bd5f18e19b46b30c2e06f44dff806f1bf9439483b37193fd27e46e3fb", func := "example.com/understudy/understudy/zzlaws_internal_porttest_b1.FnBlocksOutsideShrinksAsIntervalWidens", spec := "fnBlocksOutsideShrinksAsIntervalWidens", apart := false }
def FnBlocksOutsideShrinksAsIntervalWidensSaid : Prop := fnBlocksOutsideShrinksAsIntervalWidensRow.holds Try.pinned (OpenSpec.ofChange fnBlocksOutsideShrinksAsIntervalWidensSpec)

/-- ITS FALSE NEIGHBOUR: 'it returns false'. Refute it at one input. -/
def fnBlocksOutsideShrinksAsIntervalWidensWrong : ChangeSpec := { name := "fnBlocksOutsideShrinksAsIntervalWidens", fn := fun _ => fun
  | [d1, d2, d3, d4] => { results := [.lit (.bool false)], args := [d1, d2, d3, d4] }
  | _ => none }
def FnBlocksOutsideShrinksAsIntervalWidensWrongFalsely : Prop := fnBlocksOutsideShrinksAsIntervalWidensRow.holds Try.pinned (OpenSpec.ofChange fnBlocksOutsideShrinksAsIntervalWidensWrong)

end Rows
end Go.Proofs.Qxb6602099a
