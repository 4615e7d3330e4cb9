/-
  No cell of these rows narrows 'for every input' (looked for: loops, veiled, ifaces, maps, wideKeys, modest, calm, conditions, laid).
  DERIVED. THE GIVEN ROWS OF THIS SEAT. 2 by the template 'for every input the law returns true; each argument reads behind the call as it read before'; 0 by the template 'total and deterministic' (their statements: Qxb6602133aTotals.lean).
  GIVEN WITH THE SEED: the statements are not yours to turn. If you find one false, say at which input.
  Laid BY PROGRAM, IN A SANDBOX (cutbox-rows.mjs): the forced cells as the released guide's own fill.sh prints them over the translation 006aa2ee235f891a… (all of the seat's roots in one cut). By AI agents, Wed Nov 11 2026. No macro, syntax, notation, axiom, sorry.
-/
import Derived.Test.Qxb6602133aChecked
import GoSem.Claim
import GoSem.ClaimJoined
import GoSem.ClaimMapViews
import Derived.JoinedTies
import Derived.KernelRfl
namespace Go.Proofs.Qxb6602133a
/- THE CELL 'sum', in the pinned program and in every row, IS THE sha256 OF THE DUMP (.gsa) THAT Qxb6602133aProg.lean LOADS. Nothing in Lean hashes anything: it is a label: what it is worth is what the hold of that sum in a sandbox is worth. -/
noncomputable def Try.pinned : Pinned := { name := "qxb6602133a", sum := "006aa2ee235f891abba2ca6f98d37d1e880b99e6e0bdecd0c7f78c392bbecad4", checked := Try.checked }
namespace Rows
def none {H : Type} : Left H := { results := [], args := [] }

/-- 'zzlaws_root_b1.FnBitReaderReadMatchesBitStream': WHATEVER THE INPUT: true; the input reads as it did. -/
def fnBitReaderReadMatchesBitStreamSpec : ChangeSpec := { name := "fnBitReaderReadMatchesBitStream", fn := fun _ => fun
  | [d1, d2, d3, d4] => { results := [.lit (.bool true)], args := [d1, d2, d3, d4] }
  | _ => none }
def fnBitReaderReadMatchesBitStreamRow : OpenClaim := { program := "qxb6602133a", sum := "006aa2ee235f891abba2ca6f98d37d1e880b99e6e0bdecd0c7f78c392bbecad4", func := "example.com/plumbline/plumbline/zzlaws_root_b1.FnBitReaderReadMatchesBitStream", spec := "fnBitReaderReadMatchesBitStream", recurses := true, apart := false }
def FnBitReaderReadMatchesBitStreamSaid : Prop := fnBitReaderReadMatchesBitStreamRow.holds Try.pinned (OpenSpec.ofChange fnBitReaderReadMatchesBitStreamSpec)

/-- ITS FALSE NEIGHBOUR: 'it returns false'. Refute it at one input. -/
def fnBitReaderReadMatchesBitStreamWrong : ChangeSpec := { name := "fnBitReaderReadMatchesBitStream", fn := fun _ => fun
  | [d1, d2, d3, d4] => { results := [.lit (.bool false)], args := [d1, d2, d3, d4] }
  | _ => none }
def FnBitReaderReadMatchesBitStreamWrongFalsely : Prop := fnBitReaderReadMatchesBitStreamRow.holds Try.pinned (OpenSpec.ofChange fnBitReaderReadMatchesBitStreamWrong)

/-- 'zzlaws_root_b1.FnBitReaderReadSplits': WHATEVER THE INPUT: true; the input reads as it did. -/
def fnBitReaderReadSplitsSpec : ChangeSpec := { name := "fnBitReaderReadSplits", fn := fun _ => fun
  | [d1, d2, d3, d4, d5] => { results := [.lit (.bool true)], args := [d1, d2, d3, d4, d5] }
  | _ => none }
def fnBitReaderReadSplitsRow : OpenClaim := { program := "qxb6602133a", sum := "006aa2ee235f891abba2ca6f98d37d1e880b99e6e0bdecd0c7f78c392bbecad4", func := "example.com/plumbline/plumbline/zzlaws_root_b1.FnBitReaderReadSplits", spec := "fnBitReaderReadSplits", recurses := true, apart := false }
def FnBitReaderReadSplitsSaid : Prop := fnBitReaderReadSplitsRow.holds Try.pinned (OpenSpec.ofChange fnBitReaderReadSplitsSpec)

/-- ITS FALSE NEIGHBOUR: 'it returns false'. Refute it at one input. -/
def fnBitReaderReadSplitsWrong : ChangeSpec := { name := "fnBitReaderReadSplits", fn := fun _ => fun
  | [d1, d2, d3, d4, d5] => { results := [.lit (.bool false)], args := [d1, d2, d3, d4, d5] }
  | _ => none }
def FnBitReaderReadSplitsWrongFalsely : Prop := fnBitReaderReadSplitsRow.holds Try.pinned (OpenSpec.ofChange fnBitReaderReadSplitsWrong)

end Rows
end Go.Proofs.Qxb6602133a
