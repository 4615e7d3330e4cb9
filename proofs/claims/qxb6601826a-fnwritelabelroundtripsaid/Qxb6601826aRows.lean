/-
  No cell of these rows narrows 'for every input' (looked for: loops, veiled, ifaces, maps, wideKeys, modest, calm, conditions, laid).
  DERIVED. THE GIVEN ROWS OF THIS SEAT. 7 by the template 'for every input the law returns true; each argument reads behind the call as it read before'; 0 by the template 'total and deterministic' (their statements: Qxb6601826aTotals.lean).
  GIVEN WITH THE SEED: the statements are not yours to turn. If you find one false, say at which input.
  Laid BY PROGRAM, IN A SANDBOX (cutbox-rows.mjs): the forced cells as the released guide's own fill.sh prints them over the translation 0d46ebc0a858a9fe… (all of the seat's roots in one cut). By AI agents, Wed Nov 11 2026. No macro, syntax, notation, axiom, sorry.
-/
import Derived.Test.Qxb6601826aChecked
import GoSem.Claim
import GoSem.ClaimJoined
import GoSem.ClaimMapViews
import Derived.JoinedTies
import Derived.KernelRfl
namespace Go.Proofs.Qxb6601826a
/- THE CELL 'sum', in the pinned program and in every row, IS THE sha256 OF THE DUMP (.gsa) THAT Qxb6601826aProg.lean LOADS. Nothing in Lean hashes anything: it is a label: what it is worth is what the hold of that sum in a sandbox is worth. -/
noncomputable def Try.pinned : Pinned := { name := "qxb6601826a", sum := "0d46ebc0a858a9fed8fecdd696755346442397d8d9d69f18e419a15e4896b96a", checked := Try.checked }
namespace Rows
def none {H : Type} : Left H := { results := [], args := [] }

/-- 'zzlaws_pkg_dnsname_b1.FnIsHostLabelMatchesAutomaton': WHATEVER THE INPUT: true; the input reads as it did. -/
def fnIsHostLabelMatchesAutomatonSpec : ChangeSpec := { name := "fnIsHostLabelMatchesAutomaton", fn := fun _ => fun
  | [d] => { results := [.lit (.bool true)], args := [d] }
  | _ => none }
def fnIsHostLabelMatchesAutomatonRow : OpenClaim := { program := "qxb6601826a", sum := "0d46ebc0a858a9fed8fecdd696755346442397d8d9d69f18e419a15e4896b96a", func := "example.com/leasename/leasename/zzlaws_pkg_dnsname_b1.FnIsHostLabelMatchesAutomaton", spec := "fnIsHostLabelMatchesAutomaton", apart := false }
def FnIsHostLabelMatchesAutomatonSaid : Prop := fnIsHostLabelMatchesAutomatonRow.holds Try.pinned (OpenSpec.ofChange fnIsHostLabelMatchesAutomatonSpec)

/-- ITS FALSE NEIGHBOUR: 'it returns false'. Refute it at one input. -/
def fnIsHostLabelMatchesAutomatonWrong : ChangeSpec := { name := "fnIsHostLabelMatchesAutomaton", fn := fun _ => fun
  | [d] => { results := [.lit (.bool false)], args := [d] }
  | _ => none }
def FnIsHostLabelMatchesAutomatonWrongFalsely : Prop := fnIsHostLabelMatchesAutomatonRow.holds Try.pinned (OpenSpec.ofChange fnIsHostLabelMatchesAutomatonWrong)

/-- 'zzlaws_pkg_dnsname_b1.FnIsHostLabelCaseBlind': WHATEVER THE INPUT: true; the input reads as it did. -/
def fnIsHostLabelCaseBlindSpec : ChangeSpec := { name := "fnIsHostLabelCaseBlind", fn := fun _ => fun
  | [d] => { results := [.lit (.bool true)], args := [d] }
  | _ => none }
def fnIsHostLabelCaseBlindRow : OpenClaim := { program := "qxb6601826a", sum := "0d46ebc0a858a9fed8fecdd696755346442397d8d9d69f18e419a15e4896b96a", func := "example.com/leasename/leasename/zzlaws_pkg_dnsname_b1.FnIsHostLabelCaseBlind", spec := "fnIsHostLabelCaseBlind", apart := false }
def FnIsHostLabelCaseBlindSaid : Prop := fnIsHostLabelCaseBlindRow.holds Try.pinned (OpenSpec.ofChange fnIsHostLabelCaseBlindSpec)

/-- ITS FALSE NEIGHBOUR: 'it returns false'. Refute it at one input. -/
def fnIsHostLabelCaseBlindWrong : ChangeSpec := { name := "fnIsHostLabelCaseBlind", fn := fun _ => fun
  | [d] => { results := [.lit (.bool false)], args := [d] }
  | _ => none }
def FnIsHostLabelCaseBlindWrongFalsely : Prop := fnIsHostLabelCaseBlindRow.holds Try.pinned (OpenSpec.ofChange fnIsHostLabelCaseBlindWrong)

/-- 'zzlaws_pkg_dnsname_b1.FnIsHostLabelHyphenJoin': WHATEVER THE INPUT: true; the input reads as it did. -/
def fnIsHostLabelHyphenJoinSpec : ChangeSpec := { name := "fnIsHostLabelHyphenJoin", fn := fun _ => fun
  | [d1, d2] => { results := [.lit (.bool true)], args := [d1, d2] }
  | _ => none }
def fnIsHostLabelHyphenJoinRow : OpenClaim := { program := "qxb6601826a", sum := "0d46ebc0a858a9fed8fecdd696755346442397d8d9d69f18e419a15e4896b96a", func := "example.com/leasename/leasename/zzlaws_pkg_dnsname_b1.FnIsHostLabelHyphenJoin", spec := "fnIsHostLabelHyphenJoin", apart := false }
def FnIsHostLabelHyphenJoinSaid : Prop := fnIsHostLabelHyphenJoinRow.holds Try.pinned (OpenSpec.ofChange fnIsHostLabelHyphenJoinSpec)

/-- ITS FALSE NEIGHBOUR: 'it returns false'. Refute it at one input. -/
def fnIsHostLabelHyphenJoinWrong : ChangeSpec := { name := "fnIsHostLabelHyphenJoin", fn := fun _ => fun
  | [d1, d2] => { results := [.lit (.bool false)], args := [d1, d2] }
  | _ => none }
def FnIsHostLabelHyphenJoinWrongFalsely : Prop := fnIsHostLabelHyphenJoinRow.holds Try.pinned (OpenSpec.ofChange fnIsHostLabelHyphenJoinWrong)

/-- 'zzlaws_pkg_dnsname_b1.FnWriteLabelRoundTrip': WHATEVER THE INPUT: true; the input reads as it did. -/
def fnWriteLabelRoundTripSpec : ChangeSpec := { name := "fnWriteLabelRoundTrip", fn := fun _ => fun
  | [d] => { results := [.lit (.bool true)], args := [d] }
  | _ => none }
def fnWriteLabelRoundTripRow : OpenClaim := { program := "qxb6601826a", sum := "0d46ebc0a858a9fed8fecdd696755346442397d8d9d69f18e419a15e4896b96a", func := "example.com/leasename/leasename/zzlaws_pkg_dnsname_b1.FnWriteLabelRoundTrip", spec := "fnWriteLabelRoundTrip", inPlace := ["internal/abi.NoEscape"], apart := false }
def FnWriteLabelRoundTripSaid : Prop := fnWriteLabelRoundTripRow.holds Try.pinned (OpenSpec.ofChange fnWriteLabelRoundTripSpec)

/-- ITS FALSE NEIGHBOUR: 'it returns false'. Refute it at one input. -/
def fnWriteLabelRoundTripWrong : ChangeSpec := { name := "fnWriteLabelRoundTrip", fn := fun _ => fun
  | [d] => { results := [.lit (.bool false)], args := [d] }
  | _ => none }
def FnWriteLabelRoundTripWrongFalsely : Prop := fnWriteLabelRoundTripRow.holds Try.pinned (OpenSpec.ofChange fnWriteLabelRoundTripWrong)

/-- 'zzlaws_pkg_dnsname_b1.FnWriteLabelKeepsHostLabels': WHATEVER THE INPUT: true; the input reads as it did. -/
def fnWriteLabelKeepsHostLabelsSpec : ChangeSpec := { name := "fnWriteLabelKeepsHostLabels", fn := fun _ => fun
  | [d1, d2] => { results := [.lit (.bool true)], args := [d1, d2] }
  | _ => none }
def fnWriteLabelKeepsHostLabelsRow : OpenClaim := { program := "qxb6601826a", sum := "0d46ebc0a858a9fed8fecdd696755346442397d8d9d69f18e419a15e4896b96a", func := "example.com/leasename/leasename/zzlaws_pkg_dnsname_b1.FnWriteLabelKeepsHostLabels", spec := "fnWriteLabelKeepsHostLabels", inPlace := ["internal/abi.NoEscape"], apart := false }
def FnWriteLabelKeepsHostLabelsSaid : Prop := fnWriteLabelKeepsHostLabelsRow.holds Try.pinned (OpenSpec.ofChange fnWriteLabelKeepsHostLabelsSpec)

/-- ITS FALSE NEIGHBOUR: 'it returns false'. Refute it at one input. -/
def fnWriteLabelKeepsHostLabelsWrong : ChangeSpec := { name := "fnWriteLabelKeepsHostLabels", fn := fun _ => fun
  | [d1, d2] => { results := [.lit (.bool false)], args := [d1, d2] }
  | _ => none }
def FnWriteLabelKeepsHostLabelsWrongFalsely : Prop := fnWriteLabelKeepsHostLabelsRow.holds Try.pinned (OpenSpec.ofChange fnWriteLabelKeepsHostLabelsWrong)

/-- 'zzlaws_pkg_dnsname_b1.FnAppendCanonicalIdempotent': WHATEVER THE INPUT: true; the input reads as it did. -/
def fnAppendCanonicalIdempotentSpec : ChangeSpec := { name := "fnAppendCanonicalIdempotent", fn := fun _ => fun
  | [d] => { results := [.lit (.bool true)], args := [d] }
  | _ => none }
def fnAppendCanonicalIdempotentRow : OpenClaim := { program := "qxb6601826a", sum := "0d46ebc0a858a9fed8fecdd696755346442397d8d9d69f18e419a15e4896b96a", func := "example.com/leasename/leasename/zzlaws_pkg_dnsname_b1.FnAppendCanonicalIdempotent", spec := "fnAppendCanonicalIdempotent", apart := false }
def FnAppendCanonicalIdempotentSaid : Prop := fnAppendCanonicalIdempotentRow.holds Try.pinned (OpenSpec.ofChange fnAppendCanonicalIdempotentSpec)

/-- ITS FALSE NEIGHBOUR: 'it returns false'. Refute it at one input. -/
def fnAppendCanonicalIdempotentWrong : ChangeSpec := { name := "fnAppendCanonicalIdempotent", fn := fun _ => fun
  | [d] => { results := [.lit (.bool false)], args := [d] }
  | _ => none }
def FnAppendCanonicalIdempotentWrongFalsely : Prop := fnAppendCanonicalIdempotentRow.holds Try.pinned (OpenSpec.ofChange fnAppendCanonicalIdempotentWrong)

/-- 'zzlaws_pkg_dnsname_b1.FnAppendCanonicalEqualIffCaseFold': WHATEVER THE INPUT: true; the input reads as it did. -/
def fnAppendCanonicalEqualIffCaseFoldSpec : ChangeSpec := { name := "fnAppendCanonicalEqualIffCaseFold", fn := fun _ => fun
  | [d1, d2] => { results := [.lit (.bool true)], args := [d1, d2] }
  | _ => none }
def fnAppendCanonicalEqualIffCaseFoldRow : OpenClaim := { program := "qxb6601826a", sum := "0d46ebc0a858a9fed8fecdd696755346442397d8d9d69f18e419a15e4896b96a", func := "example.com/leasename/leasename/zzlaws_pkg_dnsname_b1.FnAppendCanonicalEqualIffCaseFold", spec := "fnAppendCanonicalEqualIffCaseFold", apart := false }
def FnAppendCanonicalEqualIffCaseFoldSaid : Prop := fnAppendCanonicalEqualIffCaseFoldRow.holds Try.pinned (OpenSpec.ofChange fnAppendCanonicalEqualIffCaseFoldSpec)

/-- ITS FALSE NEIGHBOUR: 'it returns false'. Refute it at one input. -/
def fnAppendCanonicalEqualIffCaseFoldWrong : ChangeSpec := { name := "fnAppendCanonicalEqualIffCaseFold", fn := fun _ => fun
  | [d1, d2] => { results := [.lit (.bool false)], args := [d1, d2] }
  | _ => none }
def FnAppendCanonicalEqualIffCaseFoldWrongFalsely : Prop := fnAppendCanonicalEqualIffCaseFoldRow.holds Try.pinned (OpenSpec.ofChange fnAppendCanonicalEqualIffCaseFoldWrong)

end Rows
end Go.Proofs.Qxb6601826a
