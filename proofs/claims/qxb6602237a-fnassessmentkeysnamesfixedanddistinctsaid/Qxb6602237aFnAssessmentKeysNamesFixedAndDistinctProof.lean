import Derived.Test.Qxb6602237aRows
import Derived.WalkKit
import Derived.ProofKit
import Derived.OpenShut
import Derived.ShutString
import Derived.ChangeOld
import Derived.Below
import Derived.Test.Qxb6602237aLaw
import Derived.Test.Qxb6602237aOpen
namespace Go.Proofs.Qxb6602237a.fnAssessmentKeysNamesFixedAndDistinct
open Go.ChangeShapes Go.WideShapes Go.ChangeAt Go.RowKit
open Go.ChangeMaps (open_string shut_string)
set_option linter.unusedVariables false

theorem own : ownKnob Try.prog.godebug = none := by kernel_rfl
theorem laidOut : laidOutB Try.prog = true := by kernel_rfl

set_option maxRecDepth 100000 in
theorem lifted (os : Os) (started : os.Started) (H : Type) (enc : TypeId × Value → H) :
    ReturnsInHanded {} Try.checked os 3 .any (Rows.fnAssessmentKeysNamesFixedAndDistinctSpec.pre6 enc Try.prog Try.f3 Rows.fnAssessmentKeysNamesFixedAndDistinctRow.domain false) (Rows.fnAssessmentKeysNamesFixedAndDistinctSpec.post enc Try.prog Try.f3 false true false false) := by
  refine returnsInHanded_of_change (C := Try.checked) own started (by kernel_rfl) Try.func3
    (ChangeSpec.witness6 (enc := enc) (C := Try.checked) false ⟨#[], #[.pointer none, .pointer none, .pointer none, .pointer none, .pointer none, .pointer none, .pointer none, .pointer none, .pointer none, .pointer none], []⟩ 8 (by kernel_rfl) (by kernel_rfl) (by kernel_rfl) (by kernel_rfl)) ?_
  intro W base args ds gs before hval0 hW hcnd _
  have hval : ∀ (j : Nat) t v, Try.f3.params[j]? = some t → args[j]? = some v → Value.okWide Try.prog W .any base t v := hval0
  have hW' := hW
  obtain ⟨p, q, hA0, hV, rfl, hfz, hnd⟩ := hW
  have hA : DataW.TrodAll enc Try.prog W 0 (fun _ => true) true Try.f3.params.toList args.toList ds p := hA0
  rw [Try.params3] at hA hval
  obtain ⟨v0, vs0, d0, ds0, p0, q0, hargs, rfl, rfl, h0, r0⟩ := trodAll_cons hA
  obtain ⟨v1, vs1, d1, ds1, p1, q1, rfl, rfl, rfl, h1, r1⟩ := trodAll_cons r0
  obtain ⟨v2, vs2, d2, ds2, p2, q2, rfl, rfl, rfl, h2, r2⟩ := trodAll_cons r1
  obtain ⟨v3, vs3, d3, ds3, p3, q3, rfl, rfl, rfl, h3, r3⟩ := trodAll_cons r2
  obtain ⟨v4, vs4, d4, ds4, p4, q4, rfl, rfl, rfl, h4, r4⟩ := trodAll_cons r3
  obtain ⟨v5, vs5, d5, ds5, p5, q5, rfl, rfl, rfl, h5, r5⟩ := trodAll_cons r4
  obtain ⟨v6, vs6, d6, ds6, p6, q6, rfl, rfl, rfl, h6, r6⟩ := trodAll_cons r5
  obtain ⟨v7, vs7, d7, ds7, p7, q7, rfl, rfl, rfl, h7, r7⟩ := trodAll_cons r6
  obtain ⟨v8, vs8, d8, ds8, p8, q8, rfl, rfl, rfl, h8, r8⟩ := trodAll_cons r7
  obtain ⟨v9, vs9, d9, ds9, p9, q9, rfl, rfl, rfl, h9, r9⟩ := trodAll_cons r8
  obtain ⟨rfl, rfl, rfl⟩ := trodAll_nil r9
  obtain rfl : args = #[v0, v1, v2, v3, v4, v5, v6, v7, v8, v9] := by cases args; simp_all
  obtain ⟨rfl, rfl⟩ := trodVars_none hV
  clear hA r0 r1 r2 r3 r4 r5 r6 r7 r8 r9
  have k0 := h0
  have lt0 : ∀ x ∈ p0, x.block < W.heap.size := by obtain ⟨m, hm⟩ := k0; exact DataW.trod_lt m _ _ _ hm
  obtain ⟨a0, rfl⟩ := okWide_pointer Try.underlying22 (hval 0 22 v0 rfl rfl)
  have w0 : PStr W a0 := by
    obtain ⟨fuel, hf⟩ := h0
    obtain ⟨b, hb, hp⟩ := open_pstr (v := .pointer a0) hf
    simp only [Value.pointer.injEq] at hb
    subst hb
    exact hp
  have k1 := h1
  have lt1 : ∀ x ∈ p1, x.block < W.heap.size := by obtain ⟨m, hm⟩ := k1; exact DataW.trod_lt m _ _ _ hm
  obtain ⟨a1, rfl⟩ := okWide_pointer Try.underlying23 (hval 1 23 v1 rfl rfl)
  have w1 : PInt W a1 := by
    obtain ⟨fuel, hf⟩ := h1
    obtain ⟨b, hb, hp⟩ := open_pint (v := .pointer a1) hf
    simp only [Value.pointer.injEq] at hb
    subst hb
    exact hp
  have k2 := h2
  have lt2 : ∀ x ∈ p2, x.block < W.heap.size := by obtain ⟨m, hm⟩ := k2; exact DataW.trod_lt m _ _ _ hm
  obtain ⟨a2, rfl⟩ := okWide_pointer Try.underlying23 (hval 2 23 v2 rfl rfl)
  have w2 : PInt W a2 := by
    obtain ⟨fuel, hf⟩ := h2
    obtain ⟨b, hb, hp⟩ := open_pint (v := .pointer a2) hf
    simp only [Value.pointer.injEq] at hb
    subst hb
    exact hp
  have k3 := h3
  have lt3 : ∀ x ∈ p3, x.block < W.heap.size := by obtain ⟨m, hm⟩ := k3; exact DataW.trod_lt m _ _ _ hm
  obtain ⟨a3, rfl⟩ := okWide_pointer Try.underlying22 (hval 3 22 v3 rfl rfl)
  have w3 : PStr W a3 := by
    obtain ⟨fuel, hf⟩ := h3
    obtain ⟨b, hb, hp⟩ := open_pstr (v := .pointer a3) hf
    simp only [Value.pointer.injEq] at hb
    subst hb
    exact hp
  have k4 := h4
  have lt4 : ∀ x ∈ p4, x.block < W.heap.size := by obtain ⟨m, hm⟩ := k4; exact DataW.trod_lt m _ _ _ hm
  obtain ⟨a4, rfl⟩ := okWide_pointer Try.underlying22 (hval 4 22 v4 rfl rfl)
  have w4 : PStr W a4 := by
    obtain ⟨fuel, hf⟩ := h4
    obtain ⟨b, hb, hp⟩ := open_pstr (v := .pointer a4) hf
    simp only [Value.pointer.injEq] at hb
    subst hb
    exact hp
  have k5 := h5
  have lt5 : ∀ x ∈ p5, x.block < W.heap.size := by obtain ⟨m, hm⟩ := k5; exact DataW.trod_lt m _ _ _ hm
  obtain ⟨a5, rfl⟩ := okWide_pointer Try.underlying23 (hval 5 23 v5 rfl rfl)
  have w5 : PInt W a5 := by
    obtain ⟨fuel, hf⟩ := h5
    obtain ⟨b, hb, hp⟩ := open_pint (v := .pointer a5) hf
    simp only [Value.pointer.injEq] at hb
    subst hb
    exact hp
  have k6 := h6
  have lt6 : ∀ x ∈ p6, x.block < W.heap.size := by obtain ⟨m, hm⟩ := k6; exact DataW.trod_lt m _ _ _ hm
  obtain ⟨a6, rfl⟩ := okWide_pointer Try.underlying22 (hval 6 22 v6 rfl rfl)
  have w6 : PStr W a6 := by
    obtain ⟨fuel, hf⟩ := h6
    obtain ⟨b, hb, hp⟩ := open_pstr (v := .pointer a6) hf
    simp only [Value.pointer.injEq] at hb
    subst hb
    exact hp
  have k7 := h7
  have lt7 : ∀ x ∈ p7, x.block < W.heap.size := by obtain ⟨m, hm⟩ := k7; exact DataW.trod_lt m _ _ _ hm
  obtain ⟨a7, rfl⟩ := okWide_pointer Try.underlying22 (hval 7 22 v7 rfl rfl)
  have w7 : PStr W a7 := by
    obtain ⟨fuel, hf⟩ := h7
    obtain ⟨b, hb, hp⟩ := open_pstr (v := .pointer a7) hf
    simp only [Value.pointer.injEq] at hb
    subst hb
    exact hp
  have k8 := h8
  have lt8 : ∀ x ∈ p8, x.block < W.heap.size := by obtain ⟨m, hm⟩ := k8; exact DataW.trod_lt m _ _ _ hm
  obtain ⟨a8, rfl⟩ := okWide_pointer Try.underlying24 (hval 8 24 v8 rfl rfl)
  have w8 : PBands W maxLen a8 := by
    obtain ⟨fuel, hf⟩ := h8
    obtain ⟨b, hb, hp⟩ := open_pbands (v := .pointer a8) hf
    simp only [Value.pointer.injEq] at hb
    subst hb
    exact hp
  have k9 := h9
  have lt9 : ∀ x ∈ p9, x.block < W.heap.size := by obtain ⟨m, hm⟩ := k9; exact DataW.trod_lt m _ _ _ hm
  obtain ⟨a9, rfl⟩ := okWide_pointer Try.underlying24 (hval 9 24 v9 rfl rfl)
  have w9 : PBands W maxLen a9 := by
    obtain ⟨fuel, hf⟩ := h9
    obtain ⟨b, hb, hp⟩ := open_pbands (v := .pointer a9) hf
    simp only [Value.pointer.injEq] at hb
    subst hb
    exact hp
  clear hA0 hval0
  refine (law_any a0 a1 a2 a3 a4 a5 a6 a7 a8 a9 maxLen W w0 w1 w2 w3 w4 w5 w6 w7 w8 w9).mono fun e W' ⟨he, bel⟩ => ?_
  subst he
  exact ⟨_, rfl, _, _, _, [], _, [], hW', trodAll_mk1 (shut_bool Try.underlying4 _), (trodAll_cons_mk (Below.trod laidOut (by kernel_rfl) (of_decide_eq_true (by kernel_rfl)) k0 bel lt0) (trodAll_cons_mk (Below.trod laidOut (by kernel_rfl) (of_decide_eq_true (by kernel_rfl)) k1 bel lt1) (trodAll_cons_mk (Below.trod laidOut (by kernel_rfl) (of_decide_eq_true (by kernel_rfl)) k2 bel lt2) (trodAll_cons_mk (Below.trod laidOut (by kernel_rfl) (of_decide_eq_true (by kernel_rfl)) k3 bel lt3) (trodAll_cons_mk (Below.trod laidOut (by kernel_rfl) (of_decide_eq_true (by kernel_rfl)) k4 bel lt4) (trodAll_cons_mk (Below.trod laidOut (by kernel_rfl) (of_decide_eq_true (by kernel_rfl)) k5 bel lt5) (trodAll_cons_mk (Below.trod laidOut (by kernel_rfl) (of_decide_eq_true (by kernel_rfl)) k6 bel lt6) (trodAll_cons_mk (Below.trod laidOut (by kernel_rfl) (of_decide_eq_true (by kernel_rfl)) k7 bel lt7) (trodAll_cons_mk (Below.trod laidOut (by kernel_rfl) (of_decide_eq_true (by kernel_rfl)) k8 bel lt8) (trodAll_cons_mk (Below.trod laidOut (by kernel_rfl) (of_decide_eq_true (by kernel_rfl)) k9 bel lt9) trodAll_mk0)))))))))), rfl, bel.frame _, fun h => by cases h⟩

theorem over : Rows.fnAssessmentKeysNamesFixedAndDistinctRow.holds Try.pinned (OpenSpec.ofChange Rows.fnAssessmentKeysNamesFixedAndDistinctSpec) :=
  OpenClaim.holds_of_wide 3 Try.f3 rfl rfl rfl rfl rfl rfl rfl ⟨rfl, rfl, rfl, rfl, rfl⟩ rfl rfl rfl rfl rfl (by kernel_rfl) Try.func3 (by kernel_rfl)
    (of_decide_eq_true (by kernel_rfl)) (by unfold Func.isWrapper; first | (rw [if_pos (by decide +kernel)]; kernel_rfl) | (rw [if_neg (by decide +kernel)]; exact ⟨rfl, rfl⟩))
    (fun os started H enc _ => lifted os started H enc)

/-- ████ THE STATEMENT ████ -/
theorem proved : Rows.FnAssessmentKeysNamesFixedAndDistinctSaid := over
#print axioms proved
end Go.Proofs.Qxb6602237a.fnAssessmentKeysNamesFixedAndDistinct
