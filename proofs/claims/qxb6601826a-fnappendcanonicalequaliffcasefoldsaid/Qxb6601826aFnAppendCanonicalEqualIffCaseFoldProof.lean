import Derived.Test.Qxb6601826aRows
import Derived.Test.Qxb6601826aCanon
import Derived.WalkKit
import Derived.ProofKit
import Derived.OpenShut
import Derived.ShutString
namespace Go.Proofs.Qxb6601826a.fnAppendCanonicalEqualIffCaseFold
open Go.ChangeShapes Go.WideShapes Go.ChangeAt Go.RowKit
open Go.ChangeMaps (open_string shut_string)
set_option linter.unusedVariables false

theorem own : ownKnob Try.prog.godebug = none := by kernel_rfl

theorem walk (a0 : ByteArray) (a1 : ByteArray) (w0 : a0.size ≤ maxLen) (w1 : a1.size ≤ maxLen) (w : World) :
    Calls Try.prog 9 #[.string a0, .string a1] w fun e w' => e = .returned (.bool true) ∧ Below w.heap.size w w' := by
  by_cases hs : a0.size + a1.size ≤ 1048576
  · have hs0 : a0.size ≤ 1048576 := by omega
    have hs1 : a1.size ≤ 1048576 := by omega
    go_enter Try.func9, Try.ntmps9
    go_wp2_with (go_at_call 23; refine (bytes23_yes _ _ _ hs).mono ?_; rintro e w' ⟨rfl, rfl⟩)
    refine (wire_any _ _).mono ?_
    rintro e w2 ⟨rfl, hb2⟩
    go_wp2_with fail
    refine (canon_any _ _ hs0).mono ?_
    rintro e w3 ⟨v3, rfl, hown3, hb3⟩
    have hcv := run_string_own hown3
    go_wp2_with fail
    refine (wire_any _ _).mono ?_
    rintro e w4 ⟨rfl, hb4⟩
    go_wp2_with fail
    refine (canon_any _ _ hs1).mono ?_
    rintro e w5 ⟨v5, rfl, hown5, hb5⟩
    have hcv5 := run_string_own hown5
    have HB : Hid (Below w.heap.size w w5) := ((hb2.trans (hb3.mono hb2.size)).trans (hb4.mono (Nat.le_trans hb2.size hb3.size))).trans (hb5.mono (Nat.le_trans (Nat.le_trans hb2.size hb3.size) hb4.size))
    clear hown3 hown5 hb2 hb3 hb4 hb5 hcv
    go_wp2_with fail
    refine (fold_any _ _ _ hs0).mono ?_
    rintro e w' ⟨b, rfl, hb, rfl⟩
    have HBB : Hid (((canon a0 == canon a1) == b) = true) := by
      have h1 : (canon a0 == canon a1) = b := Bool.eq_iff_iff.2 ((beq_iff_eq.trans (canon_eq a0 a1)).trans hb.symm)
      show ((canon a0 == canon a1) == b) = true
      rw [h1]; simp
    clear hb hcv5
    go_wp2
    go_ret
    exact ⟨ret_bool HBB.out, HB.out⟩
  · have hs' : 1048576 < a0.size + a1.size := by omega
    clear hs
    go_enter Try.func9, Try.ntmps9
    go_wp2_with (go_at_call 23; refine (bytes23_no _ _ _ w0 w1 hs').mono ?_; rintro e w' ⟨rfl, rfl⟩)
    go_ret
    exact ⟨rfl, Below.refl _ _⟩

set_option maxRecDepth 100000 in
theorem lifted (os : Os) (started : os.Started) (H : Type) (enc : TypeId × Value → H) :
    ReturnsInHanded {} Try.checked os 9 .any (Rows.fnAppendCanonicalEqualIffCaseFoldSpec.pre6 enc Try.prog Try.f9 Rows.fnAppendCanonicalEqualIffCaseFoldRow.domain false) (Rows.fnAppendCanonicalEqualIffCaseFoldSpec.post enc Try.prog Try.f9 false true false false) := by
  refine returnsInHanded_of_change (C := Try.checked) own started (by kernel_rfl) Try.func9
    (ChangeSpec.witness6 (enc := enc) (C := Try.checked) false ⟨#[], #[.string ByteArray.empty, .string ByteArray.empty], []⟩ 8 (by kernel_rfl) (by kernel_rfl) (by kernel_rfl) (by kernel_rfl)) ?_
  intro W base args ds gs before hval0 hW hcnd _
  have hval : ∀ (j : Nat) t v, Try.f9.params[j]? = some t → args[j]? = some v → Value.okWide Try.prog W .any base t v := hval0
  have hW' := hW
  obtain ⟨p, q, hA0, hV, rfl, hfz, hnd⟩ := hW
  have hA : DataW.TrodAll enc Try.prog W 0 (fun _ => true) true Try.f9.params.toList args.toList ds p := hA0
  rw [Try.params9] at hA hval
  obtain ⟨v0, vs0, d0, ds0, p0, q0, hargs, rfl, rfl, h0, r0⟩ := trodAll_cons hA
  obtain ⟨v1, vs1, d1, ds1, p1, q1, rfl, rfl, rfl, h1, r1⟩ := trodAll_cons r0
  obtain ⟨rfl, rfl, rfl⟩ := trodAll_nil r1
  obtain rfl : args = #[v0, v1] := by cases args; simp_all
  obtain ⟨rfl, rfl⟩ := trodVars_none hV
  obtain ⟨a0, rfl, rfl, rfl, w0⟩ := open_string Try.underlying9 (hval 0 9 v0 rfl rfl) h0
  obtain ⟨a1, rfl, rfl, rfl, w1⟩ := open_string Try.underlying9 (hval 1 9 v1 rfl rfl) h1
  clear hA0 hval0
  simp only [List.append_nil] at hW'
  refine (walk a0 a1 w0 w1 W).mono fun e W' ⟨he, hg⟩ => ?_
  subst he
  exact ⟨_, rfl, _, _, _, [], _, [], hW', trodAll_mk1 (shut_bool Try.underlying4 _), (trodAll_cons_mk (shut_string Try.underlying9 w0) (trodAll_cons_mk (shut_string Try.underlying9 w1) trodAll_mk0)), rfl, hg.frame _, fun h => by cases h⟩

theorem over : Rows.fnAppendCanonicalEqualIffCaseFoldRow.holds Try.pinned (OpenSpec.ofChange Rows.fnAppendCanonicalEqualIffCaseFoldSpec) :=
  OpenClaim.holds_of_wide 9 Try.f9 rfl rfl rfl rfl rfl rfl rfl ⟨rfl, rfl, rfl, rfl, rfl⟩ rfl rfl rfl rfl rfl (by kernel_rfl) Try.func9 (by kernel_rfl)
    (of_decide_eq_true (by kernel_rfl)) (by unfold Func.isWrapper; first | (rw [if_pos (by decide +kernel)]; kernel_rfl) | (rw [if_neg (by decide +kernel)]; exact ⟨rfl, rfl⟩))
    (fun os started H enc _ => lifted os started H enc)

theorem proved : Rows.FnAppendCanonicalEqualIffCaseFoldSaid :=
  over
end Go.Proofs.Qxb6601826a.fnAppendCanonicalEqualIffCaseFold
