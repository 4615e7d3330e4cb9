import Derived.Test.Qxb6602237aRows
import Derived.WalkKit
import Derived.ProofKit
import Derived.WalkSpells
import Derived.Deep.QuietTactic
import Derived.BigQuiet
import Derived.BigRegion
import Derived.Deep.CutRange
namespace Go.Proofs.Qxb6602237a
open Go.RowKit
set_option linter.unusedVariables false

/-! ### what the pointers that come in lead to -/
def PStr (w : World) (v : Option Addr) : Prop := v = none ∨ ∃ b o s, v = some ⟨b, o, none⟩ ∧ w.cell? ⟨b, o, none⟩ = some (.string s) ∧ s.size ≤ maxLen
def PInt (w : World) (v : Option Addr) : Prop := v = none ∨ ∃ b o n, v = some ⟨b, o, none⟩ ∧ w.cell? ⟨b, o, none⟩ = some (.int .i64 n)
def Band (w : World) (b o i : Nat) : Prop := ∃ f r, w.cell? ⟨b, o + i * 2, none⟩ = some (.pointer f) ∧ w.cell? ⟨b, o + i * 2 + 1, none⟩ = some (.pointer r) ∧ PStr w f ∧ PStr w r
def Bands (w : World) (M : Nat) (sl : Value) : Prop := sl = .slice none 0 0 ∨ ∃ a len cap, sl = .slice (some a) len cap ∧ len ≤ M ∧ len ≤ cap ∧ cap ≤ maxLen ∧ (0 < len → ∃ g p, a = ⟨g, p, none⟩ ∧ ∀ i, i < len → Band w g p i)
def PBands (w : World) (M : Nat) (v : Option Addr) : Prop := v = none ∨ ∃ b o sl, v = some ⟨b, o, none⟩ ∧ w.cell? ⟨b, o, none⟩ = some sl ∧ Bands w M sl

/-- a call that gives some number between 0 and M, and turns nothing. -/
def GivesInt (M : Int) (w : World) (e : Ending) (w' : World) : Prop := ∃ r : Int, e = .returned (.int .i64 r) ∧ 0 ≤ r ∧ r ≤ M ∧ w = w'
theorem GivesInt.mk {M r : Int} (w : World) (h0 : 0 ≤ r) (h1 : r ≤ M) : GivesInt M w (.returned (.int .i64 r)) w := ⟨r, rfl, h0, h1, rfl⟩

theorem add_any (n k : Int) (w : World) (h0 : 0 ≤ n) (k0 : 0 ≤ k) (k1 : k ≤ 9223372036854775807) : Calls Try.prog 12 #[.int .i64 n, .int .i64 k] w fun e w' => GivesInt 2097152 w e w' := by
  by_cases h1 : 1048576 < n
  · have d1 : decide (1048576 < n) = true := decide_eq_true h1
    go_enter Try.func12, Try.ntmps12
    go_wp2
    go_ret
    exact GivesInt.mk _ (by omega) (by omega)
  · have d1 : decide (1048576 < n) = false := decide_eq_false h1
    by_cases h2 : 1048576 < k
    · have d2 : decide (1048576 < k) = true := decide_eq_true h2
      go_enter Try.func12, Try.ntmps12
      go_wp2
      go_ret
      exact GivesInt.mk _ (by omega) (by omega)
    · have d2 : decide (1048576 < k) = false := decide_eq_false h2
      go_enter Try.func12, Try.ntmps12
      go_wp2
      go_ret
      exact GivesInt.mk _ (by omega) (by omega)

theorem str_any (v : Option Addr) (w : World) (h : PStr w v) : Calls Try.prog 13 #[.pointer v] w fun e w' => GivesInt 9223372036854775807 w e w' := by
  rcases h with rfl | ⟨b, o, s, rfl, hc, hs⟩
  · go_enter Try.func13, Try.ntmps13
    go_wp2
    go_ret
    exact GivesInt.mk _ (by omega) (by omega)
  · unfold maxLen at hs
    go_enter Try.func13, Try.ntmps13
    go_wp2
    go_ret
    exact GivesInt.mk _ (by omega) (by omega)

set_option maxHeartbeats 1000000 in
theorem bands_any (v : Option Addr) (M : Nat) (w : World) (h : PBands w M v) : Calls Try.prog 14 #[.pointer v] w fun e w' => GivesInt 2097152 w e w' := by
  rcases h with rfl | ⟨b, o, sl, rfl, hc, hsl⟩
  · go_enter Try.func14, Try.ntmps14
    go_wp2
    go_ret
    exact GivesInt.mk _ (by omega) (by omega)
  · rcases hsl with rfl | ⟨a, len, cap, rfl, hM, hl, hm, hB⟩
    · go_enter Try.func14, Try.ntmps14
      go_wp2
      refine wp_loop_rounds 1 ?_
      rw [rounds_succ]
      go_wp2
      go_ret
      exact GivesInt.mk _ (by omega) (by omega)
    · unfold maxLen at hm
      have HB : Hid (0 < len → ∃ g p, a = ⟨g, p, none⟩ ∧ ∀ i, i < len → Band w g p i) := hB
      clear hB
      go_enter Try.func14, Try.ntmps14
      go_wp2
      go_loop [4, 5] (fun n i => ∃ (k : Nat) (r : Int), k ≤ len ∧ 0 ≤ r ∧ r ≤ 2097152 ∧ i = .int .i64 k ∧ n = .int .i64 r) (fun _ i => len - (intOf i).toNat)
      case atStart => exact ⟨0, 0, by omega, by omega, by omega, rfl, rfl⟩
      case round =>
        obtain ⟨k, r, hk, hr0, hr1, rfl, rfl⟩ := hrel
        by_cases hlt : k < len
        · obtain ⟨g, p, rfl, hBa⟩ := HB.out (by omega)
          obtain ⟨f, q, cf, cq, pf, pq⟩ := hBa k hlt
          clear hBa HB
          go_wp2_with fail
          refine (add_any r 16 _ hr0 (by omega) (by omega)).mono ?_
          rintro e w' ⟨r1, rfl, r10, r11, rfl⟩
          go_wp2_with fail
          refine (str_any f _ pf).mono ?_
          rintro e w' ⟨r2, rfl, r20, r21, rfl⟩
          go_wp2_with fail
          refine (add_any r1 r2 _ r10 r20 r21).mono ?_
          rintro e w' ⟨r3, rfl, r30, r31, rfl⟩
          go_wp2_with fail
          refine (str_any q _ pq).mono ?_
          rintro e w' ⟨r4, rfl, r40, r41, rfl⟩
          go_wp2_with fail
          refine (add_any r3 r4 _ r30 r40 r41).mono ?_
          rintro e w' ⟨r5, rfl, r50, r51, rfl⟩
          by_cases h5 : 1048576 < r5
          · go_wp2
            go_ret
            exact GivesInt.mk _ (by omega) (by omega)
          · go_wp2
            go_round
            case rel => exact ⟨k + 1, r5, by omega, r50, r51, by go_num, rfl⟩
            case measure => simp [intOf]; omega
        · go_wp2
          go_ret
          exact GivesInt.mk _ (by omega) (by omega)

set_option maxHeartbeats 2000000 in
theorem table_any (v0 v1 v2 v3 v4 v5 v6 : Option Addr) (M : Nat) (w : World) (h0 : PStr w v0) (h1 : PStr w v1) (h2 : PStr w v2) (h3 : PStr w v3) (h4 : PStr w v4) (h5 : PBands w M v5) (h6 : PBands w M v6) :
    Calls Try.prog 6 #[.pointer v0, .pointer v1, .pointer v2, .pointer v3, .pointer v4, .pointer v5, .pointer v6] w fun e w' => GivesInt 2097152 w e w' := by
  go_enter Try.func6, Try.ntmps6
  go_wp2_with fail
  refine (str_any v0 _ h0).mono ?_
  rintro e w' ⟨a0, rfl, p0, q0, rfl⟩
  go_wp2_with fail
  refine (add_any 0 a0 _ (by omega) p0 q0).mono ?_
  rintro e w' ⟨b0, rfl, s0, t0, rfl⟩
  go_wp2_with fail
  refine (str_any v1 _ h1).mono ?_
  rintro e w' ⟨a1, rfl, p1, q1, rfl⟩
  go_wp2_with fail
  refine (add_any b0 a1 _ s0 p1 q1).mono ?_
  rintro e w' ⟨b1, rfl, s1, t1, rfl⟩
  go_wp2_with fail
  refine (str_any v2 _ h2).mono ?_
  rintro e w' ⟨a2, rfl, p2, q2, rfl⟩
  go_wp2_with fail
  refine (add_any b1 a2 _ s1 p2 q2).mono ?_
  rintro e w' ⟨b2, rfl, s2, t2, rfl⟩
  go_wp2_with fail
  refine (str_any v3 _ h3).mono ?_
  rintro e w' ⟨a3, rfl, p3, q3, rfl⟩
  go_wp2_with fail
  refine (add_any b2 a3 _ s2 p3 q3).mono ?_
  rintro e w' ⟨b3, rfl, s3, t3, rfl⟩
  go_wp2_with fail
  refine (str_any v4 _ h4).mono ?_
  rintro e w' ⟨a4, rfl, p4, q4, rfl⟩
  go_wp2_with fail
  refine (add_any b3 a4 _ s3 p4 q4).mono ?_
  rintro e w' ⟨b4, rfl, s4, t4, rfl⟩
  go_wp2_with fail
  refine (bands_any v5 M _ h5).mono ?_
  rintro e w' ⟨a5, rfl, p5, q5, rfl⟩
  go_wp2_with fail
  refine (add_any b4 a5 _ s4 p5 (by omega)).mono ?_
  rintro e w' ⟨b5, rfl, s5, t5, rfl⟩
  go_wp2_with fail
  refine (bands_any v6 M _ h6).mono ?_
  rintro e w' ⟨a6, rfl, p6, q6, rfl⟩
  go_wp2_with fail
  refine (add_any b5 a6 _ s5 p6 (by omega)).mono ?_
  rintro e w' ⟨b6, rfl, s6, t6, rfl⟩
  go_wp2
  go_ret
  exact GivesInt.mk _ s6 t6
end Go.Proofs.Qxb6602237a
