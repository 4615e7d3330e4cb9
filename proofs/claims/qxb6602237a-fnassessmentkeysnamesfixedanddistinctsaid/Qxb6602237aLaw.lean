import Derived.Test.Qxb6602237aList
import Derived.Deep.QuietTactic
import Derived.BigQuiet
namespace Go.Proofs.Qxb6602237a
open Go.RowKit
set_option linter.unusedVariables false

theorem belowN (B : Nat) (w : World) (n : Nat) : Below B w (w.drewN n) := ⟨rfl, rfl, rfl, Nat.le_refl _, fun _ _ => rfl⟩

theorem nm_ne (k m : Nat) (h : k < m) (hm : m < 5) : ((nm k).toList == (nm m).toList) = false := by
  have hall : ∀ b : Fin 5, ∀ a : Fin 5, a.1 < b.1 → ((nm a.1).toList == (nm b.1).toList) = false := by decide +kernel
  exact hall ⟨m, hm⟩ ⟨k, by omega⟩ h

set_option maxHeartbeats 20000000 in
set_option maxRecDepth 100000 in
theorem law_any (v0 v1 v2 v3 v4 v5 v6 v7 v8 v9 : Option Addr) (M : Nat) (w : World) (h0 : PStr w v0) (h1 : PInt w v1) (h2 : PInt w v2) (h3 : PStr w v3) (h4 : PStr w v4) (h5 : PInt w v5) (h6 : PStr w v6) (h7 : PStr w v7) (h8 : PBands w M v8) (h9 : PBands w M v9) :
    Calls Try.prog 3 #[.pointer v0, .pointer v1, .pointer v2, .pointer v3, .pointer v4, .pointer v5, .pointer v6, .pointer v7, .pointer v8, .pointer v9] w fun e w' => e = .returned (.bool true) ∧ Below w.heap.size w w' := by
  have K := bytes_any v0 v1 v2 v3 v4 v5 v6 v7 v8 v9 M w h0 h3 h4 h6 h7 h8 h9
  have KT := table_any v0 v3 v4 v6 v7 v8 v9 M w h0 h3 h4 h6 h7 h8 h9
  have K0 := copyStr_any v0 w h0
  have H : Hid (PInt w v1 ∧ PInt w v2 ∧ PStr w v3 ∧ PStr w v4 ∧ PInt w v5 ∧ PStr w v6 ∧ PStr w v7) := ⟨h1, h2, h3, h4, h5, h6, h7⟩
  clear h0 h1 h2 h3 h4 h5 h6 h7 h8 h9
  go_enter Try.func3, Try.ntmps3
  go_wp2_with (go_at_call 5; refine K.mono ?_)
  rintro e w' ⟨b, rfl, hb, rfl⟩
  clear K
  cases b with
  | false =>
    clear KT K0 H hb
    go_wp2
    go_ret
    exact ⟨rfl, Below.refl _ _⟩
  | true =>
    have H8 : Hid (PBands w 1048576 v8 ∧ PBands w 1048576 v9) := hb rfl
    clear hb
    go_wp2_with (go_at_call 6; refine KT.mono ?_)
    rintro e w' ⟨r, rfl, r0, r1, rfl⟩
    clear KT
    by_cases hr : 1048576 < r
    · have d := decide_eq_true hr
      clear K0 H H8
      go_wp2
      go_ret
      exact ⟨rfl, Below.refl _ _⟩
    · have d : decide (1048576 < r) = false := decide_eq_false hr
      go_wp2_with (go_at_call 7; refine K0.mono ?_)
      rintro e w0 ⟨c0, rfl, b0⟩
      clear K0
      have K1 := copyInt_any v1 w0 (H.out.1.keep b0)
      go_wp2_with (go_at_call 8; refine K1.mono ?_)
      rintro e w1 ⟨c1, rfl, b1⟩
      clear K1
      replace b1 := b0.trans (b1.mono b0.size)
      have K2 := copyInt_any v2 w1 (H.out.2.1.keep b1)
      clear b0
      go_wp2_with (go_at_call 8; refine K2.mono ?_)
      rintro e w2 ⟨c2, rfl, b2⟩
      clear K2
      replace b2 := b1.trans (b2.mono b1.size)
      have K3 := copyStr_any v3 w2 (H.out.2.2.1.keep b2)
      clear b1
      go_wp2_with (go_at_call 7; refine K3.mono ?_)
      rintro e w3 ⟨c3, rfl, b3⟩
      clear K3
      replace b3 := b2.trans (b3.mono b2.size)
      have K4 := copyStr_any v4 w3 (H.out.2.2.2.1.keep b3)
      clear b2
      go_wp2_with (go_at_call 7; refine K4.mono ?_)
      rintro e w4 ⟨c4, rfl, b4⟩
      clear K4
      replace b4 := b3.trans (b4.mono b3.size)
      have K5 := copyInt_any v5 w4 (H.out.2.2.2.2.1.keep b4)
      clear b3
      go_wp2_with (go_at_call 8; refine K5.mono ?_)
      rintro e w5 ⟨c5, rfl, b5⟩
      clear K5
      replace b5 := b4.trans (b5.mono b4.size)
      have K6 := copyStr_any v6 w5 (H.out.2.2.2.2.2.1.keep b5)
      clear b4
      go_wp2_with (go_at_call 7; refine K6.mono ?_)
      rintro e w6 ⟨c6, rfl, b6⟩
      clear K6
      replace b6 := b5.trans (b6.mono b5.size)
      have K7 := copyStr_any v7 w6 (H.out.2.2.2.2.2.2.keep b6)
      clear b5
      go_wp2_with (go_at_call 7; refine K7.mono ?_)
      rintro e w7 ⟨c7, rfl, b7⟩
      clear K7
      replace b7 := b6.trans (b7.mono b6.size)
      have K8 := copyBands_any v8 w7 (H8.out.1.keep b7)
      clear b6
      go_wp2_with (go_at_call 9; refine K8.mono ?_)
      rintro e w8 ⟨c8, rfl, k8, b8⟩
      clear K8
      replace b8 := b7.trans (b8.mono b7.size)
      have K9 := copyBands_any v9 w8 (H8.out.2.keep b8)
      clear b7
      go_wp2_with (go_at_call 9; refine K9.mono ?_)
      rintro e w9 ⟨c9, rfl, k9, b9⟩
      clear K9
      have KK := keys_any c0 c1 c2 c3 c4 c5 c6 c7 c8 c9 w9 (k8.keep b9) k9
      replace b9 := b8.trans (b9.mono b8.size)
      clear k8 k9 b8 H H8
      go_wp2_with (go_at_call 10; refine KK.mono ?_)
      rintro e wA ⟨gA, hA, rfl, nA, bA⟩
      clear KK
      have KN := keys_nil wA
      go_wp2_with (go_at_call 10; refine KN.mono ?_)
      rintro e wB ⟨gB, hB, rfl, nB, fB, bB⟩
      clear KN
      replace nA := nA.keep bB
      have hbel : Below w.heap.size w wB := (b9.trans (bA.mono b9.size)).trans (bB.mono (b9.trans (bA.mono b9.size)).size)
      clear b9 bA bB
      have NA : Hid (Cells wB gA fun j => .string (nm j)) := nA
      have NB : Hid (Cells wB gB fun j => .string (nm j)) := nB
      have FB : Hid (Cells wB hB fun j => .bool false) := fB
      have hy : wB.cell? ⟨gA, 0, none⟩ = some (.string ⟨#[121, 101, 97, 114]⟩) := nA 0 (by omega)
      clear nA nB fB
      go_wp2
      go_loopw [25] (fun i wr => ∃ k q : Nat, k ≤ 5 ∧ i = .int .i64 k ∧ wr = wB.drewN q) (fun i _ => 5 - (intOf i).toNat)
      case atStart => exact ⟨0, 0, by omega, rfl, rfl⟩
      case round =>
        obtain ⟨k, q, hk, rfl, rfl⟩ := hrel
        by_cases hlt : k < 5
        · have c1 : wB.cell? ⟨gA, k, none⟩ = some (.string (nm k)) := NA.out k hlt
          have c2 : wB.cell? ⟨gB, k, none⟩ = some (.string (nm k)) := NB.out k hlt
          have c3 : wB.cell? ⟨hB, k, none⟩ = some (.bool false) := FB.out k hlt
          have hki : (k : Int) < 5 := by omega
          go_wp2
          go_quiet (fail)
          go_wp2
          go_loopw [26] (fun i wr => ∃ m q : Nat, k < m ∧ m ≤ 5 ∧ i = .int .i64 m ∧ wr = wB.drewN q) (fun i _ => 5 - (intOf i).toNat)
          case atStart => exact ⟨k + 1, _, by omega, by omega, by go_num, rfl⟩
          case round =>
            obtain ⟨m, q2, hm, hm5, rfl, rfl⟩ := hrel
            by_cases hlt2 : m < 5
            · have c4 : wB.cell? ⟨gA, m, none⟩ = some (.string (nm m)) := NA.out m hlt2
              have hd : ((nm k).toList == (nm m).toList) = false := nm_ne k m hm hlt2
              have hmi : (m : Int) < 5 := by omega
              go_wp2
              go_quiet (fail)
              go_wp2
              go_roundw
              case rel => exact ⟨m + 1, _, by omega, by omega, by go_num, rfl⟩
              case measure => simp [intOf]; omega
            · go_wp2
              go_roundw
              case rel => exact ⟨k + 1, _, by omega, by go_num, rfl⟩
              case measure => simp [intOf]; omega
        · go_wp2
          go_ret
          exact ⟨rfl, hbel.trans (belowN _ _ _)⟩
end Go.Proofs.Qxb6602237a
