import Derived.Test.Qxb6602133aMain
namespace Go.Proofs.Qxb6602133a
open Go.RowKit
set_option linter.unusedVariables false

set_option maxRecDepth 100000 in
theorem out_len (a0 : Option Addr) (len cap : Nat) (X h n : Int) (w : World) (hm : len ≤ maxLen) (hl : 1048576 < len) :
    Calls Try.prog 3 #[.slice a0 len cap, .int .u64 X, .int .i64 h, .int .i64 n] w fun e w' => e = .returned (.bool true) ∧ Below w.heap.size w w' := by
  go_enter Try.func3, Try.ntmps3
  go_wp2_with (go_at_call 5; refine (bytes5_no _ _ _ _ _ _ _ hm hl).mono ?_; rintro e w' ⟨rfl, rfl⟩)
  go_ret
  exact ⟨rfl, Below.refl _ _⟩
set_option maxRecDepth 100000 in
theorem out_held (a0 : Option Addr) (len cap : Nat) (X h n : Int) (w : World) (hl : len ≤ 1048576) (hh : h < 0 ∨ 64 < h) :
    Calls Try.prog 3 #[.slice a0 len cap, .int .u64 X, .int .i64 h, .int .i64 n] w fun e w' => e = .returned (.bool true) ∧ Below w.heap.size w w' := by
  rcases hh with hh | hh
  · have d1 : decide (h < 0) = true := decide_eq_true hh
    go_enter Try.func3, Try.ntmps3
    go_wp2_with (go_at_call 5; refine (bytes5_yes _ _ _ _ _ _ _ hl).mono ?_; rintro e w' ⟨rfl, rfl⟩)
    go_ret
    exact ⟨rfl, Below.refl _ _⟩
  · have d1 : decide (h < 0) = false := decide_eq_false (by omega)
    have d2 : decide (64 < h) = true := decide_eq_true hh
    go_enter Try.func3, Try.ntmps3
    go_wp2_with (go_at_call 5; refine (bytes5_yes _ _ _ _ _ _ _ hl).mono ?_; rintro e w' ⟨rfl, rfl⟩)
    go_ret
    exact ⟨rfl, Below.refl _ _⟩
set_option maxRecDepth 100000 in
theorem out_n (a0 : Option Addr) (len cap : Nat) (X h n : Int) (w : World) (hl : len ≤ 1048576) (h0 : 0 ≤ h) (h64 : h ≤ 64) (hh : n < 0 ∨ 64 < n) :
    Calls Try.prog 3 #[.slice a0 len cap, .int .u64 X, .int .i64 h, .int .i64 n] w fun e w' => e = .returned (.bool true) ∧ Below w.heap.size w w' := by
  have c1 : decide (h < 0) = false := decide_eq_false (by omega)
  have c2 : decide (64 < h) = false := decide_eq_false (by omega)
  rcases hh with hh | hh
  · have d1 : decide (n < 0) = true := decide_eq_true hh
    go_enter Try.func3, Try.ntmps3
    go_wp2_with (go_at_call 5; refine (bytes5_yes _ _ _ _ _ _ _ hl).mono ?_; rintro e w' ⟨rfl, rfl⟩)
    go_ret
    exact ⟨rfl, Below.refl _ _⟩
  · have d1 : decide (n < 0) = false := decide_eq_false (by omega)
    have d2 : decide (64 < n) = true := decide_eq_true hh
    go_enter Try.func3, Try.ntmps3
    go_wp2_with (go_at_call 5; refine (bytes5_yes _ _ _ _ _ _ _ hl).mono ?_; rintro e w' ⟨rfl, rfl⟩)
    go_ret
    exact ⟨rfl, Below.refl _ _⟩
set_option maxRecDepth 100000 in
theorem out_few (a0 : Option Addr) (len cap : Nat) (X h n : Int) (w : World) (hl : len ≤ 1048576) (h0 : 0 ≤ h) (h64 : h ≤ 64) (n0 : 0 ≤ n) (n64 : n ≤ 64) (hh : h + 8 * (len : Int) < n) :
    Calls Try.prog 3 #[.slice a0 len cap, .int .u64 X, .int .i64 h, .int .i64 n] w fun e w' => e = .returned (.bool true) ∧ Below w.heap.size w w' := by
  have c1 : decide (h < 0) = false := decide_eq_false (by omega)
  have c2 : decide (64 < h) = false := decide_eq_false (by omega)
  have d1 : decide (n < 0) = false := decide_eq_false (by omega)
  have d2 : decide (64 < n) = false := decide_eq_false (by omega)
  go_enter Try.func3, Try.ntmps3
  go_wp2_with (go_at_call 5; refine (bytes5_yes _ _ _ _ _ _ _ hl).mono ?_; rintro e w' ⟨rfl, rfl⟩)
  go_ret
  exact ⟨rfl, Below.refl _ _⟩

theorem top_walk (a0 : Option Addr) (len cap : Nat) (zs : List Int) (X h n : Int) (w : World) (hm : len ≤ maxLen) (hlc : len ≤ cap) (hX : 0 ≤ X ∧ X ≤ 18446744073709551615)
    (hrow : (a0 = none ∧ len = 0 ∧ cap = 0) ∨ ∃ ad, a0 = some ad ∧ ∀ i, i < len → w.cell? (ad.add i) = some (.int .u8 (zs.getD i 0)) ∧ 0 ≤ zs.getD i 0 ∧ zs.getD i 0 ≤ 255) :
    Calls Try.prog 3 #[.slice a0 len cap, .int .u64 X, .int .i64 h, .int .i64 n] w fun e w' => e = .returned (.bool true) ∧ Below w.heap.size w w' := by
  by_cases hl : 1048576 < len
  · exact out_len a0 len cap X h n w hm hl
  by_cases hh : h < 0 ∨ 64 < h
  · exact out_held a0 len cap X h n w (by omega) hh
  by_cases hn : n < 0 ∨ 64 < n
  · exact out_n a0 len cap X h n w (by omega) (by omega) (by omega) hn
  by_cases hf : h + 8 * (len : Int) < n
  · exact out_few a0 len cap X h n w (by omega) (by omega) (by omega) (by omega) (by omega) hf
  obtain ⟨x, rfl⟩ := Int.eq_ofNat_of_zero_le hX.1
  obtain ⟨h', rfl⟩ := Int.eq_ofNat_of_zero_le (show 0 ≤ h by omega)
  obtain ⟨n', rfl⟩ := Int.eq_ofNat_of_zero_le (show 0 ≤ n by omega)
  rcases hrow with ⟨rfl, rfl, rfl⟩ | ⟨ad, rfl, hc⟩
  · exact main_none x h' n' w (by omega) (by omega) (by omega) (by omega)
  · refine main_some ad len cap x h' n' (fun i => if i < len then (zs.getD i 0).toNat else 0) w hlc (fun i hi => ?_) (fun i => ?_) (by omega) (by omega) (by omega) (by omega) (by omega)
    · obtain ⟨c1, c2, c3⟩ := hc i hi
      rw [c1]
      simp only [if_pos hi]
      rw [Int.toNat_of_nonneg c2]
    · show (if i < len then (zs.getD i 0).toNat else 0) < 256
      split
      · rename_i hi
        obtain ⟨c1, c2, c3⟩ := hc i hi
        omega
      · decide
end Go.Proofs.Qxb6602133a
