import Derived.Test.Qxb6602099aBlocks
namespace Go.Proofs.Qxb6602099a
open Go.RowKit

/-! ### plain words: n blocks from block a on -/
def runs (a : Nat) : Nat → List Int
  | 0 => []
  | n + 1 => runs a n ++ [((a + n : Nat) : Int) * 64]
theorem runs_len (a n : Nat) : (runs a n).length = n := by
  induction n with
  | zero => rfl
  | succ n ih => simp [runs, ih]

/-- every block from 16 on lies outside. -/
theorem blk_all {lo hi : Int} (h : ∀ j : Nat, 16 ≤ j → j < 1024 → ((j : Int) * 64 + 63 < lo ∨ hi < (j : Int) * 64)) : ∀ n, n ≤ 1024 → blk lo hi n = runs 16 (n - 16)
  | 0, _ => rfl
  | n + 1, hn => by
    have ih := blk_all h n (by omega)
    by_cases h16 : 16 ≤ n
    · rw [blk_hit (outB_yes h16 (h n h16 (by omega))), ih]
      obtain ⟨m, rfl⟩ : ∃ m, n = 16 + m := ⟨n - 16, by omega⟩
      rw [show 16 + m - 16 = m by omega, show 16 + m + 1 - 16 = m + 1 by omega]
      rfl
    · rw [blk_miss (outB_no1 h16), ih, show n + 1 - 16 = n - 16 by omega]

/-- the blocks below block L, then those above block H. -/
theorem blk_two {lo hi : Int} {L H : Nat} (hL : 16 ≤ L) (hLH : L ≤ H) (h : ∀ j : Nat, 16 ≤ j → j < 1024 → (((j : Int) * 64 + 63 < lo ∨ hi < (j : Int) * 64) ↔ (j < L ∨ H < j))) :
    ∀ n, n ≤ 1024 → blk lo hi n = runs 16 (min n L - 16) ++ runs (H + 1) (n - (H + 1))
  | 0, _ => by simp [blk, runs]
  | n + 1, hn => by
    have ih := blk_two hL hLH h n (by omega)
    by_cases h16 : 16 ≤ n
    · by_cases h1 : n < L
      · rw [blk_hit (outB_yes h16 ((h n h16 (by omega)).2 (.inl h1))), ih]
        rw [show n - (H + 1) = 0 by omega, show n + 1 - (H + 1) = 0 by omega, show min n L = n by omega, show min (n + 1) L = n + 1 by omega]
        obtain ⟨m, rfl⟩ : ∃ m, n = 16 + m := ⟨n - 16, by omega⟩
        rw [show 16 + m - 16 = m by omega, show 16 + m + 1 - 16 = m + 1 by omega]
        simp [runs]
      · by_cases h2 : H < n
        · rw [blk_hit (outB_yes h16 ((h n h16 (by omega)).2 (.inr h2))), ih]
          rw [show min n L = L by omega, show min (n + 1) L = L by omega]
          obtain ⟨m, rfl⟩ : ∃ m, n = H + 1 + m := ⟨n - (H + 1), by omega⟩
          rw [show H + 1 + m - (H + 1) = m by omega, show H + 1 + m + 1 - (H + 1) = m + 1 by omega]
          simp [runs]
        · have hno : ¬ ((n : Int) * 64 + 63 < lo ∨ hi < (n : Int) * 64) := fun hh => by have := (h n h16 (by omega)).1 hh; omega
          rw [blk_miss (outB_no2 (by omega) (by omega)), ih]
          rw [show min n L = L by omega, show min (n + 1) L = L by omega, show n - (H + 1) = 0 by omega, show n + 1 - (H + 1) = 0 by omega]
    · rw [blk_miss (outB_no1 h16), ih]
      rw [show min n L - 16 = 0 by omega, show min (n + 1) L - 16 = 0 by omega, show n - (H + 1) = 0 by omega, show n + 1 - (H + 1) = 0 by omega]

theorem runs_succ {a m : Nat} (h : a ≤ m) : runs a (m + 1 - a) = runs a (m - a) ++ [(m : Int) * 64] := by
  obtain ⟨k, rfl⟩ : ∃ k, m = a + k := ⟨m - a, by omega⟩
  rw [show a + k + 1 - a = k + 1 by omega, show a + k - a = k by omega]
  rfl
theorem runs_nil (a : Nat) : runs a (a - a) = [] := by rw [Nat.sub_self]; rfl
def seg (L H m : Nat) : List Int := runs 16 (L - 16) ++ runs (H + 1) (m - (H + 1))
theorem seg_start (L H : Nat) : seg L H (H + 1) = runs 16 (L - 16) := by unfold seg; rw [runs_nil, List.append_nil]
theorem seg_succ {L H m : Nat} (h : H + 1 ≤ m) : seg L H (m + 1) = seg L H m ++ [(m : Int) * 64] := by unfold seg; rw [runs_succ h, List.append_assoc]
theorem seg_len (L H m : Nat) : (seg L H m).length = L - 16 + (m - (H + 1)) := by unfold seg; rw [List.length_append, runs_len, runs_len]

set_option maxHeartbeats 4000000 in
theorem closed_all1 (lo hi : Int) (w : World) (hlh : lo ≤ hi) (h2 : hi < 1024) :
    Calls Try.prog 4 #[.int .i64 lo, .int .i64 hi] w fun e w' => e = .returned (.bool true) ∧ Below w.heap.size w w' := by
  have HB : Hid (blk lo hi 1024 = runs 16 (1024 - 16)) := blk_all (fun j a b => by omega) 1024 (Nat.le_refl _)
  have h1 : lo < 1024 := by omega
  obtain ⟨i0, hi0, hz0, hz1, hz2⟩ := info_parts Try.info3
  go_enter Try.func4, Try.ntmps4
  go_wp2_with (go_at_call 6; refine (zzblocks_any _ _ _).mono ?_; rintro e w1 ⟨v, rfl, hG, hb1⟩)
  have hsz1 := hb1.size
  have HG : Hid (Ints w1 w.heap.size v (blk lo hi 1024)) := hG
  clear hG
  go_loopw [8, 9] (fun u f wr => ∃ m : Nat, 16 ≤ m ∧ m ≤ 1024 ∧ f = .int .i64 ((m : Int) * 64) ∧ Ints wr w1.heap.size u (runs 16 (m - 16)) ∧ Below w1.heap.size w1 wr) (fun _ f _ => (65536 - intOf f).toNat)
  case atStart => exact ⟨16, by omega, by omega, rfl, by rw [runs_nil]; exact Ints.nil _ _, Below.refl _ _⟩
  case round =>
    obtain ⟨m, h16, hm, rfl, hI, hb⟩ := hrel
    have hsz := hb.size
    by_cases hlt : m < 1024
    · have hown := hI.1
      have hlen := runs_len 16 (m - 16)
      have HH : Hid (runs 16 (m + 1 - 16) = runs 16 (m - 16) ++ [(m : Int) * 64]) := runs_succ h16
      have HLn : Hid ((runs 16 (m - 16)).length ≤ 1024) := by show _ ≤ _; omega
      clear hlen
      go_wp2_with (at_builtin; refine wpList_append_own _ rfl _ _ 22 rfl w1.heap.size 3 i0 (.int .i64 0) 1 8 Try.underlying22 hi0 hz0 hz1 hz2 rfl (by decide) _ _ _ rfl (hown.alloc _) ⟨wr.heap.size, 0, none⟩ 1 1 [.int .i64 ((m : Int) * 64)] rfl rfl (one_cell _ _ _ rfl).1 (one_cell wr _ 3 rfl).2 (by have := HLn.out; unfold maxLen; omega) (by have := HLn.out; omega) (by simp; omega) ?_)
      intro v' w2 hown' hgrow hnn
      have HB' : Hid (Below w1.heap.size w1 w2) := below_append hb hsz hown hgrow
      have HI : Hid (Ints w2 w1.heap.size v' (runs 16 (m + 1 - 16))) := by show Ints _ _ _ _; rw [HH.out]; exact Ints.push hown' hnn
      clear hown' hgrow hnn hown HH hI hb HLn
      go_wp2
      go_roundw
      case rel => exact ⟨m + 1, by omega, by omega, by go_num, HI, HB'⟩
      case measure => simp [intOf]; omega
    · obtain rfl : m = 1024 := by omega
      have hG' : Ints wr w.heap.size v (runs 16 (1024 - 16)) := by rw [← HB.out]; exact HG.out.kept hb (Nat.le_refl _)
      have HBW : Hid (Below w.heap.size w wr) := hb1.trans (hb.mono hsz1)
      clear hb hb1
      go_wp2_with fail
      refine (same_any wr w.heap.size _ _ _ _ _ hG' hI (by rw [runs_len]; omega)).mono ?_
      rintro e w2 ⟨rfl, hb2⟩
      go_wp2
      go_ret
      exact ⟨rfl, HBW.out.trans hb2⟩

set_option maxHeartbeats 4000000 in
theorem closed_all2 (lo hi : Int) (w : World) (hlh : lo ≤ hi) (h1 : 65535 < lo) :
    Calls Try.prog 4 #[.int .i64 lo, .int .i64 hi] w fun e w' => e = .returned (.bool true) ∧ Below w.heap.size w w' := by
  have HB : Hid (blk lo hi 1024 = runs 16 (1024 - 16)) := blk_all (fun j a b => by omega) 1024 (Nat.le_refl _)
  have h2 : 65535 < hi := by omega
  obtain ⟨i0, hi0, hz0, hz1, hz2⟩ := info_parts Try.info3
  go_enter Try.func4, Try.ntmps4
  go_wp2_with (go_at_call 6; refine (zzblocks_any _ _ _).mono ?_; rintro e w1 ⟨v, rfl, hG, hb1⟩)
  have hsz1 := hb1.size
  have HG : Hid (Ints w1 w.heap.size v (blk lo hi 1024)) := hG
  clear hG
  go_loopw [8, 9] (fun u f wr => ∃ m : Nat, 16 ≤ m ∧ m ≤ 1024 ∧ f = .int .i64 ((m : Int) * 64) ∧ Ints wr w1.heap.size u (runs 16 (m - 16)) ∧ Below w1.heap.size w1 wr) (fun _ f _ => (65536 - intOf f).toNat)
  case atStart => exact ⟨16, by omega, by omega, rfl, by rw [runs_nil]; exact Ints.nil _ _, Below.refl _ _⟩
  case round =>
    obtain ⟨m, h16, hm, rfl, hI, hb⟩ := hrel
    have hsz := hb.size
    by_cases hlt : m < 1024
    · have hown := hI.1
      have hlen := runs_len 16 (m - 16)
      have HH : Hid (runs 16 (m + 1 - 16) = runs 16 (m - 16) ++ [(m : Int) * 64]) := runs_succ h16
      have HLn : Hid ((runs 16 (m - 16)).length ≤ 1024) := by show _ ≤ _; omega
      clear hlen
      go_wp2_with (at_builtin; refine wpList_append_own _ rfl _ _ 22 rfl w1.heap.size 3 i0 (.int .i64 0) 1 8 Try.underlying22 hi0 hz0 hz1 hz2 rfl (by decide) _ _ _ rfl (hown.alloc _) ⟨wr.heap.size, 0, none⟩ 1 1 [.int .i64 ((m : Int) * 64)] rfl rfl (one_cell _ _ _ rfl).1 (one_cell wr _ 3 rfl).2 (by have := HLn.out; unfold maxLen; omega) (by have := HLn.out; omega) (by simp; omega) ?_)
      intro v' w2 hown' hgrow hnn
      have HB' : Hid (Below w1.heap.size w1 w2) := below_append hb hsz hown hgrow
      have HI : Hid (Ints w2 w1.heap.size v' (runs 16 (m + 1 - 16))) := by show Ints _ _ _ _; rw [HH.out]; exact Ints.push hown' hnn
      clear hown' hgrow hnn hown HH hI hb HLn
      go_wp2
      go_roundw
      case rel => exact ⟨m + 1, by omega, by omega, by go_num, HI, HB'⟩
      case measure => simp [intOf]; omega
    · obtain rfl : m = 1024 := by omega
      have hG' : Ints wr w.heap.size v (runs 16 (1024 - 16)) := by rw [← HB.out]; exact HG.out.kept hb (Nat.le_refl _)
      have HBW : Hid (Below w.heap.size w wr) := hb1.trans (hb.mono hsz1)
      clear hb hb1
      go_wp2_with fail
      refine (same_any wr w.heap.size _ _ _ _ _ hG' hI (by rw [runs_len]; omega)).mono ?_
      rintro e w2 ⟨rfl, hb2⟩
      go_wp2
      go_ret
      exact ⟨rfl, HBW.out.trans hb2⟩

set_option maxHeartbeats 8000000 in
set_option maxRecDepth 100000 in
theorem closed_two1 (lo hi : Int) (w : World) (h1 : lo < 1024) (h2 : 65535 < hi) :
    Calls Try.prog 4 #[.int .i64 lo, .int .i64 hi] w fun e w' => e = .returned (.bool true) ∧ Below w.heap.size w w' := by
  obtain ⟨L, hL1, hL2⟩ : ∃ L : Nat, 16 ≤ L ∧ L ≤ 16 := ⟨16, by omega, by omega⟩
  obtain ⟨H, hH1, hH2⟩ : ∃ H : Nat, 1023 ≤ H ∧ H ≤ 1023 := ⟨1023, by omega, by omega⟩
  have HB : Hid (blk lo hi 1024 = seg L H 1024) := by
    have := blk_two (lo := lo) (hi := hi) (L := L) (H := H) (by omega) (by omega) (fun j a b => by omega) 1024 (Nat.le_refl _)
    rw [show min 1024 L = L by omega] at this
    exact this
  obtain ⟨i0, hi0, hz0, hz1, hz2⟩ := info_parts Try.info3
  go_enter Try.func4, Try.ntmps4
  go_wp2_with (go_at_call 6; refine (zzblocks_any _ _ _).mono ?_; rintro e w1 ⟨v, rfl, hG, hb1⟩)
  have hsz1 := hb1.size
  have HG : Hid (Ints w1 w.heap.size v (blk lo hi 1024)) := hG
  clear hG
  go_loopw [8, 12] (fun u f wr => ∃ m : Nat, 16 ≤ m ∧ m ≤ L ∧ f = .int .i64 ((m : Int) * 64) ∧ Ints wr w1.heap.size u (runs 16 (m - 16)) ∧ Below w1.heap.size w1 wr) (fun _ f _ => (65536 - intOf f).toNat)
  case atStart => exact ⟨16, by omega, by omega, rfl, by rw [runs_nil]; exact Ints.nil _ _, Below.refl _ _⟩
  case round =>
    obtain ⟨m, h16, hm, rfl, hI, hb⟩ := hrel
    have hsz := hb.size
    by_cases hlt : m < L
    · exact absurd hlt (by omega)
    · have hmL : L = m := Nat.le_antisymm (Nat.le_of_not_lt hlt) hm
      subst hmL
      obtain ⟨wo, rfl⟩ : ∃ wo : World, wo = wr := ⟨_, rfl⟩
      go_wp2
      go_loopw [8, 13] (fun u f wr => ∃ m : Nat, H + 1 ≤ m ∧ m ≤ 1024 ∧ f = .int .i64 ((m : Int) * 64) ∧ Ints wr w1.heap.size u (seg L H m) ∧ Below w1.heap.size w1 wr) (fun _ f _ => (65536 - intOf f).toNat)
      case atStart => exact ⟨H + 1, by omega, by omega, congrArg (Value.int .i64) (by omega), by rw [seg_start]; exact hI, hb⟩
      case round =>
        obtain ⟨m, hm1, hm2, rfl, hI2, hb2⟩ := hrel
        have hsz2 := hb2.size
        clear hI hb
        by_cases hlt2 : m < 1024
        · exact absurd hlt2 (by omega)
        · obtain rfl : m = 1024 := Nat.le_antisymm hm2 (Nat.le_of_not_lt hlt2)
          have hG' : Ints wr w.heap.size v (seg L H 1024) := by rw [← HB.out]; exact HG.out.kept hb2 (Nat.le_refl _)
          have HBW : Hid (Below w.heap.size w wr) := hb1.trans (hb2.mono hsz1)
          clear hb2 hb1
          go_wp2_with fail
          refine (same_any wr w.heap.size _ _ _ _ _ hG' hI2 (by rw [seg_len]; omega)).mono ?_
          rintro e w2 ⟨rfl, hb3⟩
          go_wp2
          go_ret
          exact ⟨rfl, HBW.out.trans hb3⟩

set_option maxHeartbeats 8000000 in
set_option maxRecDepth 100000 in
theorem closed_two2 (lo hi : Int) (w : World) (hlh : lo ≤ hi) (h1 : lo < 1024) (h2 : 1024 ≤ hi) (h3 : hi ≤ 65535) :
    Calls Try.prog 4 #[.int .i64 lo, .int .i64 hi] w fun e w' => e = .returned (.bool true) ∧ Below w.heap.size w w' := by
  obtain ⟨L, hL1, hL2⟩ : ∃ L : Nat, 16 ≤ L ∧ L ≤ 16 := ⟨16, by omega, by omega⟩
  obtain ⟨H, hH1, hH2⟩ : ∃ H : Nat, (H : Int) * 64 ≤ hi ∧ hi < (H : Int) * 64 + 64 := ⟨(hi / 64).toNat, by omega, by omega⟩
  have HB : Hid (blk lo hi 1024 = seg L H 1024) := by
    have := blk_two (lo := lo) (hi := hi) (L := L) (H := H) (by omega) (by omega) (fun j a b => by omega) 1024 (Nat.le_refl _)
    rw [show min 1024 L = L by omega] at this
    exact this
  obtain ⟨i0, hi0, hz0, hz1, hz2⟩ := info_parts Try.info3
  go_enter Try.func4, Try.ntmps4
  go_wp2_with (go_at_call 6; refine (zzblocks_any _ _ _).mono ?_; rintro e w1 ⟨v, rfl, hG, hb1⟩)
  have hsz1 := hb1.size
  have HG : Hid (Ints w1 w.heap.size v (blk lo hi 1024)) := hG
  clear hG
  go_loopw [8, 12] (fun u f wr => ∃ m : Nat, 16 ≤ m ∧ m ≤ L ∧ f = .int .i64 ((m : Int) * 64) ∧ Ints wr w1.heap.size u (runs 16 (m - 16)) ∧ Below w1.heap.size w1 wr) (fun _ f _ => (65536 - intOf f).toNat)
  case atStart => exact ⟨16, by omega, by omega, rfl, by rw [runs_nil]; exact Ints.nil _ _, Below.refl _ _⟩
  case round =>
    obtain ⟨m, h16, hm, rfl, hI, hb⟩ := hrel
    have hsz := hb.size
    by_cases hlt : m < L
    · exact absurd hlt (by omega)
    · have hmL : L = m := Nat.le_antisymm (Nat.le_of_not_lt hlt) hm
      subst hmL
      obtain ⟨wo, rfl⟩ : ∃ wo : World, wo = wr := ⟨_, rfl⟩
      go_wp2
      go_loopw [8, 13] (fun u f wr => ∃ m : Nat, H + 1 ≤ m ∧ m ≤ 1024 ∧ f = .int .i64 ((m : Int) * 64) ∧ Ints wr w1.heap.size u (seg L H m) ∧ Below w1.heap.size w1 wr) (fun _ f _ => (65536 - intOf f).toNat)
      case atStart => exact ⟨H + 1, by omega, by omega, congrArg (Value.int .i64) (by omega), by rw [seg_start]; exact hI, hb⟩
      case round =>
        obtain ⟨m, hm1, hm2, rfl, hI2, hb2⟩ := hrel
        have hsz2 := hb2.size
        clear hI hb
        by_cases hlt2 : m < 1024
        · have hown := hI2.1
          have HH : Hid (seg L H (m + 1) = seg L H m ++ [(m : Int) * 64]) := seg_succ hm1
          have HLn : Hid ((seg L H m).length ≤ 2048) := by show _ ≤ _; rw [seg_len]; omega
          go_wp2_with (at_builtin; refine wpList_append_own _ rfl _ _ 22 rfl w1.heap.size 3 i0 (.int .i64 0) 1 8 Try.underlying22 hi0 hz0 hz1 hz2 rfl (by decide) _ _ _ rfl (hown.alloc _) ⟨wr.heap.size, 0, none⟩ 1 1 [.int .i64 ((m : Int) * 64)] rfl rfl (one_cell _ _ _ rfl).1 (one_cell wr _ 3 rfl).2 (by have := HLn.out; unfold maxLen; omega) (by have := HLn.out; omega) (by simp; omega) ?_)
          intro v' w2 hown' hgrow hnn
          have HB' : Hid (Below w1.heap.size w1 w2) := below_append hb2 hsz2 hown hgrow
          have HI : Hid (Ints w2 w1.heap.size v' (seg L H (m + 1))) := by show Ints _ _ _ _; rw [HH.out]; exact Ints.push hown' hnn
          clear hown' hgrow hnn hown HH hI2 hb2 HLn
          go_wp2
          go_roundw
          case rel => exact ⟨m + 1, by omega, by omega, by go_num, HI, HB'⟩
          case measure => simp [intOf]; omega
        · obtain rfl : m = 1024 := Nat.le_antisymm hm2 (Nat.le_of_not_lt hlt2)
          have hG' : Ints wr w.heap.size v (seg L H 1024) := by rw [← HB.out]; exact HG.out.kept hb2 (Nat.le_refl _)
          have HBW : Hid (Below w.heap.size w wr) := hb1.trans (hb2.mono hsz1)
          clear hb2 hb1
          go_wp2_with fail
          refine (same_any wr w.heap.size _ _ _ _ _ hG' hI2 (by rw [seg_len]; omega)).mono ?_
          rintro e w2 ⟨rfl, hb3⟩
          go_wp2
          go_ret
          exact ⟨rfl, HBW.out.trans hb3⟩

set_option maxHeartbeats 8000000 in
set_option maxRecDepth 100000 in
theorem closed_two3 (lo hi : Int) (w : World) (hlh : lo ≤ hi) (h1 : 1024 ≤ lo) (h2 : lo ≤ 65535) (h3 : 65535 < hi) :
    Calls Try.prog 4 #[.int .i64 lo, .int .i64 hi] w fun e w' => e = .returned (.bool true) ∧ Below w.heap.size w w' := by
  obtain ⟨L, hL1, hL2⟩ : ∃ L : Nat, (L : Int) * 64 ≤ lo ∧ lo < (L : Int) * 64 + 64 := ⟨(lo / 64).toNat, by omega, by omega⟩
  obtain ⟨H, hH1, hH2⟩ : ∃ H : Nat, 1023 ≤ H ∧ H ≤ 1023 := ⟨1023, by omega, by omega⟩
  have HB : Hid (blk lo hi 1024 = seg L H 1024) := by
    have := blk_two (lo := lo) (hi := hi) (L := L) (H := H) (by omega) (by omega) (fun j a b => by omega) 1024 (Nat.le_refl _)
    rw [show min 1024 L = L by omega] at this
    exact this
  obtain ⟨i0, hi0, hz0, hz1, hz2⟩ := info_parts Try.info3
  go_enter Try.func4, Try.ntmps4
  go_wp2_with (go_at_call 6; refine (zzblocks_any _ _ _).mono ?_; rintro e w1 ⟨v, rfl, hG, hb1⟩)
  have hsz1 := hb1.size
  have HG : Hid (Ints w1 w.heap.size v (blk lo hi 1024)) := hG
  clear hG
  go_loopw [8, 12] (fun u f wr => ∃ m : Nat, 16 ≤ m ∧ m ≤ L ∧ f = .int .i64 ((m : Int) * 64) ∧ Ints wr w1.heap.size u (runs 16 (m - 16)) ∧ Below w1.heap.size w1 wr) (fun _ f _ => (65536 - intOf f).toNat)
  case atStart => exact ⟨16, by omega, by omega, rfl, by rw [runs_nil]; exact Ints.nil _ _, Below.refl _ _⟩
  case round =>
    obtain ⟨m, h16, hm, rfl, hI, hb⟩ := hrel
    have hsz := hb.size
    by_cases hlt : m < L
    · have hown := hI.1
      have HH : Hid (runs 16 (m + 1 - 16) = runs 16 (m - 16) ++ [(m : Int) * 64]) := runs_succ h16
      have HLn : Hid ((runs 16 (m - 16)).length ≤ 1024) := by show _ ≤ _; rw [runs_len]; omega
      go_wp2_with (at_builtin; refine wpList_append_own _ rfl _ _ 22 rfl w1.heap.size 3 i0 (.int .i64 0) 1 8 Try.underlying22 hi0 hz0 hz1 hz2 rfl (by decide) _ _ _ rfl (hown.alloc _) ⟨wr.heap.size, 0, none⟩ 1 1 [.int .i64 ((m : Int) * 64)] rfl rfl (one_cell _ _ _ rfl).1 (one_cell wr _ 3 rfl).2 (by have := HLn.out; unfold maxLen; omega) (by have := HLn.out; omega) (by simp; omega) ?_)
      intro v' w2 hown' hgrow hnn
      have HB' : Hid (Below w1.heap.size w1 w2) := below_append hb hsz hown hgrow
      have HI : Hid (Ints w2 w1.heap.size v' (runs 16 (m + 1 - 16))) := by show Ints _ _ _ _; rw [HH.out]; exact Ints.push hown' hnn
      clear hown' hgrow hnn hown HH hI hb HLn
      go_wp2
      go_roundw
      case rel => exact ⟨m + 1, by omega, by omega, by go_num, HI, HB'⟩
      case measure => simp [intOf]; omega
    · have hmL : L = m := Nat.le_antisymm (Nat.le_of_not_lt hlt) hm
      subst hmL
      obtain ⟨wo, rfl⟩ : ∃ wo : World, wo = wr := ⟨_, rfl⟩
      go_wp2
      go_loopw [8, 13] (fun u f wr => ∃ m : Nat, H + 1 ≤ m ∧ m ≤ 1024 ∧ f = .int .i64 ((m : Int) * 64) ∧ Ints wr w1.heap.size u (seg L H m) ∧ Below w1.heap.size w1 wr) (fun _ f _ => (65536 - intOf f).toNat)
      case atStart => exact ⟨H + 1, by omega, by omega, congrArg (Value.int .i64) (by omega), by rw [seg_start]; exact hI, hb⟩
      case round =>
        obtain ⟨m, hm1, hm2, rfl, hI2, hb2⟩ := hrel
        have hsz2 := hb2.size
        clear hI hb
        by_cases hlt2 : m < 1024
        · exact absurd hlt2 (by omega)
        · obtain rfl : m = 1024 := Nat.le_antisymm hm2 (Nat.le_of_not_lt hlt2)
          have hG' : Ints wr w.heap.size v (seg L H 1024) := by rw [← HB.out]; exact HG.out.kept hb2 (Nat.le_refl _)
          have HBW : Hid (Below w.heap.size w wr) := hb1.trans (hb2.mono hsz1)
          clear hb2 hb1
          go_wp2_with fail
          refine (same_any wr w.heap.size _ _ _ _ _ hG' hI2 (by rw [seg_len]; omega)).mono ?_
          rintro e w2 ⟨rfl, hb3⟩
          go_wp2
          go_ret
          exact ⟨rfl, HBW.out.trans hb3⟩

set_option maxHeartbeats 8000000 in
set_option maxRecDepth 100000 in
theorem closed_two4 (lo hi : Int) (w : World) (hlh : lo ≤ hi) (h1 : 1024 ≤ lo) (h3 : hi ≤ 65535) :
    Calls Try.prog 4 #[.int .i64 lo, .int .i64 hi] w fun e w' => e = .returned (.bool true) ∧ Below w.heap.size w w' := by
  obtain ⟨L, hL1, hL2⟩ : ∃ L : Nat, (L : Int) * 64 ≤ lo ∧ lo < (L : Int) * 64 + 64 := ⟨(lo / 64).toNat, by omega, by omega⟩
  obtain ⟨H, hH1, hH2⟩ : ∃ H : Nat, (H : Int) * 64 ≤ hi ∧ hi < (H : Int) * 64 + 64 := ⟨(hi / 64).toNat, by omega, by omega⟩
  have HB : Hid (blk lo hi 1024 = seg L H 1024) := by
    have := blk_two (lo := lo) (hi := hi) (L := L) (H := H) (by omega) (by omega) (fun j a b => by omega) 1024 (Nat.le_refl _)
    rw [show min 1024 L = L by omega] at this
    exact this
  obtain ⟨i0, hi0, hz0, hz1, hz2⟩ := info_parts Try.info3
  go_enter Try.func4, Try.ntmps4
  go_wp2_with (go_at_call 6; refine (zzblocks_any _ _ _).mono ?_; rintro e w1 ⟨v, rfl, hG, hb1⟩)
  have hsz1 := hb1.size
  have HG : Hid (Ints w1 w.heap.size v (blk lo hi 1024)) := hG
  clear hG
  go_loopw [8, 12] (fun u f wr => ∃ m : Nat, 16 ≤ m ∧ m ≤ L ∧ f = .int .i64 ((m : Int) * 64) ∧ Ints wr w1.heap.size u (runs 16 (m - 16)) ∧ Below w1.heap.size w1 wr) (fun _ f _ => (65536 - intOf f).toNat)
  case atStart => exact ⟨16, by omega, by omega, rfl, by rw [runs_nil]; exact Ints.nil _ _, Below.refl _ _⟩
  case round =>
    obtain ⟨m, h16, hm, rfl, hI, hb⟩ := hrel
    have hsz := hb.size
    by_cases hlt : m < L
    · have hown := hI.1
      have HH : Hid (runs 16 (m + 1 - 16) = runs 16 (m - 16) ++ [(m : Int) * 64]) := runs_succ h16
      have HLn : Hid ((runs 16 (m - 16)).length ≤ 1024) := by show _ ≤ _; rw [runs_len]; omega
      go_wp2_with (at_builtin; refine wpList_append_own _ rfl _ _ 22 rfl w1.heap.size 3 i0 (.int .i64 0) 1 8 Try.underlying22 hi0 hz0 hz1 hz2 rfl (by decide) _ _ _ rfl (hown.alloc _) ⟨wr.heap.size, 0, none⟩ 1 1 [.int .i64 ((m : Int) * 64)] rfl rfl (one_cell _ _ _ rfl).1 (one_cell wr _ 3 rfl).2 (by have := HLn.out; unfold maxLen; omega) (by have := HLn.out; omega) (by simp; omega) ?_)
      intro v' w2 hown' hgrow hnn
      have HB' : Hid (Below w1.heap.size w1 w2) := below_append hb hsz hown hgrow
      have HI : Hid (Ints w2 w1.heap.size v' (runs 16 (m + 1 - 16))) := by show Ints _ _ _ _; rw [HH.out]; exact Ints.push hown' hnn
      clear hown' hgrow hnn hown HH hI hb HLn
      go_wp2
      go_roundw
      case rel => exact ⟨m + 1, by omega, by omega, by go_num, HI, HB'⟩
      case measure => simp [intOf]; omega
    · have hmL : L = m := Nat.le_antisymm (Nat.le_of_not_lt hlt) hm
      subst hmL
      obtain ⟨wo, rfl⟩ : ∃ wo : World, wo = wr := ⟨_, rfl⟩
      go_wp2
      go_loopw [8, 13] (fun u f wr => ∃ m : Nat, H + 1 ≤ m ∧ m ≤ 1024 ∧ f = .int .i64 ((m : Int) * 64) ∧ Ints wr w1.heap.size u (seg L H m) ∧ Below w1.heap.size w1 wr) (fun _ f _ => (65536 - intOf f).toNat)
      case atStart => exact ⟨H + 1, by omega, by omega, congrArg (Value.int .i64) (by omega), by rw [seg_start]; exact hI, hb⟩
      case round =>
        obtain ⟨m, hm1, hm2, rfl, hI2, hb2⟩ := hrel
        have hsz2 := hb2.size
        clear hI hb
        by_cases hlt2 : m < 1024
        · have hown := hI2.1
          have HH : Hid (seg L H (m + 1) = seg L H m ++ [(m : Int) * 64]) := seg_succ hm1
          have HLn : Hid ((seg L H m).length ≤ 2048) := by show _ ≤ _; rw [seg_len]; omega
          go_wp2_with (at_builtin; refine wpList_append_own _ rfl _ _ 22 rfl w1.heap.size 3 i0 (.int .i64 0) 1 8 Try.underlying22 hi0 hz0 hz1 hz2 rfl (by decide) _ _ _ rfl (hown.alloc _) ⟨wr.heap.size, 0, none⟩ 1 1 [.int .i64 ((m : Int) * 64)] rfl rfl (one_cell _ _ _ rfl).1 (one_cell wr _ 3 rfl).2 (by have := HLn.out; unfold maxLen; omega) (by have := HLn.out; omega) (by simp; omega) ?_)
          intro v' w2 hown' hgrow hnn
          have HB' : Hid (Below w1.heap.size w1 w2) := below_append hb2 hsz2 hown hgrow
          have HI : Hid (Ints w2 w1.heap.size v' (seg L H (m + 1))) := by show Ints _ _ _ _; rw [HH.out]; exact Ints.push hown' hnn
          clear hown' hgrow hnn hown HH hI2 hb2 HLn
          go_wp2
          go_roundw
          case rel => exact ⟨m + 1, by omega, by omega, by go_num, HI, HB'⟩
          case measure => simp [intOf]; omega
        · obtain rfl : m = 1024 := Nat.le_antisymm hm2 (Nat.le_of_not_lt hlt2)
          have hG' : Ints wr w.heap.size v (seg L H 1024) := by rw [← HB.out]; exact HG.out.kept hb2 (Nat.le_refl _)
          have HBW : Hid (Below w.heap.size w wr) := hb1.trans (hb2.mono hsz1)
          clear hb2 hb1
          go_wp2_with fail
          refine (same_any wr w.heap.size _ _ _ _ _ hG' hI2 (by rw [seg_len]; omega)).mono ?_
          rintro e w2 ⟨rfl, hb3⟩
          go_wp2
          go_ret
          exact ⟨rfl, HBW.out.trans hb3⟩

theorem closed_walk (lo hi : Int) (w : World) : Calls Try.prog 4 #[.int .i64 lo, .int .i64 hi] w fun e w' => e = .returned (.bool true) ∧ Below w.heap.size w w' := by
  by_cases hlh : lo ≤ hi
  · by_cases h1 : lo < 1024
    · by_cases h2 : hi < 1024
      · exact closed_all1 lo hi w hlh h2
      · by_cases h3 : 65535 < hi
        · exact closed_two1 lo hi w h1 h3
        · exact closed_two2 lo hi w hlh h1 (by omega) (by omega)
    · by_cases h2 : 65535 < lo
      · exact closed_all2 lo hi w hlh h2
      · by_cases h3 : 65535 < hi
        · exact closed_two3 lo hi w hlh (by omega) (by omega) h3
        · exact closed_two4 lo hi w hlh (by omega) (by omega)
  · have h : hi < lo := by omega
    clear hlh
    go_enter Try.func4, Try.ntmps4
    go_wp2
    go_ret
    exact ⟨rfl, Below.refl _ _⟩
end Go.Proofs.Qxb6602099a
