import Derived.Test.Qxb6602099aBlocks
namespace Go.Proofs.Qxb6602099a
open Go.RowKit

/-- what the two flags hold at port 64 * j + r, ahead of its round: nothing where a block begins. -/
def Flags (lo hi : Int) (j r : Nat) (b1 b2 : Bool) : Prop := r ≠ 0 → b1 = decide ((j : Int) * 64 + r ≤ lo) ∧ b2 = decide (hi < (j : Int) * 64)

set_option maxHeartbeats 4000000 in
theorem model_walk (lo hi : Int) (w : World) :
    Calls Try.prog 3 #[.int .i64 lo, .int .i64 hi] w fun e w' => e = .returned (.bool true) ∧ Below w.heap.size w w' := by
  obtain ⟨i0, hi0, hz0, hz1, hz2⟩ := info_parts Try.info3
  go_enter Try.func3, Try.ntmps3
  go_wp2_with (go_at_call 6; refine (zzblocks_any _ _ _).mono ?_; rintro e w1 ⟨v, rfl, hG, hb1⟩)
  have hsz1 := hb1.size
  go_loopw [6, 7, 8, 9] (fun u f1 f2 x wr => ∃ (j r : Nat) (p : Int) (b1 b2 : Bool), r < 64 ∧ (j < 1024 ∨ (j = 1024 ∧ r = 0)) ∧ p ≤ (j : Int) * 64 + r ∧ (j : Int) * 64 + r ≤ p ∧ x = .int .i64 p ∧ f1 = .bool b1 ∧ f2 = .bool b2 ∧ Hid (Flags lo hi j r b1 b2) ∧ Ints wr w1.heap.size u (blk lo hi j) ∧ Below w1.heap.size w1 wr) (fun _ _ _ x _ => (65536 - intOf x).toNat)
  case atStart => exact ⟨0, 0, 0, true, true, by omega, by omega, by omega, by omega, rfl, rfl, rfl, fun h => absurd rfl h, Ints.nil _ _, Below.refl _ _⟩
  case round =>
    obtain ⟨j, r, p, b1, b2, hr, hj, hp1, hp2, rfl, rfl, rfl, HF, hI, hb⟩ := hrel
    have hsz := hb.size
    by_cases hlt : j < 1024
    · clear hj hG hb1
      by_cases hr0 : r = 0
      · have e0 : (p % 64 == 0) = true := by rw [beq_iff_eq]; omega
        have e1 : (p % 64 == 63) = false := by rw [beq_eq_false_iff_ne]; omega
        have hr1 : r ≤ 0 := by omega
        clear hr0 HF
        rcases (show p < lo ∨ lo ≤ p by omega) with h1 | h1 <;> rcases (show hi < p ∨ p ≤ hi by omega) with h2 | h2
        · go_wp2
          go_roundw
          case rel => exact ⟨j, r + 1, p + 1, true, true, by omega, by omega, by omega, by omega, rfl, rfl, rfl, fun _ => ⟨(decide_eq_true (by omega)).symm, (decide_eq_true (by omega)).symm⟩, hI, hb⟩
          case measure => simp [intOf]; omega
        · go_wp2
          go_roundw
          case rel => exact ⟨j, r + 1, p + 1, true, false, by omega, by omega, by omega, by omega, rfl, rfl, rfl, fun _ => ⟨(decide_eq_true (by omega)).symm, (decide_eq_false (by omega)).symm⟩, hI, hb⟩
          case measure => simp [intOf]; omega
        · go_wp2
          go_roundw
          case rel => exact ⟨j, r + 1, p + 1, false, true, by omega, by omega, by omega, by omega, rfl, rfl, rfl, fun _ => ⟨(decide_eq_false (by omega)).symm, (decide_eq_true (by omega)).symm⟩, hI, hb⟩
          case measure => simp [intOf]; omega
        · go_wp2
          go_roundw
          case rel => exact ⟨j, r + 1, p + 1, false, false, by omega, by omega, by omega, by omega, rfl, rfl, rfl, fun _ => ⟨(decide_eq_false (by omega)).symm, (decide_eq_false (by omega)).symm⟩, hI, hb⟩
          case measure => simp [intOf]; omega
      · obtain ⟨hf1, hf2⟩ := HF.out hr0
        clear HF
        have e0 : (p % 64 == 0) = false := by rw [beq_eq_false_iff_ne]; omega
        by_cases hr63 : r = 63
        · have e1 : (p % 64 == 63) = true := by rw [beq_iff_eq]; omega
          have hr1 : 63 ≤ r := by omega
          clear hr63 hr0
          have hlen := blk_len lo hi j
          rcases (show p < lo ∨ lo ≤ p by omega) with h1 | h1 <;> rcases (show hi < (j : Int) * 64 ∨ ((j : Int) * 64 ≤ hi ∧ hi < p) ∨ p ≤ hi by omega) with h2 | ⟨h2, h3⟩ | h2 <;> rcases (show 16 ≤ j ∨ j < 16 by omega) with h4 | h4
          · have hf1' : b1 = true := by rw [hf1]; exact decide_eq_true (by omega)
            subst hf1'
            have hf2' : b2 = true := by rw [hf2]; exact decide_eq_true (by omega)
            subst hf2'
            clear hf1 hf2
            have HH : Hid (blk lo hi (j + 1) = blk lo hi j ++ [p - 63]) := by
              rw [show p - 63 = (j : Int) * 64 by omega]
              exact blk_hit (outB_yes h4 (by omega))
            have hown := hI.1
            go_wp2_with (at_builtin; refine wpList_append_own _ rfl _ _ 22 rfl w1.heap.size 3 i0 (.int .i64 0) 1 8 Try.underlying22 hi0 hz0 hz1 hz2 rfl (by decide) _ _ _ rfl (hown.alloc _) ⟨wr.heap.size, 0, none⟩ 1 1 [.int .i64 (p - 63)] rfl rfl (one_cell _ _ _ rfl).1 (one_cell wr _ 3 rfl).2 (by unfold maxLen; omega) (by omega) (by simp; omega) ?_)
            intro v' w2 hown' hgrow hnn
            have HB : Hid (Below w1.heap.size w1 w2) := below_append hb hsz hown hgrow
            have HI : Hid (Ints w2 w1.heap.size v' (blk lo hi (j + 1))) := by rw [HH.out]; exact Ints.push hown' hnn
            clear hown' hgrow hnn hown HH hI hb
            go_wp2
            go_roundw
            case rel => exact ⟨j + 1, 0, p + 1, _, _, by omega, by omega, by omega, by omega, rfl, rfl, rfl, fun h => absurd rfl h, HI, HB⟩
            case measure => simp [intOf]; omega
          · have hf1' : b1 = true := by rw [hf1]; exact decide_eq_true (by omega)
            subst hf1'
            have hf2' : b2 = true := by rw [hf2]; exact decide_eq_true (by omega)
            subst hf2'
            clear hf1 hf2
            have HI : Hid (Ints wr w1.heap.size u6 (blk lo hi (j + 1))) := by rw [blk_miss (outB_no1 (by omega))]; exact hI
            clear hI
            go_wp2
            go_roundw
            case rel => exact ⟨j + 1, 0, p + 1, _, _, by omega, by omega, by omega, by omega, rfl, rfl, rfl, fun h => absurd rfl h, HI, hb⟩
            case measure => simp [intOf]; omega
          · have hf1' : b1 = true := by rw [hf1]; exact decide_eq_true (by omega)
            subst hf1'
            have hf2' : b2 = false := by rw [hf2]; exact decide_eq_false (by omega)
            subst hf2'
            clear hf1 hf2
            have HH : Hid (blk lo hi (j + 1) = blk lo hi j ++ [p - 63]) := by
              rw [show p - 63 = (j : Int) * 64 by omega]
              exact blk_hit (outB_yes h4 (by omega))
            have hown := hI.1
            go_wp2_with (at_builtin; refine wpList_append_own _ rfl _ _ 22 rfl w1.heap.size 3 i0 (.int .i64 0) 1 8 Try.underlying22 hi0 hz0 hz1 hz2 rfl (by decide) _ _ _ rfl (hown.alloc _) ⟨wr.heap.size, 0, none⟩ 1 1 [.int .i64 (p - 63)] rfl rfl (one_cell _ _ _ rfl).1 (one_cell wr _ 3 rfl).2 (by unfold maxLen; omega) (by omega) (by simp; omega) ?_)
            intro v' w2 hown' hgrow hnn
            have HB : Hid (Below w1.heap.size w1 w2) := below_append hb hsz hown hgrow
            have HI : Hid (Ints w2 w1.heap.size v' (blk lo hi (j + 1))) := by rw [HH.out]; exact Ints.push hown' hnn
            clear hown' hgrow hnn hown HH hI hb
            go_wp2
            go_roundw
            case rel => exact ⟨j + 1, 0, p + 1, _, _, by omega, by omega, by omega, by omega, rfl, rfl, rfl, fun h => absurd rfl h, HI, HB⟩
            case measure => simp [intOf]; omega
          · have hf1' : b1 = true := by rw [hf1]; exact decide_eq_true (by omega)
            subst hf1'
            have hf2' : b2 = false := by rw [hf2]; exact decide_eq_false (by omega)
            subst hf2'
            clear hf1 hf2
            have HI : Hid (Ints wr w1.heap.size u6 (blk lo hi (j + 1))) := by rw [blk_miss (outB_no1 (by omega))]; exact hI
            clear hI
            go_wp2
            go_roundw
            case rel => exact ⟨j + 1, 0, p + 1, _, _, by omega, by omega, by omega, by omega, rfl, rfl, rfl, fun h => absurd rfl h, HI, hb⟩
            case measure => simp [intOf]; omega
          · have hf1' : b1 = true := by rw [hf1]; exact decide_eq_true (by omega)
            subst hf1'
            clear hf1 hf2
            have HH : Hid (blk lo hi (j + 1) = blk lo hi j ++ [p - 63]) := by
              rw [show p - 63 = (j : Int) * 64 by omega]
              exact blk_hit (outB_yes h4 (by omega))
            have hown := hI.1
            go_wp2_with (at_builtin; refine wpList_append_own _ rfl _ _ 22 rfl w1.heap.size 3 i0 (.int .i64 0) 1 8 Try.underlying22 hi0 hz0 hz1 hz2 rfl (by decide) _ _ _ rfl (hown.alloc _) ⟨wr.heap.size, 0, none⟩ 1 1 [.int .i64 (p - 63)] rfl rfl (one_cell _ _ _ rfl).1 (one_cell wr _ 3 rfl).2 (by unfold maxLen; omega) (by omega) (by simp; omega) ?_)
            intro v' w2 hown' hgrow hnn
            have HB : Hid (Below w1.heap.size w1 w2) := below_append hb hsz hown hgrow
            have HI : Hid (Ints w2 w1.heap.size v' (blk lo hi (j + 1))) := by rw [HH.out]; exact Ints.push hown' hnn
            clear hown' hgrow hnn hown HH hI hb
            go_wp2
            go_roundw
            case rel => exact ⟨j + 1, 0, p + 1, _, _, by omega, by omega, by omega, by omega, rfl, rfl, rfl, fun h => absurd rfl h, HI, HB⟩
            case measure => simp [intOf]; omega
          · have hf1' : b1 = true := by rw [hf1]; exact decide_eq_true (by omega)
            subst hf1'
            clear hf1 hf2
            have HI : Hid (Ints wr w1.heap.size u6 (blk lo hi (j + 1))) := by rw [blk_miss (outB_no1 (by omega))]; exact hI
            clear hI
            go_wp2
            go_roundw
            case rel => exact ⟨j + 1, 0, p + 1, _, _, by omega, by omega, by omega, by omega, rfl, rfl, rfl, fun h => absurd rfl h, HI, hb⟩
            case measure => simp [intOf]; omega
          · have hf2' : b2 = true := by rw [hf2]; exact decide_eq_true (by omega)
            subst hf2'
            clear hf1 hf2
            have HH : Hid (blk lo hi (j + 1) = blk lo hi j ++ [p - 63]) := by
              rw [show p - 63 = (j : Int) * 64 by omega]
              exact blk_hit (outB_yes h4 (by omega))
            have hown := hI.1
            go_wp2_with (at_builtin; refine wpList_append_own _ rfl _ _ 22 rfl w1.heap.size 3 i0 (.int .i64 0) 1 8 Try.underlying22 hi0 hz0 hz1 hz2 rfl (by decide) _ _ _ rfl (hown.alloc _) ⟨wr.heap.size, 0, none⟩ 1 1 [.int .i64 (p - 63)] rfl rfl (one_cell _ _ _ rfl).1 (one_cell wr _ 3 rfl).2 (by unfold maxLen; omega) (by omega) (by simp; omega) ?_)
            intro v' w2 hown' hgrow hnn
            have HB : Hid (Below w1.heap.size w1 w2) := below_append hb hsz hown hgrow
            have HI : Hid (Ints w2 w1.heap.size v' (blk lo hi (j + 1))) := by rw [HH.out]; exact Ints.push hown' hnn
            clear hown' hgrow hnn hown HH hI hb
            go_wp2
            go_roundw
            case rel => exact ⟨j + 1, 0, p + 1, _, _, by omega, by omega, by omega, by omega, rfl, rfl, rfl, fun h => absurd rfl h, HI, HB⟩
            case measure => simp [intOf]; omega
          · have hf2' : b2 = true := by rw [hf2]; exact decide_eq_true (by omega)
            subst hf2'
            clear hf1 hf2
            have HI : Hid (Ints wr w1.heap.size u6 (blk lo hi (j + 1))) := by rw [blk_miss (outB_no1 (by omega))]; exact hI
            clear hI
            go_wp2
            go_roundw
            case rel => exact ⟨j + 1, 0, p + 1, _, _, by omega, by omega, by omega, by omega, rfl, rfl, rfl, fun h => absurd rfl h, HI, hb⟩
            case measure => simp [intOf]; omega
          · have hf2' : b2 = false := by rw [hf2]; exact decide_eq_false (by omega)
            subst hf2'
            clear hf1 hf2
            have HI : Hid (Ints wr w1.heap.size u6 (blk lo hi (j + 1))) := by rw [blk_miss (outB_no2 (by omega) (by omega))]; exact hI
            clear hI
            go_wp2
            go_roundw
            case rel => exact ⟨j + 1, 0, p + 1, _, _, by omega, by omega, by omega, by omega, rfl, rfl, rfl, fun h => absurd rfl h, HI, hb⟩
            case measure => simp [intOf]; omega
          · have hf2' : b2 = false := by rw [hf2]; exact decide_eq_false (by omega)
            subst hf2'
            clear hf1 hf2
            have HI : Hid (Ints wr w1.heap.size u6 (blk lo hi (j + 1))) := by rw [blk_miss (outB_no1 (by omega))]; exact hI
            clear hI
            go_wp2
            go_roundw
            case rel => exact ⟨j + 1, 0, p + 1, _, _, by omega, by omega, by omega, by omega, rfl, rfl, rfl, fun h => absurd rfl h, HI, hb⟩
            case measure => simp [intOf]; omega
          · clear hf1 hf2
            have HI : Hid (Ints wr w1.heap.size u6 (blk lo hi (j + 1))) := by rw [blk_miss (outB_no2 (by omega) (by omega))]; exact hI
            clear hI
            go_wp2
            go_roundw
            case rel => exact ⟨j + 1, 0, p + 1, _, _, by omega, by omega, by omega, by omega, rfl, rfl, rfl, fun h => absurd rfl h, HI, hb⟩
            case measure => simp [intOf]; omega
          · clear hf1 hf2
            have HI : Hid (Ints wr w1.heap.size u6 (blk lo hi (j + 1))) := by rw [blk_miss (outB_no1 (by omega))]; exact hI
            clear hI
            go_wp2
            go_roundw
            case rel => exact ⟨j + 1, 0, p + 1, _, _, by omega, by omega, by omega, by omega, rfl, rfl, rfl, fun h => absurd rfl h, HI, hb⟩
            case measure => simp [intOf]; omega
        · have e1 : (p % 64 == 63) = false := by rw [beq_eq_false_iff_ne]; omega
          have hr1 : r < 63 := by omega
          clear hr63
          rcases (show p < lo ∨ lo ≤ p by omega) with h1 | h1 <;> rcases (show hi < (j : Int) * 64 ∨ ((j : Int) * 64 ≤ hi ∧ hi < p) ∨ p ≤ hi by omega) with h2 | ⟨h2, h3⟩ | h2
          · have hf1' : b1 = true := by rw [hf1]; exact decide_eq_true (by omega)
            subst hf1'
            have hf2' : b2 = true := by rw [hf2]; exact decide_eq_true (by omega)
            subst hf2'
            clear hf1 hf2
            clear hr0
            go_wp2
            go_roundw
            case rel => exact ⟨j, r + 1, p + 1, true, true, by omega, by omega, by omega, by omega, rfl, rfl, rfl, fun _ => ⟨(decide_eq_true (by omega)).symm, (decide_eq_true (by omega)).symm⟩, hI, hb⟩
            case measure => simp [intOf]; omega
          · have hf1' : b1 = true := by rw [hf1]; exact decide_eq_true (by omega)
            subst hf1'
            have hf2' : b2 = false := by rw [hf2]; exact decide_eq_false (by omega)
            subst hf2'
            clear hf1 hf2
            clear hr0
            go_wp2
            go_roundw
            case rel => exact ⟨j, r + 1, p + 1, true, false, by omega, by omega, by omega, by omega, rfl, rfl, rfl, fun _ => ⟨(decide_eq_true (by omega)).symm, (decide_eq_false (by omega)).symm⟩, hI, hb⟩
            case measure => simp [intOf]; omega
          · have hf1' : b1 = true := by rw [hf1]; exact decide_eq_true (by omega)
            subst hf1'
            clear hf1 hf2
            clear hr0
            go_wp2
            go_roundw
            case rel => exact ⟨j, r + 1, p + 1, true, false, by omega, by omega, by omega, by omega, rfl, rfl, rfl, fun _ => ⟨(decide_eq_true (by omega)).symm, (decide_eq_false (by omega)).symm⟩, hI, hb⟩
            case measure => simp [intOf]; omega
          · have hf2' : b2 = true := by rw [hf2]; exact decide_eq_true (by omega)
            subst hf2'
            clear hf1 hf2
            clear hr0
            go_wp2
            go_roundw
            case rel => exact ⟨j, r + 1, p + 1, false, true, by omega, by omega, by omega, by omega, rfl, rfl, rfl, fun _ => ⟨(decide_eq_false (by omega)).symm, (decide_eq_true (by omega)).symm⟩, hI, hb⟩
            case measure => simp [intOf]; omega
          · have hf2' : b2 = false := by rw [hf2]; exact decide_eq_false (by omega)
            subst hf2'
            clear hf1 hf2
            clear hr0
            go_wp2
            go_roundw
            case rel => exact ⟨j, r + 1, p + 1, false, false, by omega, by omega, by omega, by omega, rfl, rfl, rfl, fun _ => ⟨(decide_eq_false (by omega)).symm, (decide_eq_false (by omega)).symm⟩, hI, hb⟩
            case measure => simp [intOf]; omega
          · clear hf1 hf2
            clear hr0
            go_wp2
            go_roundw
            case rel => exact ⟨j, r + 1, p + 1, false, false, by omega, by omega, by omega, by omega, rfl, rfl, rfl, fun _ => ⟨(decide_eq_false (by omega)).symm, (decide_eq_false (by omega)).symm⟩, hI, hb⟩
            case measure => simp [intOf]; omega
    · have hj' : j = 1024 ∧ r = 0 := by omega
      obtain ⟨rfl, rfl⟩ := hj'
      have hp : (65535 : Int) < p := by omega
      have hG' : Ints wr w.heap.size v (blk lo hi 1024) := hG.kept hb (Nat.le_refl _)
      have HB : Hid (Below w.heap.size w wr) := hb1.trans (hb.mono hsz1)
      have hl := blk_len lo hi 1024
      clear hG HF hj hb hb1
      go_wp2_with fail
      refine (same_any wr w.heap.size _ _ _ _ (blk lo hi 1024) hG' hI (by omega)).mono ?_
      rintro e w2 ⟨rfl, hb2⟩
      go_wp2
      go_ret
      exact ⟨rfl, HB.out.trans hb2⟩
end Go.Proofs.Qxb6602099a
