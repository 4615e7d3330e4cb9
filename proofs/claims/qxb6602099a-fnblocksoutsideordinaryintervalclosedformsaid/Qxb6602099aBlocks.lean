import Derived.Test.Qxb6602099aRows
import Derived.WalkKit
import Derived.ProofKit
import Derived.WalkSpells
import Derived.Deep.QuietTactic
import Derived.BigQuiet
namespace Go.Proofs.Qxb6602099a
open Go.RowKit

/-! ### plain words: block j is ports 64 * j .. 64 * j + 63 -/
def Out (lo hi : Int) (j : Nat) : Prop := 16 ≤ j ∧ ((j : Int) * 64 + 63 < lo ∨ hi < (j : Int) * 64)
def outB (lo hi : Int) (j : Nat) : Bool := decide (16 ≤ j ∧ ((j : Int) * 64 + 63 < lo ∨ hi < (j : Int) * 64))
def blk (lo hi : Int) : Nat → List Int
  | 0 => []
  | n + 1 => if outB lo hi n then blk lo hi n ++ [(n : Int) * 64] else blk lo hi n
theorem blk_hit {lo hi : Int} {n : Nat} (h : outB lo hi n = true) : blk lo hi (n + 1) = blk lo hi n ++ [(n : Int) * 64] := by simp [blk, h]
theorem blk_miss {lo hi : Int} {n : Nat} (h : outB lo hi n = false) : blk lo hi (n + 1) = blk lo hi n := by simp [blk, h]
theorem blk_len (lo hi : Int) (n : Nat) : (blk lo hi n).length ≤ n := by
  induction n with
  | zero => simp [blk]
  | succ n ih =>
    unfold blk
    split
    · simp; omega
    · omega
theorem outB_yes {lo hi : Int} {j : Nat} (h1 : 16 ≤ j) (h2 : (j : Int) * 64 + 63 < lo ∨ hi < (j : Int) * 64) : outB lo hi j = true := decide_eq_true ⟨h1, h2⟩
theorem outB_no1 {lo hi : Int} {j : Nat} (h1 : ¬ 16 ≤ j) : outB lo hi j = false := decide_eq_false (fun h => h1 h.1)
theorem outB_no2 {lo hi : Int} {j : Nat} (h2 : lo ≤ (j : Int) * 64 + 63) (h3 : (j : Int) * 64 ≤ hi) : outB lo hi j = false := decide_eq_false (fun h => by omega)

/-! ### a slice of ints of the call's own, nil where it is empty -/
def Ints (w : World) (B : Nat) (v : Value) (xs : List Int) : Prop := w.ownsRow B 3 1 v xs.length (xs.map (Value.int .i64)) ∧ (xs = [] → v = .slice none 0 0)
theorem Ints.nil (w : World) (B : Nat) : Ints w B (.slice none 0 0) [] := ⟨World.ownsRow_nil _ _ _ _, fun _ => rfl⟩
theorem Ints.base {w : World} {B B' : Nat} {v : Value} {xs : List Int} (h : Ints w B v xs) (hB : B' ≤ B) : Ints w B' v xs := by
  refine ⟨⟨h.1.1, ?_⟩, h.2⟩
  rcases h.1.2 with h2 | ⟨g, cap, cur, hv, hg, r⟩
  · exact .inl h2
  · exact .inr ⟨g, cap, cur, hv, Nat.le_trans hB hg, r⟩
/-- what lies below block C stands behind a call that keeps all below C. -/
theorem Ints.kept {w w' : World} {B C : Nat} {v : Value} {xs : List Int} (h : Ints w B v xs) (hb : Below C w w') (hC : w.heap.size ≤ C) : Ints w' B v xs := by
  refine ⟨⟨h.1.1, ?_⟩, h.2⟩
  rcases h.1.2 with h2 | ⟨g, cap, cur, hv, hg, hh, r⟩
  · exact .inl h2
  · exact .inr ⟨g, cap, cur, hv, hg, by rw [hb.block g (Nat.lt_of_lt_of_le (Array.getElem?_eq_some_iff.1 hh).1 hC)]; exact hh, r⟩
theorem below_append {B : Nat} {w0 wr w1 : World} {v : Value} {n : Nat} {xs : List Value} {o : Obj} {e : TypeId} {size : Nat} (hb : Below B w0 wr) (hB : B ≤ wr.heap.size) (hown : wr.ownsRow B e size v n xs)
    (hg : (wr.alloc o).grownBy w1 v.ownBlock) : Below B w0 w1 :=
  (hb.alloc hB o).grown hg (by simp; omega) (fun k hk => ((hown.alloc o).lt k hk).1)
theorem one_cell (w : World) (u : Value) (e : TypeId) (hu : u.oneCell' = true) : (∀ (j : Nat) (x : Value), [u][j]? = some x → (w.alloc (.cells #[u] e)).cell? ((⟨w.heap.size, 0, none⟩ : Addr).add j) = some x) ∧ ∀ x ∈ [u], x.oneCell' = true := by
  refine ⟨?_, ?_⟩
  · intro j x hj
    match j, hj with
    | 0, hj => simp at hj; subst hj; simp [Addr.add]
  · intro x hx
    simp at hx
    subst hx
    exact hu
/-- what 'append(v, x)' leaves. -/
theorem Ints.push {w1 : World} {B : Nat} {v' : Value} {xs : List Int} {x : Int} (hown : w1.ownsRow B 3 1 v' (xs.length + 1) (xs.map (Value.int .i64) ++ [.int .i64 x])) (_h : ¬ v' = .slice none 0 0) : Ints w1 B v' (xs ++ [x]) :=
  ⟨by simpa using hown, fun h => by simp at h⟩

theorem Try.info3 : (Try.prog.info? 3).map (fun i => (i.zero, i.size, i.bytes)) = some (some (.int .i64 0), 1, 8) := by kernel_rfl

set_option maxHeartbeats 1000000 in
theorem blocks_any (lo hi : Int) (w : World) :
    Calls Try.prog 8 #[.int .i64 lo, .int .i64 hi] w fun e w' => ∃ v, e = .returned v ∧ Ints w' w.heap.size v (blk lo hi 1024) ∧ Below w.heap.size w w' := by
  obtain ⟨i0, hi0, hz0, hz1, hz2⟩ := info_parts Try.info3
  go_enter Try.func8, Try.ntmps8
  go_wp2
  go_loopw [5, 6] (fun v f wr => ∃ j : Nat, j ≤ 1024 ∧ f = .int .i64 ((j : Int) * 64) ∧ Ints wr w.heap.size v (blk lo hi j) ∧ Below w.heap.size w wr) (fun _ f _ => (65536 - intOf f).toNat)
  case atStart => exact ⟨0, by omega, rfl, Ints.nil _ _, Below.refl _ _⟩
  case round =>
    obtain ⟨j, hj, rfl, hI, hb⟩ := hrel
    by_cases hlt : j < 1024
    · have hsz := hb.size
      have hlen := blk_len lo hi j
      by_cases ho : outB lo hi j = true
      · have HH : Hid (blk lo hi (j + 1) = blk lo hi j ++ [(j : Int) * 64]) := blk_hit ho
        have ho' := of_decide_eq_true ho
        clear ho
        obtain ⟨h16, hor⟩ := ho'
        have hown := hI.1
        go_wp2_with (at_builtin; refine wpList_append_own _ rfl _ _ 22 rfl w.heap.size 3 i0 (.int .i64 0) 1 8 Try.underlying22 hi0 hz0 hz1 hz2 rfl (by decide) _ _ _ rfl (hown.alloc _) ⟨wr.heap.size, 0, none⟩ 1 1 [.int .i64 ((j : Int) * 64)] rfl rfl (one_cell _ _ _ rfl).1 (one_cell wr _ 3 rfl).2 (by unfold maxLen; omega) (by omega) (by simp; omega) ?_)
        all_goals
          intro v' w1 hown' hgrow hnn
          have HB : Hid (Below w.heap.size w w1) := below_append hb hsz hown hgrow
          have HI : Hid (Ints w1 w.heap.size v' (blk lo hi (j + 1))) := by rw [HH.out]; exact Ints.push hown' hnn
          clear hown' hgrow hnn hown HH hI hb
          go_wp2
          go_roundw
          case rel => exact ⟨j + 1, by omega, by go_num, HI, HB⟩
          case measure => simp [intOf]; omega
      · have ho' : outB lo hi j = false := by simpa using ho
        have HI : Hid (Ints wr w.heap.size u5 (blk lo hi (j + 1))) := by rw [blk_miss ho']; exact hI
        have hn : ¬ (16 ≤ j ∧ ((j : Int) * 64 + 63 < lo ∨ hi < (j : Int) * 64)) := of_decide_eq_false ho'
        clear ho ho' hI
        by_cases h16 : 16 ≤ j
        · have h1 : lo ≤ (j : Int) * 64 + 63 := by omega
          have h2 : (j : Int) * 64 ≤ hi := by omega
          have d2 : decide (hi < (j : Int) * 64) = false := decide_eq_false (by omega)
          clear hn
          go_wp2
          go_roundw
          case rel => exact ⟨j + 1, by omega, by go_num, HI, hb⟩
          case measure => simp [intOf]; omega
        · clear hn
          go_wp2
          go_roundw
          case rel => exact ⟨j + 1, by omega, by go_num, HI, hb⟩
          case measure => simp [intOf]; omega
    · obtain rfl : j = 1024 := by omega
      go_wp2
      go_ret
      exact ⟨_, rfl, hI, hb⟩

theorem zzblocks_any (lo hi : Int) (w : World) :
    Calls Try.prog 6 #[.int .i64 lo, .int .i64 hi] w fun e w' => ∃ v, e = .returned v ∧ Ints w' w.heap.size v (blk lo hi 1024) ∧ Below w.heap.size w w' := by
  go_enter Try.func6, Try.ntmps6
  go_wp2_with (go_at_call 8; refine (blocks_any _ _ _).mono ?_; rintro e w' ⟨v, rfl, hI, hb⟩)
  go_ret
  exact ⟨_, rfl, hI, hb⟩

theorem belowN (B : Nat) (w : World) (n : Nat) : Below B w (w.drewN n) := ⟨rfl, rfl, rfl, Nat.le_refl _, fun _ _ => rfl⟩

/-! ### sameIntsB1 at two rows of the same ints -/
set_option maxHeartbeats 1000000 in
theorem same_nil (w : World) (B : Nat) : Calls Try.prog 7 #[.slice none 0 0, .slice none 0 0] w fun e w' => e = .returned (.bool true) ∧ Below B w w' := by
  have hnil := fun w => Lib.run_eql_slice_nil (P := Try.prog) w 22 3 none 0 0 0 0 Try.underlying22
  go_enter Try.func7, Try.ntmps7
  go_wp2
  refine wp_loop_rounds 1 ?_
  rw [rounds_succ]
  go_wp2
  go_ret
  exact ⟨rfl, Below.refl _ _⟩

set_option maxHeartbeats 1000000 in
theorem same_row (w : World) (B g1 g2 c1 c2 n : Nat) (xs : List Int) (h1 : 1 ≤ n) (hm : n ≤ 1048576)
    (hc1 : ∀ j, j < n → w.cell? ⟨g1, j, none⟩ = some (.int .i64 (xs.getD j 0))) (hc2 : ∀ j, j < n → w.cell? ⟨g2, j, none⟩ = some (.int .i64 (xs.getD j 0))) :
    Calls Try.prog 7 #[.slice (some ⟨g1, 0, none⟩) n c1, .slice (some ⟨g2, 0, none⟩) n c2] w fun e w' => e = .returned (.bool true) ∧ Below B w w' := by
  have hnil := fun w => Lib.run_eql_slice_nil (P := Try.prog) w 22 3 (some ⟨g1, 0, none⟩) n c1 0 0 Try.underlying22
  have hn0 : ((n : Int) == 0) = false := by rw [beq_eq_false_iff_ne]; omega
  go_enter Try.func7, Try.ntmps7
  go_wp2
  go_loopw [5] (fun i wr => ∃ k q : Nat, k ≤ n ∧ i = .int .i64 k ∧ wr = w.drewN q) (fun i _ => n - (intOf i).toNat)
  case atStart => exact ⟨0, 0, by omega, rfl, rfl⟩
  case round =>
    obtain ⟨k, q, hk, rfl, rfl⟩ := hrel
    by_cases hlt : k < n
    · obtain ⟨x, hx⟩ : ∃ x, x = xs.getD k 0 := ⟨_, rfl⟩
      have d1 := hc1 k hlt
      have d2 := hc2 k hlt
      rw [← hx] at d1 d2
      have hki : (k : Int) < (n : Int) := by omega
      clear hx hc1 hc2 hnil hn0
      go_wp2
      go_quiet (fail)
      go_wp2
      go_roundw
      case rel => exact ⟨k + 1, _, by omega, by go_num, rfl⟩
      case measure => simp [intOf]; omega
    · go_wp2
      go_ret
      exact ⟨rfl, belowN B w _⟩

/-- sameIntsB1 of two rows that hold the same ints: true. -/
theorem same_any (w : World) (B B1 B2 : Nat) (v1 v2 : Value) (xs : List Int) (h1 : Ints w B1 v1 xs) (h2 : Ints w B2 v2 xs) (hm : xs.length ≤ 1048576) :
    Calls Try.prog 7 #[v1, v2] w fun e w' => e = .returned (.bool true) ∧ Below B w w' := by
  by_cases h0 : xs = []
  · rw [h1.2 h0, h2.2 h0]
    exact same_nil w B
  · have hl : xs.length ≠ 0 := by simpa using h0
    rcases h1.1.2 with ⟨_, hz⟩ | ⟨g1, c1, cur1, hv1, _⟩
    · exact absurd hz hl
    rcases h2.1.2 with ⟨_, hz⟩ | ⟨g2, c2, cur2, hv2, _⟩
    · exact absurd hz hl
    have k1 := h1.1.cells (g := g1) (by rw [hv1]; rfl)
    have k2 := h2.1.cells (g := g2) (by rw [hv2]; rfl)
    rw [hv1, hv2]
    refine same_row w B g1 g2 c1 c2 xs.length xs (by omega) hm (fun j hj => ?_) (fun j hj => ?_)
    · have := k1 j (.int .i64 (xs.getD j 0)) (by simp [hj, List.getD])
      rw [Addr.add_lit, Nat.zero_add] at this
      exact this
    · have := k2 j (.int .i64 (xs.getD j 0)) (by simp [hj, List.getD])
      rw [Addr.add_lit, Nat.zero_add] at this
      exact this
end Go.Proofs.Qxb6602099a
