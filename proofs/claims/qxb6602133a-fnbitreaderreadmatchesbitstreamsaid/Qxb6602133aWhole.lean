import Derived.Test.Qxb6602133aRead
namespace Go.Proofs.Qxb6602133a
open Go.RowKit
set_option linter.unusedVariables false

theorem or_high (u v : Nat) (hu : u < 4294967296) (hv : v < 4294967296) : bits .or .u64 (IntKind.u64.wrap ((u : Int) * 4294967296)) (v : Int) = ((u * 4294967296 + v : Nat) : Int) := by
  have h1 : IntKind.u64.wrap ((u : Int) * 4294967296) = ((u * 4294967296 : Nat) : Int) := by rw [IntKind.wrap_u64]; omega
  rw [h1, u64_or_nat _ _ (by omega) (by omega), nat_join 32 _ _ (by omega) (by omega)]

theorem int32 : ((32 : Nat) : Int) = 32 := rfl
theorem read_32 (R g N a h k : Nat) (z : Nat → Nat) (w : World) (hS : St w R g N a h k) (hB : Bytes w g N z) (hz : ∀ i, z i < 256) (hg : 0 < N → g < R) (ha : a < 18446744073709551616) (h64 : h ≤ 64) (hN : N ≤ 1048576) (hk : k ≤ N) (hen : 32 ≤ h + 8 * (N - k)) :
    Calls Try.prog 9 #[.pointer (some ⟨R, 0, none⟩), .int .i64 32] w fun e w' => ∃ j v, j = (32 - h + 7) / 8 ∧ k + j ≤ N ∧ v = Bit.AA a z k j % 18446744073709551616 / 2 ^ (h + 8 * j - 32) % 2 ^ 32 ∧ e = .returned (.int .u64 (v : Nat)) ∧ St w' R g N (Bit.AA a z k j % 18446744073709551616) (h + 8 * j - 32) (k + j) ∧ Below R w w' := by
  have := read_small R g N a h k 32 z w hS hB hz hg ha h64 (Nat.le_refl _) hN hk hen
  rw [int32] at this
  refine this.mono ?_
  rintro e w' ⟨j, h1, h2, h3, h4, h5⟩
  exact ⟨j, _, h1, h2, rfl, h3, h4, h5⟩

theorem two_value (a : Nat) (z : Nat → Nat) (hz : ∀ i, z i < 256) (h k m j1 j2 v1 v2 : Nat) (h64 : h ≤ 64) (hm : m ≤ 32) (hm1 : 1 ≤ m) (e1 : j1 = (m - h + 7) / 8) (e2 : j2 = (32 - (h + 8 * j1 - m) + 7) / 8)
    (ev1 : v1 = Bit.AA a z k j1 % 18446744073709551616 / 2 ^ (h + 8 * j1 - m) % 2 ^ m)
    (ev2 : v2 = Bit.AA (Bit.AA a z k j1 % 18446744073709551616) z (k + j1) j2 % 18446744073709551616 / 2 ^ (h + 8 * j1 - m + 8 * j2 - 32) % 2 ^ 32) :
    v1 < 4294967296 ∧ v2 < 4294967296 ∧ v1 * 4294967296 + v2 = Bit.AA a z k (j1 + j2) / 2 ^ (h + 8 * (j1 + j2) - (m + 32)) % 2 ^ (m + 32) := by
  have r1 := Bit.reg (Bit.AA a z k j1) (h + 8 * j1 - m) m (by omega)
  have am := Bit.AA_mod (Bit.AA a z k j1) z (k + j1) 18446744073709551616 j2
  rw [am, ← Bit.AA_add] at ev2
  have r2 := Bit.reg (Bit.AA a z k (j1 + j2)) (h + 8 * j1 - m + 8 * j2 - 32) 32 (by omega)
  have hx : h + 8 * j1 - m + 8 * j2 - 32 = h + 8 * (j1 + j2) - (m + 32) := by omega
  have t2 := Bit.two_reads (Bit.AA a z k (j1 + j2)) (Bit.AA a z k j1) (m + 32) (h + 8 * j1 - m) (h + 8 * (j1 + j2) - (m + 32)) j2 (by omega) (Bit.AA_div a z hz k j1 j2) (by omega)
  rw [show m + 32 - 32 = m by omega] at t2
  have b1 : v1 < 2 ^ m := by rw [ev1]; exact Nat.mod_lt _ (Nat.two_pow_pos m)
  have b2 : 2 ^ m ≤ 2 ^ 32 := Nat.pow_le_pow_right (by decide) hm
  have b3 : v2 < 2 ^ 32 := by rw [ev2]; exact Nat.mod_lt _ (Nat.two_pow_pos 32)
  refine ⟨by omega, by omega, ?_⟩
  rw [← t2, ev1, ev2, ← hx]
  have r1' : Bit.AA a z k j1 % 18446744073709551616 / 2 ^ (h + 8 * j1 - m) % 2 ^ m = Bit.AA a z k j1 / 2 ^ (h + 8 * j1 - m) % 2 ^ m := r1
  have r2' : Bit.AA a z k (j1 + j2) % 18446744073709551616 / 2 ^ (h + 8 * j1 - m + 8 * j2 - 32) % 2 ^ 32 = Bit.AA a z k (j1 + j2) / 2 ^ (h + 8 * j1 - m + 8 * j2 - 32) % 2 ^ 32 := r2
  rw [r1', r2']

set_option maxHeartbeats 1000000 in
theorem read_any (R g N a h k n : Nat) (z : Nat → Nat) (w : World) (hS : St w R g N a h k) (hB : Bytes w g N z) (hz : ∀ i, z i < 256) (hg : 0 < N → g < R) (ha : a < 18446744073709551616) (h64 : h ≤ 64) (hn : n ≤ 64) (hN : N ≤ 1048576) (hk : k ≤ N) (hen : n ≤ h + 8 * (N - k)) :
    Calls Try.prog 9 #[.pointer (some ⟨R, 0, none⟩), .int .i64 n] w fun e w' => ∃ j, j = (n - h + 7) / 8 ∧ k + j ≤ N ∧ e = .returned (.int .u64 ((Bit.AA a z k j / 2 ^ (h + 8 * j - n) % 2 ^ n : Nat) : Int)) ∧ St w' R g N (Bit.AA a z k j % 18446744073709551616) (h + 8 * j - n) (k + j) ∧ Below R w w' := by
  by_cases h32 : n ≤ 32
  · refine (read_small R g N a h k n z w hS hB hz hg ha h64 h32 hN hk hen).mono ?_
    rintro e w' ⟨j, hj, hkj, rfl, hS', hb⟩
    refine ⟨j, hj, hkj, ?_, hS', hb⟩
    exact ret_u64 (congrArg Nat.cast (Bit.reg _ _ _ (by omega)))
  · obtain ⟨m, rfl⟩ : ∃ m, n = m + 32 := ⟨n - 32, by omega⟩
    have hm : m ≤ 32 := by omega
    have hm1 : 1 ≤ m := by omega
    have HS : Hid (St w R g N a h k) := hS
    have HB : Hid (Bytes w g N z) := hB
    have HZ : Hid (∀ i, z i < 256) := hz
    have HA : Hid (a < 18446744073709551616) := ha
    clear hS hB hz ha h32
    go_enter Try.func9, Try.ntmps9
    go_wp2_with fail
    refine (read_small R g N a h k m z w HS.out HB.out HZ.out hg HA.out h64 hm hN hk (by omega)).mono ?_
    rintro e w1 ⟨j1, hj1, hkj1, rfl, hS1, hb1⟩
    obtain ⟨v1, ev1⟩ : ∃ v1, v1 = Bit.AA a z k j1 % 18446744073709551616 / 2 ^ (h + 8 * j1 - m) % 2 ^ m := ⟨_, rfl⟩
    rw [← ev1]
    have HE1 : Hid (v1 = Bit.AA a z k j1 % 18446744073709551616 / 2 ^ (h + 8 * j1 - m) % 2 ^ m) := ev1
    have HJ1 : Hid (j1 = (m - h + 7) / 8) := hj1
    have HS1 : Hid (St w1 R g N (Bit.AA a z k j1 % 18446744073709551616) (h + 8 * j1 - m) (k + j1)) := hS1
    have HB1 : Hid (Below R w w1) := hb1
    have HBy1 : Hid (Bytes w1 g N z) := fun i hi => by rw [hb1.cell (p := ⟨g, i, none⟩) (hg (by omega))]; exact HB.out i hi
    have q1 : h + 8 * j1 - m ≤ 64 := by omega
    have q2 : 32 ≤ h + 8 * j1 - m + 8 * (N - (k + j1)) := by omega
    clear ev1 hj1 hS1 hb1
    go_wp2_with fail
    refine (read_32 R g N _ (h + 8 * j1 - m) (k + j1) z w1 HS1.out HBy1.out HZ.out hg (Nat.mod_lt _ (by decide)) q1 hN hkj1 q2).mono ?_
    rintro e w2 ⟨j2, v2, hj2, hkj2, ev2, rfl, hS2, hb2⟩
    obtain ⟨t1, t2, t3⟩ := two_value a z HZ.out h k m j1 j2 v1 v2 h64 hm hm1 HJ1.out hj2 HE1.out ev2
    have HT : Hid (v1 * 4294967296 + v2 = Bit.AA a z k (j1 + j2) / 2 ^ (h + 8 * (j1 + j2) - (m + 32)) % 2 ^ (m + 32)) := t3
    have HB2 : Hid (Below R w w2) := HB1.out.trans hb2
    have HJ : Hid (j1 + j2 = (m + 32 - h + 7) / 8) := by have := HJ1.out; show _ = _; omega
    have HS2 : Hid (St w2 R g N (Bit.AA a z k (j1 + j2) % 18446744073709551616) (h + 8 * (j1 + j2) - (m + 32)) (k + (j1 + j2))) := by
      have am := Bit.AA_mod (Bit.AA a z k j1) z (k + j1) 18446744073709551616 j2
      rw [am, ← Bit.AA_add, show h + 8 * j1 - m + 8 * j2 - 32 = h + 8 * (j1 + j2) - (m + 32) by have := HJ1.out; omega, Nat.add_assoc] at hS2
      exact hS2
    have HT1 : Hid (v1 < 4294967296) := t1
    have HT2 : Hid (v2 < 4294967296) := t2
    clear t1 t2 t3 hb2 hS2 ev2 hj2
    go_wp2
    go_ret
    exact ⟨j1 + j2, HJ.out, by omega, ret_u64 (by rw [or_high _ _ HT1.out HT2.out, HT.out]), HS2.out, HB2.out⟩
end Go.Proofs.Qxb6602133a
namespace Go.Proofs.Qxb6602133a
open Go.RowKit
set_option linter.unusedVariables false

set_option maxHeartbeats 1000000 in
theorem zzread_any (g N x h n : Nat) (v : Value) (z : Nat → Nat) (w : World) (hv : Sl g N v) (hB : Bytes w g N z) (hz : ∀ i, z i < 256) (hg : 0 < N → g < w.heap.size) (hx : x < 18446744073709551616) (h64 : h ≤ 64) (hn : n ≤ 64) (hN : N ≤ 1048576) (hen : n ≤ h + 8 * N) :
    Calls Try.prog 6 #[v, .int .u64 x, .int .i64 h, .int .i64 n] w fun e w' => ∃ (j v1 y q : Nat) (u : Option Addr), j = (n - h + 7) / 8 ∧ j ≤ N ∧ (j < N → u = some ⟨g, j, none⟩) ∧ v1 = Bit.AA x z 0 j / 2 ^ (h + 8 * j - n) % 2 ^ n ∧ y = Bit.AA x z 0 j % 18446744073709551616 ∧ q = h + 8 * j - n ∧ e = .returned (.tuple #[.int .u64 (v1 : Int), .slice u (N - j) (N - j), .int .u64 (y : Int), .int .i64 (q : Int)]) ∧ Below w.heap.size w w' := by
  obtain ⟨ao, rfl, hao⟩ := hv
  have HS : Hid (St (w.alloc (.cells #[.slice ao N N, .int .u64 (x : Int), .int .i64 (h : Int)] 32)) w.heap.size g N x h 0) := ⟨ao, hao, heap_alloc_new w _⟩
  have HB : Hid (Bytes (w.alloc (.cells #[.slice ao N N, .int .u64 (x : Int), .int .i64 (h : Int)] 32)) g N z) := fun i hi => by
    rw [World.cell?_of_block (w := w) (a := ⟨g, i, none⟩) (Below.heap_alloc w _ g (hg (by omega)))]
    exact hB i hi
  have HZ : Hid (∀ i, z i < 256) := hz
  have HX : Hid (x < 18446744073709551616) := hx
  clear hao hB hz hx
  go_enter Try.func6, Try.ntmps6
  go_wp2_with fail
  refine (read_any w.heap.size g N x h 0 n z _ HS.out HB.out HZ.out hg HX.out h64 hn hN (Nat.zero_le _) hen).mono ?_
  rintro e w1 ⟨j, hj, hkj, rfl, hS1, hb1⟩
  rw [Nat.zero_add] at hS1 hkj
  obtain ⟨ao1, ha1, hbk⟩ := hS1
  have c0 : w1.cell? ⟨w.heap.size, 0, none⟩ = some (.slice ao1 (N - j) (N - j)) := by rw [cell_of hbk]; rfl
  have c1 : w1.cell? ⟨w.heap.size, 1, none⟩ = some (.int .u64 ((Bit.AA x z 0 j % 18446744073709551616 : Nat) : Int)) := by rw [cell_of hbk]; rfl
  have c2 : w1.cell? ⟨w.heap.size, 2, none⟩ = some (.int .i64 ((h + 8 * j - n : Nat) : Int)) := by rw [cell_of hbk]; rfl
  obtain ⟨y, hy⟩ : ∃ y, y = Bit.AA x z 0 j % 18446744073709551616 := ⟨_, rfl⟩
  obtain ⟨q, hq⟩ : ∃ q, q = h + 8 * j - n := ⟨_, rfl⟩
  obtain ⟨v1, hv1⟩ : ∃ v1, v1 = Bit.AA x z 0 j / 2 ^ (h + 8 * j - n) % 2 ^ n := ⟨_, rfl⟩
  rw [← hv1]
  rw [← hy] at c1
  rw [← hq] at c2
  have HY : Hid (y = Bit.AA x z 0 j % 18446744073709551616) := hy
  have HQ : Hid (q = h + 8 * j - n) := hq
  have HV : Hid (v1 = Bit.AA x z 0 j / 2 ^ (h + 8 * j - n) % 2 ^ n) := hv1
  have HJ : Hid (j = (n - h + 7) / 8) := hj
  have HA : Hid (j < N → ao1 = some ⟨g, j, none⟩) := ha1
  have HB1 : Hid (Below w.heap.size w w1) := ((Below.refl _ w).alloc (Nat.le_refl _) _).trans hb1
  clear hy hq hv1 hj ha1 hb1 hbk HS HB
  go_wp2
  go_quiet (fail)
  go_wp2
  refine bodyPost_ret (v := .tuple #[.int .u64 (v1 : Int), .slice ao1 (N - j) (N - j), .int .u64 (y : Int), .int .i64 (q : Int)]) (by simp [results, Try.results6, go_sem]) rfl ?_
  exact ⟨j, v1, y, q, ao1, HJ.out, hkj, HA.out, HV.out, HY.out, HQ.out, rfl, HB1.out.trans ⟨rfl, rfl, rfl, Nat.le_refl _, fun _ _ => rfl⟩⟩
end Go.Proofs.Qxb6602133a
