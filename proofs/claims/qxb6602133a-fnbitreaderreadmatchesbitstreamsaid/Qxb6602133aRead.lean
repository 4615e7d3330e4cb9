import Derived.Test.Qxb6602133aRows
import Derived.Test.Qxb6602133aPlain
import Derived.WalkKit
import Derived.ProofKit
import Derived.WalkSpells
import Derived.Deep.QuietTactic
import Derived.BigQuiet
import Derived.BigRegion
import Derived.Laws.BitsAllLaws
namespace Go.Proofs.Qxb6602133a
open Go.RowKit
set_option linter.unusedVariables false

theorem and1 (x m : Nat) (hx : x < 18446744073709551616) : bits .and .u64 ((x : Int) / 2 ^ m) 1 = ((x / 2 ^ m % 2 : Nat) : Int) := by
  have h1 : ((x : Int) / 2 ^ m) = ((x / 2 ^ m : Nat) : Int) := by push_cast; rfl
  have h2 : x / 2 ^ m < 18446744073709551616 := Nat.lt_of_le_of_lt (Nat.div_le_self _ _) hx
  rw [h1]
  have := u64_and_nat (x / 2 ^ m) 1 h2 (by decide)
  rw [nat_mask1] at this
  exact this
theorem and1w (c m : Nat) (hc : c < 256) : bits .and .u64 (IntKind.u64.wrap ((c : Int) / 2 ^ m)) 1 = ((c / 2 ^ m % 2 : Nat) : Int) := by
  have h1 : ((c : Int) / 2 ^ m) = ((c / 2 ^ m : Nat) : Int) := by push_cast; rfl
  have h2 : c / 2 ^ m < 256 := Nat.lt_of_le_of_lt (Nat.div_le_self _ _) hc
  have h3 : IntKind.u64.wrap ((c : Int) / 2 ^ m) = (c : Int) / 2 ^ m := by
    rw [IntKind.wrap_u64, h1]
    generalize c / 2 ^ m = y at h2 ⊢
    omega
  rw [h3]
  exact and1 c m (by omega)
theorem ret_u64 {a b : Int} (h : a = b) : Ending.returned (.int .u64 a) = .returned (.int .u64 b) := by rw [h]

set_option maxHeartbeats 1000000 in
theorem stream_held (a0 : Option Addr) (len cap x h p : Nat) (w : World) (hx : x < 18446744073709551616) (h64 : h ≤ 64) (hp : p < h) :
    Calls Try.prog 7 #[.slice a0 len cap, .int .u64 x, .int .i64 h, .int .i64 p] w fun e w' => e = .returned (.int .u64 ((x / 2 ^ (h - 1 - p) % 2 : Nat) : Int)) ∧ w = w' := by
  have HX : Hid (x < 18446744073709551616) := hx
  have hx1 : (x : Int) ≤ 18446744073709551615 := by omega
  clear hx
  go_enter Try.func7, Try.ntmps7
  go_wp2
  go_ret
  exact ⟨ret_u64 (and1 _ _ HX.out), rfl⟩

set_option maxHeartbeats 1000000 in
theorem stream_byte (g len cap x h p c : Nat) (w : World) (hx : x < 18446744073709551616) (h64 : h ≤ 64) (hl : len ≤ 1048576) (hp : h ≤ p) (hq : (p - h) / 8 < len)
    (hc : w.cell? ⟨g, (p - h) / 8, none⟩ = some (.int .u8 c)) (hc1 : c < 256) :
    Calls Try.prog 7 #[.slice (some ⟨g, 0, none⟩) len cap, .int .u64 x, .int .i64 h, .int .i64 p] w fun e w' => e = .returned (.int .u64 ((c / 2 ^ (7 - (p - h) % 8) % 2 : Nat) : Int)) ∧ w = w' := by
  have HX : Hid (x < 18446744073709551616) := hx
  have hx1 : (x : Int) ≤ 18446744073709551615 := by omega
  clear hx
  go_enter Try.func7, Try.ntmps7
  go_wp2
  go_ret
  exact ⟨ret_u64 (and1w _ _ hc1), rfl⟩

/-- the bytes of the slice: N of them, in block g. -/
def Bytes (w : World) (g N : Nat) (z : Nat → Nat) : Prop := ∀ i, i < N → w.cell? ⟨g, i, none⟩ = some (.int .u8 (z i : Nat))
/-- the slice value that holds them. -/
def Sl (g N : Nat) (v : Value) : Prop := ∃ ao, v = .slice ao N N ∧ (0 < N → ao = some ⟨g, 0, none⟩)

theorem stream_any (g N x h p : Nat) (v : Value) (z : Nat → Nat) (w : World) (hv : Sl g N v) (hB : Bytes w g N z) (hz : ∀ i, z i < 256) (hx : x < 18446744073709551616) (h64 : h ≤ 64) (hN : N ≤ 1048576) (hp : p < h + 8 * N) :
    Calls Try.prog 7 #[v, .int .u64 x, .int .i64 h, .int .i64 p] w fun e w' => e = .returned (.int .u64 ((Bit.sb x z h p : Nat) : Int)) ∧ w = w' := by
  obtain ⟨ao, rfl, ha⟩ := hv
  unfold Bit.sb
  by_cases hlt : p < h
  · rw [if_pos hlt]
    exact stream_held ao N N x h p w hx h64 hlt
  · rw [if_neg hlt, ha (by omega)]
    exact stream_byte g N N x h p (z ((p - h) / 8)) w hx h64 hN (by omega) (by omega) (hB _ (by omega)) (hz _)

/-! ### (*bitReader).read -/
/-- the reader in block R: k of the N bytes are taken; its word is a, it holds h bits. -/
def St (w : World) (R g N a h k : Nat) : Prop := ∃ ao, (k < N → ao = some ⟨g, k, none⟩) ∧ w.heap[R]? = some (.cells #[.slice ao (N - k) (N - k), .int .u64 (a : Int), .int .i64 (h : Int)] 32 (0, 0))
def held (w : World) (R : Nat) : Int := intOf ((w.cell? ⟨R, 2, none⟩).getD undef)

theorem cell_of {w : World} {R : Nat} {cs : Array Value} {T : TypeId} {fr : Nat × Nat} (h : w.heap[R]? = some (.cells cs T fr)) (j : Nat) : w.cell? ⟨R, j, none⟩ = cs[j]? := by simp [World.cell?, h]
theorem free_of {w : World} {R : Nat} {cs : Array Value} {T : TypeId} (h : w.heap[R]? = some (.cells cs T (0, 0))) (j : Nat) : w.frozen? ⟨R, j, none⟩ = false := by simp [World.frozen?, h]

theorem heap3 {w : World} {R : Nat} {s0 x0 h0 : Value} (hbk : w.heap[R]? = some (.cells #[s0, x0, h0] 32 (0, 0))) (s x hh : Value) :
    (((w.setCell ⟨R, 1, none⟩ x).setCell ⟨R, 0, none⟩ s).setCell ⟨R, 2, none⟩ hh).heap[R]? = some (.cells #[s, x, hh] 32 (0, 0)) := by
  simp [World.setCell, Array.getElem?_modify, hbk]
theorem heap1 {w : World} {R : Nat} {s0 x0 h0 : Value} (hbk : w.heap[R]? = some (.cells #[s0, x0, h0] 32 (0, 0))) (hh : Value) :
    (w.setCell ⟨R, 2, none⟩ hh).heap[R]? = some (.cells #[s0, x0, hh] 32 (0, 0)) := by
  simp [World.setCell, Array.getElem?_modify, hbk]
theorem held_of {w : World} {R : Nat} {s x : Value} {q : Int} (h : w.heap[R]? = some (.cells #[s, x, .int .i64 q] 32 (0, 0))) : held w R = q := by
  unfold held
  rw [cell_of h]
  rfl
theorem or_byte (y zz : Nat) (hz : zz < 256) : bits .or .u64 (IntKind.u64.wrap ((y : Int) * 256)) (zz : Int) = (((y * 256 + zz) % 18446744073709551616 : Nat) : Int) := by
  have h1 : IntKind.u64.wrap ((y : Int) * 256) = ((y * 256 % 18446744073709551616 : Nat) : Int) := by rw [IntKind.wrap_u64]; omega
  rw [h1, u64_or_nat _ _ (Nat.mod_lt _ (by decide)) (by omega), nat_join 8 _ _ (by omega) (by omega)]
  omega
theorem AA_step (a : Nat) (z : Nat → Nat) (k j y zz : Nat) (hy : y = Bit.AA a z k j % 18446744073709551616) (hzz : zz = z (k + j)) : (y * 256 + zz) % 18446744073709551616 = Bit.AA a z k (j + 1) % 18446744073709551616 := by
  rw [hy, hzz]
  show _ = (Bit.AA a z k j * 256 + z (k + j)) % 18446744073709551616
  omega
theorem below3 {R : Nat} {w wr : World} (hb : Below R w wr) (x s hh : Value) : Below R w (((wr.setCell ⟨R, 1, none⟩ x).setCell ⟨R, 0, none⟩ s).setCell ⟨R, 2, none⟩ hh).drew :=
  (((hb.setCell (p := ⟨R, 1, none⟩) (Nat.le_refl R) x).setCell (p := ⟨R, 0, none⟩) (Nat.le_refl R) s).setCell (p := ⟨R, 2, none⟩) (Nat.le_refl R) hh).drew
theorem St_step {wr : World} {R g N a' h' k' m : Nat} {ao : Option Addr} {s0 x0 h0 : Value} {X Hh : Int} (hbk : wr.heap[R]? = some (.cells #[s0, x0, h0] 32 (0, 0))) (hX : X = (a' : Int)) (hH : Hh = (h' : Int)) (hm : m = N - k') (ha : k' < N → ao = some ⟨g, k', none⟩) :
    St (((wr.setCell ⟨R, 1, none⟩ (.int .u64 X)).setCell ⟨R, 0, none⟩ (.slice ao m m)).setCell ⟨R, 2, none⟩ (.int .i64 Hh)).drew R g N a' h' k' := by
  subst hX hH hm
  exact ⟨ao, ha, heap3 hbk _ _ _⟩

theorem held_less {wr : World} {R : Nat} {s0 x0 s x : Value} {q q' : Int} (hbk : wr.heap[R]? = some (.cells #[s0, x0, .int .i64 q] 32 (0, 0))) (h1 : q < q') (h2 : q < 64) :
    (64 - held (((wr.setCell ⟨R, 1, none⟩ x).setCell ⟨R, 0, none⟩ s).setCell ⟨R, 2, none⟩ (.int .i64 q')).drew R).toNat < (64 - held wr R).toNat := by
  have e1 : held (((wr.setCell ⟨R, 1, none⟩ x).setCell ⟨R, 0, none⟩ s).setCell ⟨R, 2, none⟩ (.int .i64 q')).drew R = q' := held_of (heap3 hbk s x (.int .i64 q'))
  rw [e1, held_of hbk]
  omega

theorem mask_n (y m n : Nat) (hy : y < 18446744073709551616) (hn : n ≤ 32) : bits .and .u64 ((y : Int) / 2 ^ m) (IntKind.u64.wrap (IntKind.u64.wrap (2 ^ n) - 1)) = ((y / 2 ^ m % 2 ^ n : Nat) : Int) := by
  have p1 : 2 ^ n ≤ 2 ^ 32 := Nat.pow_le_pow_right (by decide) hn
  have p0 : 0 < 2 ^ n := Nat.two_pow_pos n
  have e1 : ((2 : Int) ^ n) = ((2 ^ n : Nat) : Int) := by push_cast; rfl
  have e2 : IntKind.u64.wrap (IntKind.u64.wrap (2 ^ n) - 1) = ((2 ^ n - 1 : Nat) : Int) := by
    rw [IntKind.wrap_u64, IntKind.wrap_u64, e1]
    generalize 2 ^ n = q at p0 p1 ⊢
    omega
  have h1 : ((y : Int) / 2 ^ m) = ((y / 2 ^ m : Nat) : Int) := by push_cast; rfl
  have h2 : y / 2 ^ m < 18446744073709551616 := Nat.lt_of_le_of_lt (Nat.div_le_self _ _) hy
  rw [e2, h1, u64_and_nat _ _ h2 (by omega), Nat.and_two_pow_sub_one_eq_mod]

set_option maxHeartbeats 4000000 in
theorem read_small (R g N a h k n : Nat) (z : Nat → Nat) (w : World) (hS : St w R g N a h k) (hB : Bytes w g N z) (hz : ∀ i, z i < 256) (hg : 0 < N → g < R) (ha : a < 18446744073709551616) (h64 : h ≤ 64) (hn : n ≤ 32) (hN : N ≤ 1048576) (hk : k ≤ N) (hen : n ≤ h + 8 * (N - k)) :
    Calls Try.prog 9 #[.pointer (some ⟨R, 0, none⟩), .int .i64 n] w fun e w' => ∃ j, j = (n - h + 7) / 8 ∧ k + j ≤ N ∧ e = .returned (.int .u64 ((Bit.AA a z k j % 18446744073709551616 / 2 ^ (h + 8 * j - n) % 2 ^ n : Nat) : Int)) ∧ St w' R g N (Bit.AA a z k j % 18446744073709551616) (h + 8 * j - n) (k + j) ∧ Below R w w' := by
  have HX : Hid (a < 18446744073709551616) := ha
  clear ha
  go_enter Try.func9, Try.ntmps9
  go_wp2
  go_loopw [] (fun wr => ∃ j, k + j ≤ N ∧ (j = 0 ∨ h + 8 * j < n + 8) ∧ Hid (St wr R g N (Bit.AA a z k j % 18446744073709551616) (h + 8 * j) (k + j)) ∧ Hid (Below R w wr)) (fun wr => (64 - held wr R).toNat)
  case atStart => exact ⟨0, by omega, .inl rfl, by show St _ _ _ _ _ _ _; rw [show Bit.AA a z k 0 = a from rfl, Nat.mod_eq_of_lt HX.out]; exact hS, Below.refl _ _⟩
  case round =>
    obtain ⟨j, hkj, hj, HS, HB⟩ := hrel
    obtain ⟨ao, hao, hbk⟩ := HS.out
    have c0 : wr.cell? ⟨R, 0, none⟩ = some (.slice ao (N - (k + j)) (N - (k + j))) := by rw [cell_of hbk]; rfl
    have c1 : wr.cell? ⟨R, 1, none⟩ = some (.int .u64 ((Bit.AA a z k j % 18446744073709551616 : Nat) : Int)) := by rw [cell_of hbk]; rfl
    have c2 : wr.cell? ⟨R, 2, none⟩ = some (.int .i64 ((h + 8 * j : Nat) : Int)) := by rw [cell_of hbk]; rfl
    have f0 := free_of hbk 0
    have f1 := free_of hbk 1
    have f2 := free_of hbk 2
    by_cases hlt : h + 8 * j < n
    · have hl : k + j < N := by omega
      have ea := hao hl
      subst ea
      have cb : wr.cell? ⟨g, k + j, none⟩ = some (.int .u8 (z (k + j) : Nat)) := by rw [HB.out.cell (p := ⟨g, k + j, none⟩) (hg (by omega))]; exact hB _ hl
      have hzz := hz (k + j)
      have hY : Bit.AA a z k j % 18446744073709551616 < 18446744073709551616 := Nat.mod_lt _ (by decide)
      obtain ⟨y, hy⟩ : ∃ y, y = Bit.AA a z k j % 18446744073709551616 := ⟨_, rfl⟩
      obtain ⟨m, hm⟩ : ∃ m, N - (k + j) = m + 1 := ⟨N - (k + j) - 1, by omega⟩
      rw [hm] at c0
      rw [← hy] at c1 hY
      have HY : Hid (y = Bit.AA a z k j % 18446744073709551616) := hy
      have HM : Hid (N - (k + j) = m + 1) := hm
      have hm0 : (0 : Int) < ((m + 1 : Nat) : Int) := by omega
      have hY1 : (y : Int) ≤ 18446744073709551615 := by omega
      have hzz1 : ((z (k + j) : Nat) : Int) ≤ 255 := by omega
      obtain ⟨zz, hzq⟩ : ∃ zz, zz = z (k + j) := ⟨_, rfl⟩
      rw [← hzq] at cb hzz hzz1
      have HZ : Hid (zz = z (k + j)) := hzq
      have HBK : Hid (wr.heap[R]? = some (.cells #[.slice (some ⟨g, k + j, none⟩) (N - (k + j)) (N - (k + j)), .int .u64 ((Bit.AA a z k j % 18446744073709551616 : Nat) : Int), .int .i64 ((h + 8 * j : Nat) : Int)] 32 (0, 0))) := hbk
      clear hy hm hzq hY hao hbk hB hz HS
      by_cases hm1 : m = 0
      · subst hm1
        go_wp2
        go_region
        go_wp2
        go_roundw
        case rel => exact ⟨j + 1, by omega, .inr (by omega), St_step HBK.out (by rw [or_byte _ _ hzz, AA_step a z k j y zz HY.out HZ.out]) (by omega) (by have := HM.out; omega) (fun _ => absurd ‹_› (by have := HM.out; omega)), below3 HB.out _ _ _⟩
        case measure => exact held_less HBK.out (by omega) (by omega)
      · have hm2 : ¬ m + 1 = 1 := by omega
        go_wp2
        go_region
        go_wp2
        go_roundw
        case rel => exact ⟨j + 1, by omega, .inr (by omega), St_step HBK.out (by rw [or_byte _ _ hzz, AA_step a z k j y zz HY.out HZ.out]) (by omega) (by have := HM.out; omega) (fun _ => rfl), below3 HB.out _ _ _⟩
        case measure => exact held_less HBK.out (by omega) (by omega)
    · have hge : n ≤ h + 8 * j := by omega
      have hY : Bit.AA a z k j % 18446744073709551616 < 18446744073709551616 := Nat.mod_lt _ (by decide)
      obtain ⟨y, hy⟩ : ∃ y, y = Bit.AA a z k j % 18446744073709551616 := ⟨_, rfl⟩
      rw [← hy] at c1 hY
      have HY : Hid (y = Bit.AA a z k j % 18446744073709551616) := hy
      have hY1 : (y : Int) ≤ 18446744073709551615 := by omega
      have HYL : Hid (y < 18446744073709551616) := hY
      have HBK : Hid (wr.heap[R]? = some (.cells #[.slice ao (N - (k + j)) (N - (k + j)), .int .u64 ((Bit.AA a z k j % 18446744073709551616 : Nat) : Int), .int .i64 ((h + 8 * j : Nat) : Int)] 32 (0, 0))) := hbk
      have HAO : Hid (k + j < N → ao = some ⟨g, k + j, none⟩) := hao
      have h71 : h + 8 * j ≤ 71 := by omega
      clear hy hY hao hbk hB hz HS
      go_wp2
      go_quiet (fail)
      go_wp2
      go_ret
      refine ⟨j, by omega, hkj, ret_u64 (by rw [mask_n y (h + 8 * j - n) n HYL.out hn, HY.out]), ?_, ?_⟩
      · exact ⟨ao, HAO.out, by rw [show ((h + 8 * j - n : Nat) : Int) = (h : Int) + 8 * j - n by omega]; exact heap1 HBK.out _⟩
      · exact (HB.out.setCell (p := ⟨R, 2, none⟩) (Nat.le_refl R) _).trans ⟨rfl, rfl, rfl, Nat.le_refl _, fun _ _ => rfl⟩
end Go.Proofs.Qxb6602133a
