import Derived.Test.Qxb6602133aWhole
import Derived.Laws.CopyOwn
namespace Go.Proofs.Qxb6602133a
open Go.RowKit
set_option linter.unusedVariables false

theorem Try.info5 : (Try.prog.info? 5).map (fun i => (i.zero, i.size, i.bytes)) = some (some (.int .u8 0), 1, 1) := by kernel_rfl
theorem Try.size5 : (Try.prog.info? 5).map (·.size) = some 1 := by kernel_rfl

theorem bytes5_yes (a0 : Option Addr) (len cap : Nat) (X h n : Int) (w : World) (hl : len ≤ 1048576) : Calls Try.prog 5 #[.slice a0 len cap, .int .u64 X, .int .i64 h, .int .i64 n] w fun e w' => e = .returned (.bool true) ∧ w = w' := by
  go_enter Try.func5, Try.ntmps5
  go_wp2
  go_ret
  exact ⟨rfl, rfl⟩
theorem bytes5_no (a0 : Option Addr) (len cap : Nat) (X h n : Int) (w : World) (hm : len ≤ maxLen) (hl : 1048576 < len) : Calls Try.prog 5 #[.slice a0 len cap, .int .u64 X, .int .i64 h, .int .i64 n] w fun e w' => e = .returned (.bool false) ∧ w = w' := by
  unfold maxLen at hm
  go_enter Try.func5, Try.ntmps5
  go_wp2
  go_ret
  exact ⟨rfl, rfl⟩

theorem or_bit (t b : Nat) (hb : b < 2) : bits .or .u64 (IntKind.u64.wrap ((t : Int) * 2)) (b : Int) = (((t * 2 + b) % 18446744073709551616 : Nat) : Int) := by
  have h1 : IntKind.u64.wrap ((t : Int) * 2) = ((t * 2 % 18446744073709551616 : Nat) : Int) := by rw [IntKind.wrap_u64]; omega
  rw [h1, u64_or_nat _ _ (Nat.mod_lt _ (by decide)) (by omega), nat_join 1 _ _ (by omega) (by omega)]
  omega
theorem w_step (T s p t b : Nat) (ht : t = Bit.W T s p) (hb : b = T / 2 ^ (s - 1 - p) % 2) (hp : p < s) (h64 : p + 1 ≤ 64) : bits .or .u64 (IntKind.u64.wrap ((t : Int) * 2)) (b : Int) = ((Bit.W T s (p + 1) : Nat) : Int) := by
  have hb2 : b < 2 := by rw [hb]; exact Nat.mod_lt _ (by decide)
  have h1 := Bit.W_lt T s (p + 1)
  have h2 : 2 ^ (p + 1) ≤ 2 ^ 64 := Nat.pow_le_pow_right (by decide) h64
  rw [or_bit t b hb2, Bit.W_succ T s p hp, ← ht, ← hb]
  rw [Bit.W_succ T s p hp, ← ht, ← hb] at h1
  congr 1
  exact Nat.mod_eq_of_lt (Nat.lt_of_lt_of_le h1 h2)
theorem y_step (T k q t b : Nat) (ht : t = Bit.Y T k q) (hb : b = T / 2 ^ (8 * k - 1 - q) % 2) (hq : q < 8 * k) : bits .or .u64 (IntKind.u64.wrap ((t : Int) * 2)) (b : Int) = ((Bit.Y T k (q + 1) : Nat) : Int) := by
  have hb2 : b < 2 := by rw [hb]; exact Nat.mod_lt _ (by decide)
  rw [or_bit t b hb2, Bit.Y_succ T k q hq, ← ht, ← hb]
theorem stream_var (g N x h p : Nat) (v : Value) (z : Nat → Nat) (w : World) (hv : Sl g N v) (hB : Bytes w g N z) (hz : ∀ i, z i < 256) (hx : x < 18446744073709551616) (h64 : h ≤ 64) (hN : N ≤ 1048576) (hp : p < h + 8 * N) :
    Calls Try.prog 7 #[v, .int .u64 x, .int .i64 h, .int .i64 p] w fun e w' => ∃ b : Nat, b = Bit.sb x z h p ∧ e = .returned (.int .u64 (b : Int)) ∧ w = w' :=
  (stream_any g N x h p v z w hv hB hz hx h64 hN hp).mono (by rintro e w' ⟨rfl, rfl⟩; exact ⟨_, rfl, rfl, rfl⟩)

theorem byte_bit (x : Nat) (z : Nat → Nat) (hz : ∀ i, z i < 256) (j s : Nat) (hs : s < 8 * j) : z (s / 8) / 2 ^ (7 - s % 8) % 2 = Bit.AA x z 0 j / 2 ^ (8 * j - 1 - s) % 2 := by
  have h := Bit.sb_bit x z hz 0 s j (by omega)
  unfold Bit.sb at h
  rw [if_neg (by omega), Nat.sub_zero, Nat.zero_add] at h
  exact h
theorem last_bit (T y q m b : Nat) (hy : y = T % 18446744073709551616) (hm : m < q) (hq : q ≤ 64) (hb : b = T / 2 ^ (q - 1 - m) % 2) : (bits .and .u64 ((y : Int) / 2 ^ (q - 1 - m)) 1 != (b : Int)) = false := by
  rw [bne_eq_false_iff_eq, and1 y (q - 1 - m) (by rw [hy]; exact Nat.mod_lt _ (by decide)), hb, hy]
  have r := Bit.reg T (q - 1 - m) 1 (by omega)
  rw [show (2 : Nat) ^ 1 = 2 from rfl] at r
  exact congrArg Nat.cast r
def zcells (z : Nat → Nat) (N : Nat) : List Value := (List.range N).map fun i => Value.int .u8 (z i : Nat)
theorem zcells_len (z : Nat → Nat) (N : Nat) : (zcells z N).length = N := by simp [zcells]
theorem zcells_at (z : Nat → Nat) (N j : Nat) (h : j < N) : (zcells z N)[j]? = some (.int .u8 (z j : Nat)) := by simp [zcells, h]

theorem copy_all (w2 : World) (ad : Addr) (g N cap : Nat) (z : Nat → Nat) (cur : Array Value) (hg : w2.heap[g]? = some (.cells cur 5 (0, 0))) (hs : cur.size = N) (hc : ∀ i, i < N → w2.cell? (ad.add i) = some (.int .u8 (z i : Nat))) :
    ∃ w3, (Builtin.copy_ #[22, 22] 3 #[.slice (some ⟨g, 0, none⟩) N N, .slice (some ad) N cap]).run Try.prog w2 = .ok (goInt N) w3 ∧ Bytes w3 g N z ∧ Below g w2 w3 ∧ w3.heap.size = w2.heap.size := by
  have hl := zcells_len z N
  have hr := run_copy_row (P := Try.prog) w2 22 22 3 5 g 0 N N ad N cap cur 5 (zcells z N) Try.underlying22 Try.size5 hg (by rw [hl]; simp) (fun j v hj => by
      have hj' : j < N := by have := (List.getElem?_eq_some_iff.1 hj).1; rw [hl] at this; exact this
      rw [zcells_at z N j hj'] at hj
      cases hj
      exact hc j hj') (by rw [hl, hs]; omega) (fun v hv => by
      simp only [zcells, List.mem_map] at hv
      obtain ⟨i, _, rfl⟩ := hv
      rfl)
  rw [hl] at hr
  refine ⟨_, hr, ?_, ?_, by simp⟩
  · intro i hi
    have hh := setRow_heap w2 g cur (cur.toList.take 0 ++ zcells z N ++ cur.toList.drop (0 + N)).toArray 5 (0, 0) hg
    rw [cell_of hh]
    have := zcells_at z N i hi
    simp only [List.getElem?_toArray, List.take_zero, List.nil_append]
    rw [List.getElem?_append_left (by rw [hl]; exact hi)]
    exact this
  · exact ⟨rfl, rfl, rfl, by simp, fun k hk => setRow_other w2 g k _ (by omega)⟩

set_option maxHeartbeats 4000000 in
set_option maxRecDepth 100000 in
theorem main_some (ad : Addr) (N cap x h n : Nat) (z : Nat → Nat) (w : World) (hNc : N ≤ cap) (hcell : ∀ i, i < N → w.cell? (ad.add i) = some (.int .u8 (z i : Nat))) (hz : ∀ i, z i < 256) (hx : x < 18446744073709551616) (h64 : h ≤ 64) (hn : n ≤ 64) (hN : N ≤ 1048576) (hen : n ≤ h + 8 * N) :
    Calls Try.prog 3 #[.slice (some ad) N cap, .int .u64 x, .int .i64 h, .int .i64 n] w fun e w' => e = .returned (.bool true) ∧ Below w.heap.size w w' := by
  obtain ⟨i0, hi, hz0, hz1, hz2⟩ := info_parts Try.info5
  have HC : Hid (∀ i, i < N → w.cell? (ad.add i) = some (.int .u8 (z i : Nat))) := hcell
  have HZ : Hid (∀ i, z i < 256) := hz
  have HX : Hid (x < 18446744073709551616) := hx
  have hx1 : (x : Int) ≤ 18446744073709551615 := by omega
  have hd1 : decide ((h : Int) < 0) = false := decide_eq_false (by omega)
  have hd2 : decide ((n : Int) < 0) = false := decide_eq_false (by omega)
  have hnil := fun w => run_neq_slice_nil_any (P := Try.prog) w 22 5 (some ad) N cap 0 0 Try.underlying22
  clear hcell hz hx
  go_enter Try.func3, Try.ntmps3
  go_wp2_with (first | (go_at_call 5; refine (bytes5_yes _ _ _ _ _ _ _ hN).mono ?_; rintro e w' ⟨rfl, rfl⟩) | (at_make; refine wpList_make_full _ rfl _ _ 22 rfl w.heap.size 5 i0 (.int .u8 0) 1 Try.underlying22 hi hz0 hz1 _ _ _ _ N rfl rfl rfl rfl (by rw [hz2]; omega) (by unfold maxLen; omega) (Nat.le_refl _) ?_))
  intro w2 hown2 hgrow2
  obtain ⟨cur, hg2, hs2⟩ : ∃ cur, w2.heap[w.heap.size]? = some (.cells cur 5 (0, 0)) ∧ cur.size = N := by
    rcases hown2.2 with ⟨hv, _⟩ | ⟨g', c', cur, hv, _, hh, _, _, hs, _⟩
    · cases hv
    · cases hv
      exact ⟨cur, hh, by simpa using hs⟩
  obtain ⟨w3, hcopy, hby, hbel, hsz3⟩ := copy_all w2 ad w.heap.size N cap z cur hg2 hs2 (fun i hi => hgrow2.cell (HC.out i hi) (by simp))
  have HBy : Hid (Bytes w3 w.heap.size N z) := hby
  have HB : Hid (Below w.heap.size w w3) := ((Below.refl _ w).grown hgrow2 (Nat.le_refl _) (fun k hk => by cases hk)).trans hbel
  have hg3 : w.heap.size < w3.heap.size := by rw [hsz3]; exact (Array.getElem?_eq_some_iff.1 hg2).1
  clear hby hbel hsz3 hg2 hs2 hown2 hgrow2
  go_wp2_with fail
  refine (zzread_any w.heap.size N x h n (.slice (some ⟨w.heap.size, 0, none⟩) N N) z w3 ⟨_, rfl, fun _ => rfl⟩ HBy.out HZ.out (fun _ => hg3) HX.out h64 hn hN hen).mono ?_
  rintro e w4 ⟨j, v1, y, q, u, hj, hjN, hu, hv1, hy, hq, rfl, hb4⟩
  have HBy4 : Hid (Bytes w4 w.heap.size N z) := fun i hi => by rw [hb4.cell (p := ⟨w.heap.size, i, none⟩) hg3]; exact HBy.out i hi
  have HB4 : Hid (Below w.heap.size w w4) := HB.out.trans (hb4.mono (Nat.le_of_lt hg3))
  have HJ : Hid (j = (n - h + 7) / 8) := hj
  have HU : Hid (j < N → u = some ⟨w.heap.size, j, none⟩) := hu
  have HV : Hid (v1 = Bit.AA x z 0 j / 2 ^ (h + 8 * j - n) % 2 ^ n) := hv1
  have HY : Hid (y = Bit.AA x z 0 j % 18446744073709551616) := hy
  have HQ : Hid (q = h + 8 * j - n) := hq
  clear hj hu hv1 hy hq hb4 HB HBy hg3 hcopy hnil HC
  have HS : Hid (n ≤ h + 8 * j) := by have := HJ.out; show _ ≤ _; omega
  go_wp2
  go_loop [14, 15] (fun a b => ∃ p t : Nat, p ≤ n ∧ b = .int .i64 p ∧ a = .int .u64 t ∧ Hid (t = Bit.W (Bit.AA x z 0 j) (h + 8 * j) p)) (fun _ b => n - (intOf b).toNat)
  case atStart => exact ⟨0, 0, by omega, rfl, rfl, (Bit.W_zero _ _).symm⟩
  case round =>
    obtain ⟨p, t, hp, rfl, rfl, HT⟩ := hrel
    by_cases hlt : p < n
    · go_wp2_with fail
      refine (stream_var w.heap.size N x h p _ z _ ⟨_, rfl, fun _ => rfl⟩ HBy4.out HZ.out HX.out h64 hN (by omega)).mono ?_
      rintro e w' ⟨b, hb, rfl, rfl⟩
      have HBb : Hid (b = Bit.AA x z 0 j / 2 ^ (h + 8 * j - 1 - p) % 2) := by rw [Bit.sb_bit x z HZ.out h p j (by have := HS.out; omega)] at hb; exact hb
      clear hb
      go_wp2
      go_round
      case rel => exact ⟨p + 1, _, by omega, by go_num, congrArg (Value.int .u64) (w_step _ _ _ _ _ HT.out HBb.out (by have := HS.out; omega) (by omega)), rfl⟩
      case measure => simp [intOf]; omega
    · have hpn : n = p := by omega
      subst hpn
      have hne : ((v1 : Int) != (t : Int)) = false := by
        rw [bne_eq_false_iff_eq, HT.out, HV.out]
        rfl
      clear HT
      by_cases hnh : n < h
      · have hj0 : j = 0 := by have := HJ.out; omega
        subst hj0
        have hq1 : ((q : Int) != (h : Int) - (n : Int)) = false := by rw [bne_eq_false_iff_eq]; have := HQ.out; omega
        go_wp2
        go_loopw [18] (fun a wr => ∃ m qn : Nat, m ≤ N ∧ a = .int .i64 m ∧ wr = w4.drewN qn) (fun a _ => N - (intOf a).toNat)
        case atStart => exact ⟨0, 0, by omega, rfl, rfl⟩
        case round =>
          obtain ⟨m, qn, hm, rfl, rfl⟩ := hrel
          by_cases hlt2 : m < N
          · have hu := HU.out (by omega)
            subst hu
            have d1 : w4.cell? ⟨w.heap.size, m, none⟩ = some (.int .u8 (z m : Nat)) := HBy4.out _ (by omega)
            have i1 : (m : Int) < (N : Int) := by omega
            obtain ⟨c, hc⟩ : ∃ c, c = z m := ⟨_, rfl⟩
            rw [← hc] at d1
            clear hc
            go_wp2
            go_quiet (fail)
            go_wp2
            go_roundw
            case rel => exact ⟨m + 1, _, by omega, by go_num, rfl⟩
            case measure => simp [intOf]; omega
          · have hm' : N ≤ m := by omega
            clear HU
            go_wp2
            go_loop [19, 20] (fun a b => a = .int .u64 (x : Int) ∧ b = .int .i64 0) (fun _ _ => 0)
            case atStart => exact ⟨rfl, rfl⟩
            case round =>
              obtain ⟨rfl, rfl⟩ := hrel
              have hyx : y = x := by have h1 := HY.out; have h2 := HX.out; rw [h1]; exact Nat.mod_eq_of_lt h2
              have hne2 : ((y : Int) != (x : Int)) = false := by rw [bne_eq_false_iff_eq, hyx]
              clear hyx
              have hq64 : q ≤ 64 := by have := HQ.out; omega
              go_wp2
              go_loop [21] (fun a => ∃ m2 : Nat, m2 ≤ q ∧ a = .int .i64 m2) (fun a => q - (intOf a).toNat)
              case atStart => exact ⟨0, by omega, rfl⟩
              case round =>
                obtain ⟨m2, hm2, rfl⟩ := hrel
                by_cases hlt4 : m2 < q
                · go_wp2_with fail
                  rw [show ((n : Int) + (m2 : Int)) = ((n + m2 : Nat) : Int) by omega]
                  refine (stream_var w.heap.size N x h (n + m2) _ z (w4.drewN qn) ⟨_, rfl, fun _ => rfl⟩ (show Bytes (w4.drewN qn) w.heap.size N z from HBy4.out) HZ.out HX.out h64 hN (by have := HQ.out; have := HS.out; omega)).mono ?_
                  rintro e w' ⟨b, hb, rfl, rfl⟩
                  have hne3 := last_bit (Bit.AA x z 0 0) y q m2 b HY.out hlt4 hq64 (by rw [Bit.sb_bit x z HZ.out h (n + m2) 0 (by have := HQ.out; have := HS.out; omega)] at hb; rw [hb, show h + 8 * 0 - 1 - (n + m2) = q - 1 - m2 by have := HQ.out; omega])
                  clear hb
                  go_wp2
                  go_round
                  case rel => exact ⟨m2 + 1, by omega, by go_num⟩
                  case measure => simp [intOf]; omega
                · have hq2 : q ≤ m2 := by omega
                  go_wp2
                  go_ret
                  exact ⟨rfl, HB4.out.trans ⟨rfl, rfl, rfl, Nat.le_refl _, fun _ _ => rfl⟩⟩
      · have hk : ((n : Int) - (h : Int) + 7) / 8 = (j : Int) := by have := HJ.out; omega
        have hq1 : ((q : Int) != (h : Int) + 8 * (j : Int) - (n : Int)) = false := by rw [bne_eq_false_iff_eq]; have := HQ.out; have := HS.out; omega
        go_wp2
        go_loopw [18] (fun a wr => ∃ m qn : Nat, m ≤ N - j ∧ a = .int .i64 m ∧ wr = w4.drewN qn) (fun a _ => N - j - (intOf a).toNat)
        case atStart => exact ⟨0, 0, by omega, rfl, rfl⟩
        case round =>
          obtain ⟨m, qn, hm, rfl, rfl⟩ := hrel
          by_cases hlt2 : m < N - j
          · have hu := HU.out (by omega)
            subst hu
            have d1 : w4.cell? ⟨w.heap.size, j + m, none⟩ = some (.int .u8 (z (j + m) : Nat)) := HBy4.out _ (by omega)
            have i1 : (m : Int) < ((N - j : Nat) : Int) := by omega
            have i2 : (j : Int) + (m : Int) < (N : Int) := by omega
            obtain ⟨c, hc⟩ : ∃ c, c = z (j + m) := ⟨_, rfl⟩
            rw [← hc] at d1
            clear hc
            go_wp2
            go_quiet (fail)
            go_wp2
            go_roundw
            case rel => exact ⟨m + 1, _, by omega, by go_num, rfl⟩
            case measure => simp [intOf]; omega
          · have hm' : N - j ≤ m := by omega
            clear HU
            go_wp2
            go_loop [19, 20] (fun a b => ∃ s t2 : Nat, s ≤ 8 * j ∧ b = .int .i64 s ∧ a = .int .u64 t2 ∧ Hid (t2 = Bit.Y (Bit.AA x z 0 j) j s)) (fun _ b => 8 * j - (intOf b).toNat)
            case atStart => exact ⟨0, x, by omega, rfl, rfl, (Bit.Y_zero x z HZ.out j HX.out).symm⟩
            case round =>
              obtain ⟨s, t2, hs, rfl, rfl, HT2⟩ := hrel
              by_cases hlt3 : s < 8 * j
              · have d1 : w4.cell? ⟨w.heap.size, s / 8, none⟩ = some (.int .u8 (z (s / 8) : Nat)) := HBy4.out _ (by omega)
                have hsN : s / 8 < N := by omega
                obtain ⟨c, hc⟩ : ∃ c, c = z (s / 8) := ⟨_, rfl⟩
                rw [← hc] at d1
                have hc256 : c < 256 := by rw [hc]; exact HZ.out _
                have HCb : Hid (c / 2 ^ (7 - s % 8) % 2 = Bit.AA x z 0 j / 2 ^ (8 * j - 1 - s) % 2) := by rw [hc]; exact byte_bit x z HZ.out j s hlt3
                clear hc
                go_wp2
                go_round
                case rel => exact ⟨s + 1, _, by omega, by go_num, congrArg (Value.int .u64) (by rw [and1w c (7 - s % 8) hc256]; exact y_step _ _ _ _ _ HT2.out HCb.out hlt3), rfl⟩
                case measure => simp [intOf]; omega
              · have hs8 : 8 * j ≤ s := by omega
                have hne2 : ((y : Int) != (t2 : Int)) = false := by
                  rw [bne_eq_false_iff_eq, HT2.out, HY.out, show s = 8 * j by omega, Bit.Y_end]
                have hq64 : q ≤ 64 := by have := HQ.out; have := HJ.out; omega
                clear HT2
                go_wp2
                go_loop [21] (fun a => ∃ m2 : Nat, m2 ≤ q ∧ a = .int .i64 m2) (fun a => q - (intOf a).toNat)
                case atStart => exact ⟨0, by omega, rfl⟩
                case round =>
                  obtain ⟨m2, hm2, rfl⟩ := hrel
                  by_cases hlt4 : m2 < q
                  · go_wp2_with fail
                    rw [show ((n : Int) + (m2 : Int)) = ((n + m2 : Nat) : Int) by omega]
                    refine (stream_var w.heap.size N x h (n + m2) _ z (w4.drewN qn) ⟨_, rfl, fun _ => rfl⟩ (show Bytes (w4.drewN qn) w.heap.size N z from HBy4.out) HZ.out HX.out h64 hN (by have := HQ.out; have := HS.out; omega)).mono ?_
                    rintro e w' ⟨b, hb, rfl, rfl⟩
                    have hne3 := last_bit (Bit.AA x z 0 j) y q m2 b HY.out hlt4 hq64 (by rw [Bit.sb_bit x z HZ.out h (n + m2) j (by have := HQ.out; have := HS.out; omega)] at hb; rw [hb, show h + 8 * j - 1 - (n + m2) = q - 1 - m2 by have := HQ.out; omega])
                    clear hb
                    go_wp2
                    go_round
                    case rel => exact ⟨m2 + 1, by omega, by go_num⟩
                    case measure => simp [intOf]; omega
                  · have hq2 : q ≤ m2 := by omega
                    go_wp2
                    go_ret
                    exact ⟨rfl, HB4.out.trans ⟨rfl, rfl, rfl, Nat.le_refl _, fun _ _ => rfl⟩⟩

set_option maxHeartbeats 4000000 in
set_option maxRecDepth 100000 in
theorem main_none (x h n : Nat) (w : World) (hx : x < 18446744073709551616) (h64 : h ≤ 64) (hn : n ≤ 64) (hen : n ≤ h) :
    Calls Try.prog 3 #[.slice none 0 0, .int .u64 x, .int .i64 h, .int .i64 n] w fun e w' => e = .returned (.bool true) ∧ Below w.heap.size w w' := by
  obtain ⟨z, hz⟩ : ∃ z : Nat → Nat, ∀ i, z i < 256 := ⟨fun _ => 0, fun _ => Nat.zero_lt_succ 255⟩
  have HZ : Hid (∀ i, z i < 256) := hz
  have HX : Hid (x < 18446744073709551616) := hx
  have hx1 : (x : Int) ≤ 18446744073709551615 := by omega
  have hd1 : decide ((h : Int) < 0) = false := decide_eq_false (by omega)
  have hd2 : decide ((n : Int) < 0) = false := decide_eq_false (by omega)
  have hnil := fun w => run_neq_slice_nil_any (P := Try.prog) w 22 5 none 0 0 0 0 Try.underlying22
  clear hz hx
  go_enter Try.func3, Try.ntmps3
  go_wp2_with (go_at_call 5; refine (bytes5_yes _ _ _ _ _ _ _ (by omega)).mono ?_; rintro e w' ⟨rfl, rfl⟩)
  refine (zzread_any w.heap.size 0 x h n (.slice none 0 0) z w ⟨_, rfl, fun h => absurd h (Nat.lt_irrefl 0)⟩ (fun i hi => absurd hi (by omega)) HZ.out (fun h => absurd h (Nat.lt_irrefl 0)) HX.out h64 hn (by omega) (by omega)).mono ?_
  rintro e w4 ⟨j, v1, y, q, u, hj, hjN, hu, hv1, hy, hq, rfl, hb4⟩
  obtain rfl : j = 0 := by omega
  have HBy4 : Hid (Bytes w4 w.heap.size 0 z) := fun i hi => absurd hi (by omega)
  have HB4 : Hid (Below w.heap.size w w4) := hb4
  have HU : Hid True := trivial
  have HV : Hid (v1 = Bit.AA x z 0 0 / 2 ^ (h + 8 * 0 - n) % 2 ^ n) := hv1
  have HY : Hid (y = Bit.AA x z 0 0 % 18446744073709551616) := hy
  have HQ : Hid (q = h + 8 * 0 - n) := hq
  have HS : Hid (n ≤ h + 8 * 0) := hen
  clear hj hu hv1 hy hq hb4 hnil
  go_wp2
  go_loop [14, 15] (fun a b => ∃ p t : Nat, p ≤ n ∧ b = .int .i64 p ∧ a = .int .u64 t ∧ Hid (t = Bit.W (Bit.AA x z 0 0) (h + 8 * 0) p)) (fun _ b => n - (intOf b).toNat)
  case atStart => exact ⟨0, 0, by omega, rfl, rfl, (Bit.W_zero _ _).symm⟩
  case round =>
    obtain ⟨p, t, hp, rfl, rfl, HT⟩ := hrel
    by_cases hlt : p < n
    · go_wp2_with fail
      refine (stream_var w.heap.size 0 x h p _ z _ ⟨_, rfl, fun h => absurd h (Nat.lt_irrefl 0)⟩ HBy4.out HZ.out HX.out h64 (by omega) (by omega)).mono ?_
      rintro e w' ⟨b, hb, rfl, rfl⟩
      have HBb : Hid (b = Bit.AA x z 0 0 / 2 ^ (h + 8 * 0 - 1 - p) % 2) := by rw [Bit.sb_bit x z HZ.out h p 0 (by have := HS.out; omega)] at hb; exact hb
      clear hb
      go_wp2
      go_round
      case rel => exact ⟨p + 1, _, by omega, by go_num, congrArg (Value.int .u64) (w_step _ _ _ _ _ HT.out HBb.out (by have := HS.out; omega) (by omega)), rfl⟩
      case measure => simp [intOf]; omega
    · have hpn : n = p := by omega
      subst hpn
      have hne : ((v1 : Int) != (t : Int)) = false := by
        rw [bne_eq_false_iff_eq, HT.out, HV.out]
        rfl
      clear HT
      by_cases hnh : n < h
      · have hq1 : ((q : Int) != (h : Int) - (n : Int)) = false := by rw [bne_eq_false_iff_eq]; have := HQ.out; omega
        go_wp2
        go_loopw [18] (fun a wr => ∃ m qn : Nat, m ≤ 0 ∧ a = .int .i64 m ∧ wr = w4.drewN qn) (fun a _ => 0 - (intOf a).toNat)
        case atStart => exact ⟨0, 0, by omega, rfl, rfl⟩
        case round =>
          obtain ⟨m, qn, hm, rfl, rfl⟩ := hrel
          · have hm' : 0 ≤ m := by omega
            clear HU
            go_wp2
            go_loop [19, 20] (fun a b => a = .int .u64 (x : Int) ∧ b = .int .i64 0) (fun _ _ => 0)
            case atStart => exact ⟨rfl, rfl⟩
            case round =>
              obtain ⟨rfl, rfl⟩ := hrel
              have hyx : y = x := by have h1 := HY.out; have h2 := HX.out; rw [h1]; exact Nat.mod_eq_of_lt h2
              have hne2 : ((y : Int) != (x : Int)) = false := by rw [bne_eq_false_iff_eq, hyx]
              clear hyx
              have hq64 : q ≤ 64 := by have := HQ.out; omega
              go_wp2
              go_loop [21] (fun a => ∃ m2 : Nat, m2 ≤ q ∧ a = .int .i64 m2) (fun a => q - (intOf a).toNat)
              case atStart => exact ⟨0, by omega, rfl⟩
              case round =>
                obtain ⟨m2, hm2, rfl⟩ := hrel
                by_cases hlt4 : m2 < q
                · go_wp2_with fail
                  rw [show ((n : Int) + (m2 : Int)) = ((n + m2 : Nat) : Int) by omega]
                  refine (stream_var w.heap.size 0 x h (n + m2) _ z (w4.drewN qn) ⟨_, rfl, fun h => absurd h (Nat.lt_irrefl 0)⟩ (show Bytes (w4.drewN qn) w.heap.size 0 z from HBy4.out) HZ.out HX.out h64 (by omega) (by have := HQ.out; have := HS.out; omega)).mono ?_
                  rintro e w' ⟨b, hb, rfl, rfl⟩
                  have hne3 := last_bit (Bit.AA x z 0 0) y q m2 b HY.out hlt4 hq64 (by rw [Bit.sb_bit x z HZ.out h (n + m2) 0 (by have := HQ.out; have := HS.out; omega)] at hb; rw [hb, show h + 8 * 0 - 1 - (n + m2) = q - 1 - m2 by have := HQ.out; omega])
                  clear hb
                  go_wp2
                  go_round
                  case rel => exact ⟨m2 + 1, by omega, by go_num⟩
                  case measure => simp [intOf]; omega
                · have hq2 : q ≤ m2 := by omega
                  go_wp2
                  go_ret
                  exact ⟨rfl, HB4.out.trans ⟨rfl, rfl, rfl, Nat.le_refl _, fun _ _ => rfl⟩⟩
      · have hk : ((n : Int) - (h : Int) + 7) / 8 = 0 := by omega
        have hq1 : ((q : Int) != (h : Int) - (n : Int)) = false := by rw [bne_eq_false_iff_eq]; have := HQ.out; have := HS.out; omega
        go_wp2
        go_loopw [18] (fun a wr => ∃ m qn : Nat, m ≤ 0 ∧ a = .int .i64 m ∧ wr = w4.drewN qn) (fun a _ => 0 - (intOf a).toNat)
        case atStart => exact ⟨0, 0, by omega, rfl, rfl⟩
        case round =>
          obtain ⟨m, qn, hm, rfl, rfl⟩ := hrel
          · have hm' : 0 ≤ m := by omega
            clear HU
            go_wp2
            go_loop [19, 20] (fun a b => a = .int .u64 (x : Int) ∧ b = .int .i64 0) (fun _ _ => 0)
            case atStart => exact ⟨rfl, rfl⟩
            case round =>
              obtain ⟨rfl, rfl⟩ := hrel
              have hyx : y = x := by have h1 := HY.out; have h2 := HX.out; rw [h1]; exact Nat.mod_eq_of_lt h2
              have hne2 : ((y : Int) != (x : Int)) = false := by rw [bne_eq_false_iff_eq, hyx]
              clear hyx
              have hq64 : q ≤ 64 := by have := HQ.out; omega
              go_wp2
              go_loop [21] (fun a => ∃ m2 : Nat, m2 ≤ q ∧ a = .int .i64 m2) (fun a => q - (intOf a).toNat)
              case atStart => exact ⟨0, by omega, rfl⟩
              case round =>
                obtain ⟨m2, hm2, rfl⟩ := hrel
                by_cases hlt4 : m2 < q
                · go_wp2_with fail
                  rw [show ((n : Int) + (m2 : Int)) = ((n + m2 : Nat) : Int) by omega]
                  refine (stream_var w.heap.size 0 x h (n + m2) _ z (w4.drewN qn) ⟨_, rfl, fun h => absurd h (Nat.lt_irrefl 0)⟩ (show Bytes (w4.drewN qn) w.heap.size 0 z from HBy4.out) HZ.out HX.out h64 (by omega) (by have := HQ.out; have := HS.out; omega)).mono ?_
                  rintro e w' ⟨b, hb, rfl, rfl⟩
                  have hne3 := last_bit (Bit.AA x z 0 0) y q m2 b HY.out hlt4 hq64 (by rw [Bit.sb_bit x z HZ.out h (n + m2) 0 (by have := HQ.out; have := HS.out; omega)] at hb; rw [hb, show h + 8 * 0 - 1 - (n + m2) = q - 1 - m2 by have := HQ.out; omega])
                  clear hb
                  go_wp2
                  go_round
                  case rel => exact ⟨m2 + 1, by omega, by go_num⟩
                  case measure => simp [intOf]; omega
                · have hq2 : q ≤ m2 := by omega
                  go_wp2
                  go_ret
                  exact ⟨rfl, HB4.out.trans ⟨rfl, rfl, rfl, Nat.le_refl _, fun _ _ => rfl⟩⟩
end Go.Proofs.Qxb6602133a
