import Derived.Test.Qxb6602237aRead
namespace Go.Proofs.Qxb6602237a
open Go.RowKit
set_option linter.unusedVariables false

/-- a call that gives some bool; where it is true, q; it turns nothing. -/
def GivesBool (q : Prop) (w : World) (e : Ending) (w' : World) : Prop := ∃ b, e = .returned (.bool b) ∧ (b = true → q) ∧ w = w'
theorem GivesBool.no {q : Prop} (w : World) : GivesBool q w (.returned (.bool false)) w := ⟨false, rfl, ⟨fun h => by simp at h, rfl⟩⟩
theorem GivesBool.yes {q : Prop} (w : World) (h : q) : GivesBool q w (.returned (.bool true)) w := ⟨true, rfl, ⟨fun _ => h, rfl⟩⟩

theorem neq_nil (t e : TypeId) (h : Try.prog.underlying t = some (.pointer e)) (p : Option Addr) (w : World) : (binOp .neq t (.pointer p) (.pointer none)).run Try.prog w = .ok (.bool p.isSome) w := by
  have hk : ∀ d : Nat, (Op.equalIn (d + 1) t (.pointer p) (.pointer none)).run Try.prog w = .ok p.isNone w := fun d => by cases p <;> simp [Op.equalIn, run_underlying h]
  simp only [binOp]
  rw [show Op.equal t (.pointer p) (.pointer none) = Op.equalIn (9999 + 1) t (.pointer p) (.pointer none) from rfl]
  simp only [Sem.run_bind, hk 9999, Result.andThen, Sem.run_pure]
  cases p <;> rfl

set_option maxHeartbeats 4000000 in
set_option maxRecDepth 100000 in
theorem bytes_any (v0 v1 v2 v3 v4 v5 v6 v7 v8 v9 : Option Addr) (M : Nat) (w : World) (h0 : PStr w v0) (h3 : PStr w v3) (h4 : PStr w v4) (h6 : PStr w v6) (h7 : PStr w v7) (h8 : PBands w M v8) (h9 : PBands w M v9) :
    Calls Try.prog 5 #[.pointer v0, .pointer v1, .pointer v2, .pointer v3, .pointer v4, .pointer v5, .pointer v6, .pointer v7, .pointer v8, .pointer v9] w fun e w' => GivesBool (PBands w 1048576 v8 ∧ PBands w 1048576 v9) w e w' := by
  have n0 := neq_nil 22 9 Try.underlying22
  have n8 := neq_nil 24 34 Try.underlying24
  have H0 : Hid (PStr w v0) := h0
  have H3 : Hid (PStr w v3) := h3
  have H4 : Hid (PStr w v4) := h4
  have H6 : Hid (PStr w v6) := h6
  have H7 : Hid (PStr w v7) := h7
  have H8 : Hid (PBands w M v8) := h8
  have H9 : Hid (PBands w M v9) := h9
  clear h0 h3 h4 h6 h7 h8 h9
  go_enter Try.func5, Try.ntmps5
  go_upto_if 25 with fail
  go_cut [21] from 24 to 38 (fun x wx => ∃ n : Nat, n ≤ 1048576 ∧ x = .int .i64 n ∧ w = wx)
  case first =>
    rcases H0.out with rfl | ⟨b, o, s, rfl, hc, hs⟩
    · go_wp2
      go_meet
      exact ⟨0, by omega, rfl, rfl⟩
    · unfold maxLen at hs
      by_cases hs1 : 1048576 < s.size
      · go_wp2
        go_ret
        exact GivesBool.no _
      · go_wp2
        go_meet
        exact ⟨s.size, by omega, rfl, rfl⟩
  case rest =>
    clear H0
    obtain ⟨n, hn, rfl, rfl⟩ := hcut
    go_upto_if 40 with fail
    go_cut [21] from 39 to 53 (fun x wx => ∃ n : Nat, n ≤ 1048576 ∧ x = .int .i64 n ∧ w = wx)
    case first =>
      rcases H3.out with rfl | ⟨b, o, s, rfl, hc, hs⟩
      · go_wp2
        go_meet
        exact ⟨n, by omega, rfl, rfl⟩
      · unfold maxLen at hs
        by_cases hs1 : 1048576 < s.size
        · go_wp2
          go_ret
          exact GivesBool.no _
        · by_cases hs2 : 1048576 < n + s.size
          · go_wp2
            go_ret
            exact GivesBool.no _
          · go_wp2
            go_meet
            exact ⟨n + s.size, by omega, by go_num, rfl⟩
    case rest =>
      clear H3
      obtain ⟨n, hn, rfl, rfl⟩ := hcut
      go_upto_if 55 with fail
      go_cut [21] from 54 to 68 (fun x wx => ∃ n : Nat, n ≤ 1048576 ∧ x = .int .i64 n ∧ w = wx)
      case first =>
        rcases H4.out with rfl | ⟨b, o, s, rfl, hc, hs⟩
        · go_wp2
          go_meet
          exact ⟨n, by omega, rfl, rfl⟩
        · unfold maxLen at hs
          by_cases hs1 : 1048576 < s.size
          · go_wp2
            go_ret
            exact GivesBool.no _
          · by_cases hs2 : 1048576 < n + s.size
            · go_wp2
              go_ret
              exact GivesBool.no _
            · go_wp2
              go_meet
              exact ⟨n + s.size, by omega, by go_num, rfl⟩
      case rest =>
        clear H4
        obtain ⟨n, hn, rfl, rfl⟩ := hcut
        go_upto_if 70 with fail
        go_cut [21] from 69 to 83 (fun x wx => ∃ n : Nat, n ≤ 1048576 ∧ x = .int .i64 n ∧ w = wx)
        case first =>
          rcases H6.out with rfl | ⟨b, o, s, rfl, hc, hs⟩
          · go_wp2
            go_meet
            exact ⟨n, by omega, rfl, rfl⟩
          · unfold maxLen at hs
            by_cases hs1 : 1048576 < s.size
            · go_wp2
              go_ret
              exact GivesBool.no _
            · by_cases hs2 : 1048576 < n + s.size
              · go_wp2
                go_ret
                exact GivesBool.no _
              · go_wp2
                go_meet
                exact ⟨n + s.size, by omega, by go_num, rfl⟩
        case rest =>
          clear H6
          obtain ⟨n, hn, rfl, rfl⟩ := hcut
          go_upto_if 85 with fail
          go_cut [21] from 84 to 98 (fun x wx => ∃ n : Nat, n ≤ 1048576 ∧ x = .int .i64 n ∧ w = wx)
          case first =>
            rcases H7.out with rfl | ⟨b, o, s, rfl, hc, hs⟩
            · go_wp2
              go_meet
              exact ⟨n, by omega, rfl, rfl⟩
            · unfold maxLen at hs
              by_cases hs1 : 1048576 < s.size
              · go_wp2
                go_ret
                exact GivesBool.no _
              · by_cases hs2 : 1048576 < n + s.size
                · go_wp2
                  go_ret
                  exact GivesBool.no _
                · go_wp2
                  go_meet
                  exact ⟨n + s.size, by omega, by go_num, rfl⟩
          case rest =>
            clear H7
            obtain ⟨n, hn, rfl, rfl⟩ := hcut
            go_upto_if 100 with fail
            go_cut [21] from 99 to 187 (fun x wx => ∃ n : Nat, n ≤ 1048576 ∧ x = .int .i64 n ∧ Hid (PBands w 1048576 v8) ∧ w = wx)
            case first =>
              rcases H8.out with rfl | ⟨b, o, sl, rfl, hc, hsl⟩
              · go_wp2
                go_meet
                exact ⟨n, hn, rfl, .inl rfl, rfl⟩
              · rcases hsl with rfl | ⟨a, len, cap, rfl, hM, hl, hm, hB⟩
                · have HR : Hid (PBands w 1048576 (some ⟨b, o, none⟩)) := .inr ⟨b, o, _, rfl, hc, .inl rfl⟩
                  go_wp2
                  refine wp_loop_rounds 1 ?_
                  rw [rounds_succ]
                  go_wp2
                  go_meet
                  exact ⟨n, hn, rfl, HR, rfl⟩
                · unfold maxLen at hm
                  by_cases hs1 : 1048576 < len
                  · go_wp2
                    go_ret
                    exact GivesBool.no _
                  · by_cases hs2 : 1048576 < n + len
                    · go_wp2
                      go_ret
                      exact GivesBool.no _
                    · have HR : Hid (PBands w 1048576 (some ⟨b, o, none⟩)) := .inr ⟨b, o, _, rfl, hc, .inr ⟨a, len, cap, rfl, by omega, hl, hm, hB⟩⟩
                      have HB : Hid (0 < len → ∃ g p, a = ⟨g, p, none⟩ ∧ ∀ i, i < len → Band w g p i) := hB
                      clear hB
                      go_wp2
                      go_loop [21, 22] (fun x i => ∃ k m : Nat, k ≤ len ∧ m ≤ 1048576 ∧ i = .int .i64 k ∧ x = .int .i64 m) (fun _ i => len - (intOf i).toNat)
                      case atStart => exact ⟨0, n + len, by omega, by omega, rfl, by go_num⟩
                      case round =>
                        obtain ⟨k, m, hk, hm1, rfl, rfl⟩ := hrel
                        by_cases hlt : k < len
                        · obtain ⟨g, p, rfl, hBa⟩ := HB.out (by omega)
                          obtain ⟨f, q, cf, cq, pf, pq⟩ := hBa k hlt
                          clear hBa HB HR
                          rcases pf with rfl | ⟨fb, fo, fs, rfl, fc, fsz⟩
                          · rcases pq with rfl | ⟨qb, qo, qs, rfl, qc, qsz⟩
                            · go_wp2
                              go_round
                              case rel => exact ⟨k + 1, m, by omega, by omega, by go_num, by go_num⟩
                              case measure => simp [intOf]; omega
                            · unfold maxLen at qsz
                              by_cases g1 : 1048576 < qs.size
                              · go_wp2
                                go_ret
                                exact GivesBool.no _
                              · by_cases g2 : 1048576 < m + qs.size
                                · go_wp2
                                  go_ret
                                  exact GivesBool.no _
                                · go_wp2
                                  go_round
                                  case rel => exact ⟨k + 1, m + qs.size, by omega, by omega, by go_num, by go_num⟩
                                  case measure => simp [intOf]; omega
                          · unfold maxLen at fsz
                            by_cases e1 : 1048576 < fs.size
                            · rcases pq with rfl | ⟨qb, qo, qs, rfl, qc, qsz⟩
                              · go_wp2
                                go_ret
                                exact GivesBool.no _
                              · go_wp2
                                go_ret
                                exact GivesBool.no _
                            · by_cases e2 : 1048576 < m + fs.size
                              · rcases pq with rfl | ⟨qb, qo, qs, rfl, qc, qsz⟩
                                · go_wp2
                                  go_ret
                                  exact GivesBool.no _
                                · go_wp2
                                  go_ret
                                  exact GivesBool.no _
                              · rcases pq with rfl | ⟨qb, qo, qs, rfl, qc, qsz⟩
                                · go_wp2
                                  go_round
                                  case rel => exact ⟨k + 1, m + fs.size, by omega, by omega, by go_num, by go_num⟩
                                  case measure => simp [intOf]; omega
                                · unfold maxLen at qsz
                                  by_cases g1 : 1048576 < qs.size
                                  · go_wp2
                                    go_ret
                                    exact GivesBool.no _
                                  · by_cases g2 : 1048576 < m + fs.size + qs.size
                                    · go_wp2
                                      go_ret
                                      exact GivesBool.no _
                                    · go_wp2
                                      go_round
                                      case rel => exact ⟨k + 1, m + fs.size + qs.size, by omega, by omega, by go_num, by go_num⟩
                                      case measure => simp [intOf]; omega
                        · go_wp2
                          go_meet
                          exact ⟨m, hm1, rfl, HR, rfl⟩
            case rest =>
              clear H8
              obtain ⟨n, hn, rfl, HR100, rfl⟩ := hcut
              go_upto_if 189 with fail
              go_cut [21] from 188 to 276 (fun x wx => ∃ n : Nat, n ≤ 1048576 ∧ x = .int .i64 n ∧ Hid (PBands w 1048576 v9) ∧ w = wx)
              case first =>
                rcases H9.out with rfl | ⟨b, o, sl, rfl, hc, hsl⟩
                · go_wp2
                  go_meet
                  exact ⟨n, hn, rfl, .inl rfl, rfl⟩
                · rcases hsl with rfl | ⟨a, len, cap, rfl, hM, hl, hm, hB⟩
                  · have HR : Hid (PBands w 1048576 (some ⟨b, o, none⟩)) := .inr ⟨b, o, _, rfl, hc, .inl rfl⟩
                    go_wp2
                    refine wp_loop_rounds 1 ?_
                    rw [rounds_succ]
                    go_wp2
                    go_meet
                    exact ⟨n, hn, rfl, HR, rfl⟩
                  · unfold maxLen at hm
                    by_cases hs1 : 1048576 < len
                    · go_wp2
                      go_ret
                      exact GivesBool.no _
                    · by_cases hs2 : 1048576 < n + len
                      · go_wp2
                        go_ret
                        exact GivesBool.no _
                      · have HR : Hid (PBands w 1048576 (some ⟨b, o, none⟩)) := .inr ⟨b, o, _, rfl, hc, .inr ⟨a, len, cap, rfl, by omega, hl, hm, hB⟩⟩
                        have HB : Hid (0 < len → ∃ g p, a = ⟨g, p, none⟩ ∧ ∀ i, i < len → Band w g p i) := hB
                        clear hB
                        go_wp2
                        go_loop [21, 23] (fun x i => ∃ k m : Nat, k ≤ len ∧ m ≤ 1048576 ∧ i = .int .i64 k ∧ x = .int .i64 m) (fun _ i => len - (intOf i).toNat)
                        case atStart => exact ⟨0, n + len, by omega, by omega, rfl, by go_num⟩
                        case round =>
                          obtain ⟨k, m, hk, hm1, rfl, rfl⟩ := hrel
                          by_cases hlt : k < len
                          · obtain ⟨g, p, rfl, hBa⟩ := HB.out (by omega)
                            obtain ⟨f, q, cf, cq, pf, pq⟩ := hBa k hlt
                            clear hBa HB HR
                            rcases pf with rfl | ⟨fb, fo, fs, rfl, fc, fsz⟩
                            · rcases pq with rfl | ⟨qb, qo, qs, rfl, qc, qsz⟩
                              · go_wp2
                                go_round
                                case rel => exact ⟨k + 1, m, by omega, by omega, by go_num, by go_num⟩
                                case measure => simp [intOf]; omega
                              · unfold maxLen at qsz
                                by_cases g1 : 1048576 < qs.size
                                · go_wp2
                                  go_ret
                                  exact GivesBool.no _
                                · by_cases g2 : 1048576 < m + qs.size
                                  · go_wp2
                                    go_ret
                                    exact GivesBool.no _
                                  · go_wp2
                                    go_round
                                    case rel => exact ⟨k + 1, m + qs.size, by omega, by omega, by go_num, by go_num⟩
                                    case measure => simp [intOf]; omega
                            · unfold maxLen at fsz
                              by_cases e1 : 1048576 < fs.size
                              · rcases pq with rfl | ⟨qb, qo, qs, rfl, qc, qsz⟩
                                · go_wp2
                                  go_ret
                                  exact GivesBool.no _
                                · go_wp2
                                  go_ret
                                  exact GivesBool.no _
                              · by_cases e2 : 1048576 < m + fs.size
                                · rcases pq with rfl | ⟨qb, qo, qs, rfl, qc, qsz⟩
                                  · go_wp2
                                    go_ret
                                    exact GivesBool.no _
                                  · go_wp2
                                    go_ret
                                    exact GivesBool.no _
                                · rcases pq with rfl | ⟨qb, qo, qs, rfl, qc, qsz⟩
                                  · go_wp2
                                    go_round
                                    case rel => exact ⟨k + 1, m + fs.size, by omega, by omega, by go_num, by go_num⟩
                                    case measure => simp [intOf]; omega
                                  · unfold maxLen at qsz
                                    by_cases g1 : 1048576 < qs.size
                                    · go_wp2
                                      go_ret
                                      exact GivesBool.no _
                                    · by_cases g2 : 1048576 < m + fs.size + qs.size
                                      · go_wp2
                                        go_ret
                                        exact GivesBool.no _
                                      · go_wp2
                                        go_round
                                        case rel => exact ⟨k + 1, m + fs.size + qs.size, by omega, by omega, by go_num, by go_num⟩
                                        case measure => simp [intOf]; omega
                          · go_wp2
                            go_meet
                            exact ⟨m, hm1, rfl, HR, rfl⟩
              case rest =>
                clear H9
                obtain ⟨n, hn, rfl, HR189, rfl⟩ := hcut
                go_wp2
                go_ret
                exact GivesBool.yes _ ⟨HR100.out, HR189.out⟩
end Go.Proofs.Qxb6602237a
