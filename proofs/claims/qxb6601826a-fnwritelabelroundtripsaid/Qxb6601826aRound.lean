import Derived.Test.Qxb6601826aTrip
namespace Go.Proofs.Qxb6601826a
open Go.RowKit
set_option linter.unusedVariables false

theorem zzlabel_empty (s : ByteArray) (w : World) (hs : s.size ≤ 1048576) :
    Calls Try.prog 17 #[.string ⟨#[]⟩, .string s] w fun e w' => ∃ g : ByteArray, e = .returned (.string g) ∧ g.data.toList = escL s.data.toList ∧ Below w.heap.size w w' := by
  refine (zzlabel_any ⟨#[]⟩ s w (by simp [ByteArray.size]) hs).mono ?_
  rintro e w' ⟨rfl, hb⟩
  exact ⟨_, rfl, by simp, hb⟩

theorem bytes16_yes (s : ByteArray) (w : World) (h : s.size ≤ 1048576) : Calls Try.prog 16 #[.string s] w fun e w' => e = .returned (.bool true) ∧ w = w' := by
  go_enter Try.func16, Try.ntmps16
  go_wp2
  go_ret
  exact ⟨rfl, rfl⟩
theorem bytes16_no (s : ByteArray) (w : World) (h : 1048576 < s.size) : Calls Try.prog 16 #[.string s] w fun e w' => e = .returned (.bool false) ∧ w = w' := by
  go_enter Try.func16, Try.ntmps16
  go_wp2
  go_ret
  exact ⟨rfl, rfl⟩

set_option maxHeartbeats 2000000 in
theorem round_walk (a0 : ByteArray) (w0 : a0.size ≤ maxLen) (w : World) :
    Calls Try.prog 6 #[.string a0] w fun e w' => e = .returned (.bool true) ∧ Below w.heap.size w w' := by
  by_cases hs : a0.size ≤ 1048576
  · go_enter Try.func6, Try.ntmps6
    go_wp2_with (go_at_call 16; refine (bytes16_yes _ _ hs).mono ?_; rintro e w' ⟨rfl, rfl⟩)
    refine (zzlabel_empty _ _ hs).mono ?_
    rintro e w1 ⟨g, rfl, hg, hb1⟩
    have hlen := escL_len a0.data.toList
    have hgl : g.size = (escL a0.data.toList).length := by rw [← hg]; simp
    have hal : a0.data.toList.length = a0.size := by simp
    have l1 : a0.size ≤ g.size := by omega
    have l2 : g.size ≤ 4 * a0.size := by omega
    have l3 : g.size ≤ 4194304 := by omega
    have HP : Hid (∀ i (h : i < g.size), 32 ≤ ((g[i]'h).toNat : Int) ∧ ((g[i]'h).toNat : Int) ≤ 126) := fun i h => by
      have hm : (g[i]'h) ∈ escL a0.data.toList := by
        rw [← hg]
        exact List.getElem_mem (l := g.data.toList) (n := i) (by simpa using h)
      have := escL_printable _ _ hm
      omega
    have HG : Hid (g.data.toList = escL a0.data.toList) := hg
    have HB1 : Hid (Below w.heap.size w w1) := hb1
    have d1 : decide ((g.size : Int) < (a0.size : Int)) = false := decide_eq_false (by omega)
    have d2 : decide (4 * (a0.size : Int) < (g.size : Int)) = false := decide_eq_false (by omega)
    clear hlen hgl hal hg hb1
    go_wp2
    go_loop [4] (fun x => ∃ k : Nat, k ≤ g.size ∧ x = .int .i64 k) (fun x => g.size - (intOf x).toNat)
    case atStart => exact ⟨0, by omega, rfl⟩
    case round =>
      obtain ⟨k, hk, rfl⟩ := hrel
      by_cases hlt : k < g.size
      · obtain ⟨p1, p2⟩ := HP.out k hlt
        have q1 : decide (((g[k]'hlt).toNat : Int) < 32) = false := decide_eq_false (by omega)
        have q2 : decide (126 < ((g[k]'hlt).toNat : Int)) = false := decide_eq_false (by omega)
        go_wp2
        go_round
        case rel => exact ⟨k + 1, by omega, by go_num⟩
        case measure => simp [intOf]; omega
      · go_wp2_with fail
        refine (unescape_any g a0 _ HG.out hs l3).mono ?_
        rintro e w2 ⟨rfl, hb2⟩
        have HB2 : Hid (Below w1.heap.size w1 w2) := hb2
        clear hb2
        go_wp2
        go_ret
        exact ⟨by simp, HB1.out.trans (HB2.out.mono HB1.out.size)⟩
  · have hs' : 1048576 < a0.size := by omega
    clear hs
    go_enter Try.func6, Try.ntmps6
    go_wp2_with (go_at_call 16; refine (bytes16_no _ _ hs').mono ?_; rintro e w' ⟨rfl, rfl⟩)
    go_ret
    exact ⟨rfl, Below.refl _ _⟩
end Go.Proofs.Qxb6601826a
