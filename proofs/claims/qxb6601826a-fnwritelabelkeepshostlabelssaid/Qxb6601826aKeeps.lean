import Derived.Test.Qxb6601826aLabel
namespace Go.Proofs.Qxb6601826a
open Go.RowKit

theorem escL_same (l : List UInt8) (h : ∀ c, c ∈ l → esc c = [c]) : escL l = l := by
  induction l with
  | nil => rfl
  | cons c r ih =>
    have h1 := h c (by simp)
    have h2 := ih (fun x hx => h x (by simp [hx]))
    simp [escL, h1, h2]
theorem esc_host (c : UInt8) (h : Ld (c.toNat : Int) ∨ (c.toNat : Int) = 45) : esc c = [c] := by
  unfold Ld at h
  unfold esc
  rw [if_neg (by omega), if_neg (by omega)]
theorem escL_host (s : ByteArray) (h : HostP s) : escL s.data.toList = s.data.toList := by
  refine escL_same _ fun c hc => ?_
  obtain ⟨i, hi, rfl⟩ := List.getElem_of_mem hc
  have hi' : i < s.size := by simpa using hi
  have := h.2.2.2.2 i hi'
  rw [byteAt_eq s i hi'] at this
  exact esc_host _ this

theorem zzlabel_host (p s : ByteArray) (w : World) (hp : p.size ≤ 1048576) (hs : s.size ≤ 1048576) (h : HostP s) :
    Calls Try.prog 17 #[.string p, .string s] w fun e w' => e = .returned (.string (p ++ s)) ∧ Below w.heap.size w w' := by
  refine (zzlabel_any p s w hp hs).mono ?_
  rintro e w' ⟨rfl, hb⟩
  refine ⟨?_, hb⟩
  rw [escL_host s h]
  have : (⟨(p.data.toList ++ s.data.toList).toArray⟩ : ByteArray) = p ++ s := by
    apply ByteArray.ext
    simp
  rw [this]

theorem host_yes (s : ByteArray) (w : World) (hs : s.size ≤ 1048576) (h : HostP s) : Calls Try.prog 11 #[.string s] w fun e w' => e = .returned (.bool true) ∧ w = w' :=
  (host_any s w hs).mono (by rintro e w' ⟨b, rfl, hb, rfl⟩; rw [hb.2 h]; exact ⟨rfl, rfl⟩)
theorem host_no (s : ByteArray) (w : World) (hs : s.size ≤ 1048576) (h : ¬ HostP s) : Calls Try.prog 11 #[.string s] w fun e w' => e = .returned (.bool false) ∧ w = w' :=
  (host_any s w hs).mono (by
    rintro e w' ⟨b, rfl, hb, rfl⟩
    cases b
    · exact ⟨rfl, rfl⟩
    · exact absurd (hb.1 rfl) h)

theorem bytes19_yes (v u : ByteArray) (w : World) (h : v.size + u.size ≤ 1048576) : Calls Try.prog 19 #[.string v, .string u] w fun e w' => e = .returned (.bool true) ∧ w = w' := by
  go_enter Try.func19, Try.ntmps19
  go_wp2
  go_ret
  exact ⟨rfl, rfl⟩
theorem bytes19_no (v u : ByteArray) (w : World) (hv : v.size ≤ maxLen) (hu : u.size ≤ maxLen) (h : 1048576 < v.size + u.size) : Calls Try.prog 19 #[.string v, .string u] w fun e w' => e = .returned (.bool false) ∧ w = w' := by
  unfold maxLen at hv hu
  by_cases h1 : 1048576 < v.size
  · go_enter Try.func19, Try.ntmps19
    go_wp2
    go_ret
    exact ⟨rfl, rfl⟩
  by_cases h2 : 1048576 < u.size
  · go_enter Try.func19, Try.ntmps19
    go_wp2
    go_ret
    exact ⟨rfl, rfl⟩
  · go_enter Try.func19, Try.ntmps19
    go_wp2
    go_ret
    exact ⟨rfl, rfl⟩

set_option maxHeartbeats 1000000 in
theorem keeps_walk (a0 a1 : ByteArray) (w0 : a0.size ≤ maxLen) (w1 : a1.size ≤ maxLen) (w : World) :
    Calls Try.prog 7 #[.string a0, .string a1] w fun e w' => e = .returned (.bool true) ∧ Below w.heap.size w w' := by
  by_cases hs : a0.size + a1.size ≤ 1048576
  · have hs0 : a0.size ≤ 1048576 := by omega
    have hs1 : a1.size ≤ 1048576 := by omega
    by_cases hh : HostP a1
    · have HH : Hid (HostP a1) := hh
      clear hh
      go_enter Try.func7, Try.ntmps7
      go_wp2_with (first | (go_at_call 19; refine (bytes19_yes _ _ _ hs).mono ?_; rintro e w' ⟨rfl, rfl⟩) | (go_at_call 11; refine (host_yes _ _ hs1 HH.out).mono ?_; rintro e w' ⟨rfl, rfl⟩))
      refine (zzlabel_host _ _ _ hs0 hs1 HH.out).mono ?_
      rintro e w2 ⟨rfl, hb2⟩
      have HB : Hid (Below w.heap.size w w2) := hb2
      clear hb2
      go_wp2
      go_ret
      exact ⟨by simp, HB.out⟩
    · have HH : Hid (¬ HostP a1) := hh
      clear hh
      go_enter Try.func7, Try.ntmps7
      go_wp2_with (first | (go_at_call 19; refine (bytes19_yes _ _ _ hs).mono ?_; rintro e w' ⟨rfl, rfl⟩) | (go_at_call 11; refine (host_no _ _ hs1 HH.out).mono ?_; rintro e w' ⟨rfl, rfl⟩))
      go_ret
      exact ⟨rfl, Below.refl _ _⟩
  · have hs' : 1048576 < a0.size + a1.size := by omega
    clear hs
    go_enter Try.func7, Try.ntmps7
    go_wp2_with (go_at_call 19; refine (bytes19_no _ _ _ w0 w1 hs').mono ?_; rintro e w' ⟨rfl, rfl⟩)
    go_ret
    exact ⟨rfl, Below.refl _ _⟩
end Go.Proofs.Qxb6601826a
