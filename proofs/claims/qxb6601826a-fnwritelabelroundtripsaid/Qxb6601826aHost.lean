import Derived.Test.Qxb6601826aRows
import Derived.WalkKit
import Derived.ProofKit
import Derived.OpenShut
import Derived.ShutString
namespace Go.Proofs.Qxb6601826a
open Go.RowKit

/-! ### plain words -/
def Ld (c : Int) : Prop := (97 ≤ c ∧ c ≤ 122) ∨ (65 ≤ c ∧ c ≤ 90) ∨ (48 ≤ c ∧ c ≤ 57)
def byteAt (s : ByteArray) (i : Nat) : Int := if h : i < s.size then ((s[i]'h).toNat : Int) else 0
def HostP (s : ByteArray) : Prop := 1 ≤ s.size ∧ s.size ≤ 63 ∧ byteAt s 0 ≠ 45 ∧ byteAt s (s.size - 1) ≠ 45 ∧ ∀ i, i < s.size → Ld (byteAt s i) ∨ byteAt s i = 45
theorem byteAt_eq (s : ByteArray) (i : Nat) (h : i < s.size) : byteAt s i = ((s[i]'h).toNat : Int) := by simp [byteAt, h]

/-- The call returns a bool that says whether p; the world is as it was. -/
def SaysB (p : Prop) (e : Ending) (w w' : World) : Prop := ∃ b, e = .returned (.bool b) ∧ (b = true ↔ p) ∧ w = w'
theorem SaysB.mk {p : Prop} {b : Bool} (w : World) (h : b = true ↔ p) : SaysB p (.returned (.bool b)) w w := ⟨b, rfl, h, rfl⟩

set_option maxHeartbeats 400000 in
theorem letdig_any (c : Int) (w : World) (h0 : 0 ≤ c) (h1 : c ≤ 255) :
    Calls Try.prog 25 #[.int .u8 c] w fun e w' => SaysB (Ld c) e w w' := by
  rcases (show c < 48 ∨ (48 ≤ c ∧ c ≤ 57) ∨ (57 < c ∧ c < 65) ∨ (65 ≤ c ∧ c ≤ 90) ∨ (90 < c ∧ c < 97) ∨ (97 ≤ c ∧ c ≤ 122) ∨ 122 < c by omega) with h | ⟨h, h'⟩ | ⟨h, h'⟩ | ⟨h, h'⟩ | ⟨h, h'⟩ | ⟨h, h'⟩ | h
  all_goals
    go_enter Try.func25, Try.ntmps25
    go_wp2
    go_ret
    exact SaysB.mk _ (by simp only [Ld, Bool.or_eq_true, decide_eq_true_eq, Bool.false_eq_true, true_iff, false_iff]; omega)

theorem toList_isEmpty (s : ByteArray) : s.toList.isEmpty = decide (s.size = 0) := by
  rw [ByteArray.toList_eq]
  have h : s.size = s.data.toList.length := by simp
  rw [h]
  cases s.data.toList <;> simp

theorem notHost_first (s : ByteArray) (hp : 0 < s.size) (ha : ((s[0]'hp).toNat : Int) = 45) : ¬ HostP s := fun h => h.2.2.1 (by rw [byteAt_eq s 0 hp]; exact ha)
theorem notHost_last (s : ByteArray) (hp : s.size - 1 < s.size) (ha : ((s[s.size - 1]'hp).toNat : Int) = 45) : ¬ HostP s := fun h => h.2.2.2.1 (by rw [byteAt_eq s _ hp]; exact ha)
theorem false_says {p : Prop} (h : ¬ p) : (false = true ↔ p) := by simp [h]
theorem true_says {p : Prop} (h : p) : (true = true ↔ p) := by simp [h]

set_option maxHeartbeats 1000000 in
theorem host_any (s : ByteArray) (w : World) (hs : s.size ≤ 1048576) :
    Calls Try.prog 11 #[.string s] w fun e w' => SaysB (HostP s) e w w' := by
  by_cases h0 : s.size = 0
  · have he : s.toList.isEmpty = true := by rw [toList_isEmpty]; simp [h0]
    have HN : Hid (¬ HostP s) := fun h => by have := h.1; omega
    clear h0
    go_enter Try.func11, Try.ntmps11
    go_wp2
    go_ret
    exact SaysB.mk _ (false_says HN.out)
  have he : s.toList.isEmpty = false := by rw [toList_isEmpty]; simp [h0]
  by_cases h63 : 63 < s.size
  · have HN : Hid (¬ HostP s) := fun h => by have := h.2.1; omega
    go_enter Try.func11, Try.ntmps11
    go_wp2
    go_ret
    exact SaysB.mk _ (false_says HN.out)
  have h63' : s.size ≤ 63 := by omega
  have hp : 0 < s.size := by omega
  clear h63 h0
  by_cases ha : ((s[0]'hp).toNat : Int) = 45
  · have HN : Hid (¬ HostP s) := notHost_first s hp ha
    have hab : (((s[0]'hp).toNat : Int) == 45) = true := by simp [ha]
    clear ha
    go_enter Try.func11, Try.ntmps11
    go_wp2
    go_ret
    exact SaysB.mk _ (false_says HN.out)
  have hab : (((s[0]'hp).toNat : Int) == 45) = false := by simp [ha]
  have hl : s.size - 1 < s.size := by omega
  have H0 : Hid (byteAt s 0 ≠ 45) := by rw [byteAt_eq s 0 hp]; exact ha
  clear ha
  by_cases hb : ((s[s.size - 1]'hl).toNat : Int) = 45
  · have HN : Hid (¬ HostP s) := notHost_last s hl hb
    have hbb : (((s[s.size - 1]'hl).toNat : Int) == 45) = true := by simp [hb]
    clear hb
    go_enter Try.func11, Try.ntmps11
    go_wp2
    go_ret
    exact SaysB.mk _ (false_says HN.out)
  have hbb : (((s[s.size - 1]'hl).toNat : Int) == 45) = false := by simp [hb]
  have HL : Hid (byteAt s (s.size - 1) ≠ 45) := by rw [byteAt_eq s _ hl]; exact hb
  clear hb
  go_enter Try.func11, Try.ntmps11
  go_wp2
  go_loop [3] (fun i => ∃ k : Nat, k ≤ s.size ∧ i = .int .i64 k ∧ Hid (∀ j, j < k → Ld (byteAt s j) ∨ byteAt s j = 45)) (fun i => s.size - (intOf i).toNat)
  case atStart => exact ⟨0, Nat.zero_le _, rfl, fun j hj => by omega⟩
  case round =>
    obtain ⟨k, hk, rfl, HA⟩ := hrel
    by_cases hlt : k < s.size
    · have hB := byteAt_eq s k hlt
      have hu : (s[k]'hlt).toNat < 256 := UInt8.toNat_lt _
      by_cases hok : Ld (byteAt s k) ∨ byteAt s k = 45
      · have HA' : Hid (∀ j, j < k + 1 → Ld (byteAt s j) ∨ byteAt s j = 45) := fun j hj => by
          rcases Nat.lt_or_eq_of_le (Nat.le_of_lt_succ hj) with h | h
          · exact HA.out j h
          · rw [h]; exact hok
        clear HA
        rw [hB] at hok
        clear hB
        simp only [Ld] at hok
        rcases hok with (⟨a, b⟩ | ⟨a, b⟩ | ⟨a, b⟩) | a
        · go_wp2
          go_round
          case rel => exact ⟨k + 1, by omega, by go_num, HA'⟩
          case measure => simp [intOf]; omega
        · go_wp2
          go_round
          case rel => exact ⟨k + 1, by omega, by go_num, HA'⟩
          case measure => simp [intOf]; omega
        · go_wp2
          go_round
          case rel => exact ⟨k + 1, by omega, by go_num, HA'⟩
          case measure => simp [intOf]; omega
        · have a1 : (((s[k]'hlt).toNat : Int) == 45) = true := by simp [a]
          have a2 : 45 ≤ ((s[k]'hlt).toNat : Int) ∧ ((s[k]'hlt).toNat : Int) ≤ 45 := by omega
          clear a
          go_wp2
          go_round
          case rel => exact ⟨k + 1, by omega, by go_num, HA'⟩
          case measure => simp [intOf]; omega
      · have HN : Hid (¬ HostP s) := fun h => hok (h.2.2.2.2 k hlt)
        rw [hB] at hok
        clear hB HA
        simp only [Ld] at hok
        rcases (show ((s[k]'hlt).toNat : Int) < 45 ∨ (45 < ((s[k]'hlt).toNat : Int) ∧ ((s[k]'hlt).toNat : Int) < 48) ∨ (57 < ((s[k]'hlt).toNat : Int) ∧ ((s[k]'hlt).toNat : Int) < 65) ∨ (90 < ((s[k]'hlt).toNat : Int) ∧ ((s[k]'hlt).toNat : Int) < 97) ∨ 122 < ((s[k]'hlt).toNat : Int) by omega) with a | ⟨a, b⟩ | ⟨a, b⟩ | ⟨a, b⟩ | a
        · have hne : (((s[k]'hlt).toNat : Int) == 45) = false := by rw [beq_eq_false_iff_ne]; omega
          clear hok
          go_wp2
          go_ret
          exact SaysB.mk _ (false_says HN.out)
        · have hne : (((s[k]'hlt).toNat : Int) == 45) = false := by rw [beq_eq_false_iff_ne]; omega
          clear hok
          go_wp2
          go_ret
          exact SaysB.mk _ (false_says HN.out)
        · have hne : (((s[k]'hlt).toNat : Int) == 45) = false := by rw [beq_eq_false_iff_ne]; omega
          have d57 : decide (((s[k]'hlt).toNat : Int) ≤ 57) = false := decide_eq_false (by omega)
          clear hok
          go_wp2
          go_ret
          exact SaysB.mk _ (false_says HN.out)
        · have hne : (((s[k]'hlt).toNat : Int) == 45) = false := by rw [beq_eq_false_iff_ne]; omega
          have d57 : decide (((s[k]'hlt).toNat : Int) ≤ 57) = false := decide_eq_false (by omega)
          have d90 : decide (((s[k]'hlt).toNat : Int) ≤ 90) = false := decide_eq_false (by omega)
          clear hok
          go_wp2
          go_ret
          exact SaysB.mk _ (false_says HN.out)
        · have hne : (((s[k]'hlt).toNat : Int) == 45) = false := by rw [beq_eq_false_iff_ne]; omega
          have d57 : decide (((s[k]'hlt).toNat : Int) ≤ 57) = false := decide_eq_false (by omega)
          have d90 : decide (((s[k]'hlt).toNat : Int) ≤ 90) = false := decide_eq_false (by omega)
          have d122 : decide (((s[k]'hlt).toNat : Int) ≤ 122) = false := decide_eq_false (by omega)
          clear hok
          go_wp2
          go_ret
          exact SaysB.mk _ (false_says HN.out)
    · have HN : Hid (HostP s) := ⟨by omega, h63', H0.out, HL.out, fun i hi => HA.out i (by omega)⟩
      go_wp2
      go_ret
      exact SaysB.mk _ (true_says HN.out)

/-! ### the automaton -/
theorem letdig_yes (c : Int) (w : World) (h0 : 0 ≤ c) (h1 : c ≤ 255) (h : Ld c) : Calls Try.prog 25 #[.int .u8 c] w fun e w' => e = .returned (.bool true) ∧ w = w' :=
  (letdig_any c w h0 h1).mono (by rintro e w' ⟨b, rfl, hb, rfl⟩; rw [hb.2 h]; exact ⟨rfl, rfl⟩)
theorem letdig_no (c : Int) (w : World) (h0 : 0 ≤ c) (h1 : c ≤ 255) (h : ¬ Ld c) : Calls Try.prog 25 #[.int .u8 c] w fun e w' => e = .returned (.bool false) ∧ w = w' :=
  (letdig_any c w h0 h1).mono (by
    rintro e w' ⟨b, rfl, hb, rfl⟩
    cases b
    · exact ⟨rfl, rfl⟩
    · exact absurd (hb.1 rfl) h)

def Inv (s : ByteArray) (k q : Nat) : Prop :=
  (∀ j, j < k → Ld (byteAt s j) ∨ byteAt s j = 45) ∧ (0 < k → byteAt s 0 ≠ 45) ∧ (k = 0 → q = 0) ∧ (0 < k → (q = 1 ∧ Ld (byteAt s (k - 1))) ∨ (q = 2 ∧ byteAt s (k - 1) = 45))

theorem Ld_ne {c : Int} (h : Ld c) : c ≠ 45 := by unfold Ld at h; omega

theorem inv_letter {s : ByteArray} {k q : Nat} (h : Inv s k q) (hl : Ld (byteAt s k)) : Inv s (k + 1) 1 := by
  obtain ⟨h1, h2, h3, h4⟩ := h
  refine ⟨fun j hj => ?_, fun _ => ?_, by omega, fun _ => .inl ⟨rfl, by simpa using hl⟩⟩
  · rcases Nat.lt_or_eq_of_le (Nat.le_of_lt_succ hj) with h | h
    · exact h1 j h
    · rw [h]; exact .inl hl
  · rcases Nat.eq_zero_or_pos k with h | h
    · rw [h] at hl; exact Ld_ne hl
    · exact h2 h

theorem inv_hyphen {s : ByteArray} {k q : Nat} (h : Inv s k q) (hk : 0 < k) (hl : byteAt s k = 45) : Inv s (k + 1) 2 := by
  obtain ⟨h1, h2, h3, h4⟩ := h
  refine ⟨fun j hj => ?_, fun _ => h2 hk, by omega, fun _ => .inr ⟨rfl, by simpa using hl⟩⟩
  rcases Nat.lt_or_eq_of_le (Nat.le_of_lt_succ hj) with h | h
  · exact h1 j h
  · rw [h]; exact .inr hl

theorem inv_end {s : ByteArray} {q : Nat} (h : Inv s s.size q) (h1 : 1 ≤ s.size) (h63 : s.size ≤ 63) : (((q : Int) == 1) = true ↔ HostP s) := by
  obtain ⟨a1, a2, a3, a4⟩ := h
  rw [beq_iff_eq]
  constructor
  · intro hq
    refine ⟨h1, h63, a2 h1, ?_, a1⟩
    rcases a4 h1 with ⟨_, hl⟩ | ⟨h2, _⟩
    · exact Ld_ne hl
    · omega
  · intro hh
    rcases a4 h1 with ⟨hq, _⟩ | ⟨_, h2⟩
    · omega
    · exact absurd h2 hh.2.2.2.1

set_option maxHeartbeats 1000000 in
theorem model_any (s : ByteArray) (w : World) (hs : s.size ≤ 1048576) :
    Calls Try.prog 12 #[.string s] w fun e w' => SaysB (HostP s) e w w' := by
  by_cases h0 : s.size < 1
  · have HN : Hid (¬ HostP s) := fun h => by have := h.1; omega
    go_enter Try.func12, Try.ntmps12
    go_wp2
    go_ret
    exact SaysB.mk _ (false_says HN.out)
  have hp : 1 ≤ s.size := by omega
  clear h0
  by_cases h63 : 63 < s.size
  · have HN : Hid (¬ HostP s) := fun h => by have := h.2.1; omega
    go_enter Try.func12, Try.ntmps12
    go_wp2
    go_ret
    exact SaysB.mk _ (false_says HN.out)
  have h63' : s.size ≤ 63 := by omega
  clear h63
  go_enter Try.func12, Try.ntmps12
  go_wp2
  go_loop [3, 4] (fun st i => ∃ k q : Nat, k ≤ s.size ∧ i = .int .i64 k ∧ st = .int .i64 q ∧ Hid (Inv s k q)) (fun _ i => s.size - (intOf i).toNat)
  case atStart => exact ⟨0, 0, Nat.zero_le _, rfl, rfl, ⟨fun j hj => by omega, fun h => by omega, fun _ => rfl, fun h => by omega⟩⟩
  case round =>
    obtain ⟨k, q, hk, rfl, rfl, HI⟩ := hrel
    by_cases hlt : k < s.size
    · have hB := byteAt_eq s k hlt
      have hu : (s[k]'hlt).toNat < 256 := UInt8.toNat_lt _
      by_cases hl : Ld (byteAt s k)
      · have HI' : Hid (Inv s (k + 1) 1) := inv_letter HI.out hl
        rw [hB] at hl
        have HL : Hid (Ld ((s[k]'hlt).toNat : Int)) := hl
        clear hB hl HI
        go_wp2_with (go_at_call 25; refine (letdig_yes _ _ (by omega) (by omega) HL.out).mono ?_; rintro e w' ⟨rfl, rfl⟩)
        go_round
        case rel => exact ⟨k + 1, 1, by omega, by go_num, rfl, HI'⟩
        case measure => simp [intOf]; omega
      have HL : Hid (¬ Ld ((s[k]'hlt).toNat : Int)) := by rw [hB] at hl; exact hl
      by_cases h45 : byteAt s k = 45
      · by_cases hk0 : k = 0
        · subst hk0
          have HN : Hid (¬ HostP s) := fun h => h.2.2.1 h45
          obtain rfl : q = 0 := HI.out.2.2.1 rfl
          have hc : (((s[0]'hlt).toNat : Int) == 45) = true := by rw [← hB]; simp [h45]
          clear hB h45 hl HI
          go_wp2_with (go_at_call 25; refine (letdig_no _ _ (by omega) (by omega) HL.out).mono ?_; rintro e w' ⟨rfl, rfl⟩)
          go_ret
          exact SaysB.mk _ (false_says HN.out)
        · have HI' : Hid (Inv s (k + 1) 2) := inv_hyphen HI.out (by omega) h45
          have hq : 1 ≤ (q : Int) := by have := HI.out.2.2.2 (by omega); omega
          have hc : (((s[k]'hlt).toNat : Int) == 45) = true := by rw [← hB]; simp [h45]
          have hq' : ((q : Int) != 0) = true := by rw [bne_iff_ne]; omega
          clear hB h45 hl HI
          go_wp2_with (go_at_call 25; refine (letdig_no _ _ (by omega) (by omega) HL.out).mono ?_; rintro e w' ⟨rfl, rfl⟩)
          go_round
          case rel => exact ⟨k + 1, 2, by omega, by go_num, rfl, HI'⟩
          case measure => simp [intOf]; omega
      · have HN : Hid (¬ HostP s) := fun h => by rcases h.2.2.2.2 k hlt with h | h <;> contradiction
        have hc : (((s[k]'hlt).toNat : Int) == 45) = false := by rw [← hB]; simp [h45]
        clear hB h45 hl HI
        go_wp2_with (go_at_call 25; refine (letdig_no _ _ (by omega) (by omega) HL.out).mono ?_; rintro e w' ⟨rfl, rfl⟩)
        go_ret
        exact SaysB.mk _ (false_says HN.out)
    · obtain rfl : k = s.size := by omega
      have HE : Hid (((q : Int) == 1) = true ↔ HostP s) := inv_end HI.out hp h63'
      clear HI
      go_wp2
      go_ret
      exact SaysB.mk _ HE.out

/-! ### the bound on bytes -/
theorem bytes10_yes (s : ByteArray) (w : World) (h : s.size ≤ 1048576) : Calls Try.prog 10 #[.string s] w fun e w' => e = .returned (.bool true) ∧ w = w' := by
  go_enter Try.func10, Try.ntmps10
  go_wp2
  go_ret
  exact ⟨rfl, rfl⟩
theorem bytes10_no (s : ByteArray) (w : World) (h : 1048576 < s.size) : Calls Try.prog 10 #[.string s] w fun e w' => e = .returned (.bool false) ∧ w = w' := by
  go_enter Try.func10, Try.ntmps10
  go_wp2
  go_ret
  exact ⟨rfl, rfl⟩
end Go.Proofs.Qxb6601826a
