import Derived.Test.Qxb6601826aLabel
import Derived.Test.Qxb6601826aCanon
namespace Go.Proofs.Qxb6601826a
open Go.RowKit
set_option linter.unusedVariables false

/-! ### plain words: byte i of a string whose bytes are the escaped form of s -/
theorem escL_split (s : ByteArray) (k : Nat) (h : k < s.size) : escL s.data.toList = escTo s k ++ (esc (s[k]'h) ++ escL (s.data.toList.drop (k + 1))) := by
  have h1 : s.data.toList = s.data.toList.take (k + 1) ++ s.data.toList.drop (k + 1) := (List.take_append_drop _ _).symm
  have h2 := escL_append (s.data.toList.take (k + 1)) (s.data.toList.drop (k + 1))
  rw [← h1] at h2
  rw [h2]
  have h3 := escTo_succ s k h
  unfold escTo at h3 ⊢
  rw [h3, List.append_assoc]

/-- the bytes that stand for byte k of s. -/
theorem got_at (g s : ByteArray) (hg : g.data.toList = escL s.data.toList) (k : Nat) (h : k < s.size) (j : Nat) (x : UInt8) (hx : (esc (s[k]'h))[j]? = some x) :
    ∃ hlt : (escTo s k).length + j < g.size, g[(escTo s k).length + j]'hlt = x := by
  have hj : j < (esc (s[k]'h)).length := (List.getElem?_eq_some_iff.1 hx).1
  have hlen : (escTo s k).length + j < g.data.toList.length := by rw [hg, escL_split s k h]; simp; omega
  refine ⟨by simpa using hlen, ?_⟩
  have h1 : g.data.toList[(escTo s k).length + j]? = some x := by
    rw [hg, escL_split s k h, List.getElem?_append_right (by omega), show (escTo s k).length + j - (escTo s k).length = j by omega, List.getElem?_append_left hj]
    exact hx
  have h2 := (List.getElem?_eq_some_iff.1 h1).2
  exact h2
theorem got_end (g s : ByteArray) (hg : g.data.toList = escL s.data.toList) : g.size = (escTo s s.size).length := by
  rw [escTo_end, ← hg]
  simp
theorem got_lt (g s : ByteArray) (hg : g.data.toList = escL s.data.toList) (k : Nat) (h : k < s.size) : (escTo s (k + 1)).length ≤ g.size := by
  have h1 : g.size = (escL s.data.toList).length := by rw [← hg]; simp
  rw [h1, escL_split s k h, escTo_succ s k h]
  simp only [List.length_append]
  omega

theorem toNat_small (n : Nat) (h : n < 256) : (UInt8.ofNat n).toNat = n := by rw [UInt8.toNat_ofNat']; exact Nat.mod_eq_of_lt (by omega)
theorem esc_printable (c : UInt8) : ∀ x, x ∈ esc c → 32 ≤ x.toNat ∧ x.toNat ≤ 126 := by
  have hc : c.toNat < 256 := UInt8.toNat_lt c
  intro x hx
  unfold esc at hx
  split at hx
  · simp only [List.mem_cons, List.not_mem_nil, or_false] at hx
    rcases hx with rfl | rfl <;> decide
  · split at hx
    · simp only [List.mem_cons, List.not_mem_nil, or_false] at hx
      rcases hx with rfl | rfl | rfl | rfl
      · decide
      all_goals (rw [toNat_small _ (by omega)]; omega)
    · simp only [List.mem_cons, List.not_mem_nil, or_false] at hx
      subst hx
      omega
theorem escL_printable (l : List UInt8) : ∀ x, x ∈ escL l → 32 ≤ x.toNat ∧ x.toNat ≤ 126 := by
  induction l with
  | nil => intro x hx; simp [escL] at hx
  | cons c r ih =>
    intro x hx
    simp only [escL, List.mem_append] at hx
    rcases hx with h | h
    · exact esc_printable c x h
    · exact ih x h

theorem esc_one (c : UInt8) (h1 : (c.toNat : Int) ≠ 92) (h2 : 32 ≤ (c.toNat : Int)) (h3 : (c.toNat : Int) ≤ 126) : esc c = [c] := by
  unfold esc
  rw [if_neg (by omega), if_neg (by omega)]
theorem esc_two (c : UInt8) (h1 : (c.toNat : Int) = 92) : esc c = [92, 92] := by
  unfold esc
  rw [if_pos (by omega)]
theorem esc_four (c : UInt8) (h1 : (c.toNat : Int) ≠ 92) (h2 : (c.toNat : Int) < 32 ∨ 126 < (c.toNat : Int)) : esc c = [92, UInt8.ofNat (48 + c.toNat / 100), UInt8.ofNat (48 + c.toNat / 10 % 10), UInt8.ofNat (48 + c.toNat % 10)] := by
  unfold esc
  rw [if_neg (by omega), if_pos (by omega)]

/-! ### what stands at place i = |esc (s[:k])| of the escaped text g -/
theorem at_one (g s : ByteArray) (hg : g.data.toList = escL s.data.toList) (k i : Nat) (hi : i = (escTo s k).length) (h : k < s.size) (h1 : ((s[k]'h).toNat : Int) ≠ 92) (h2 : 32 ≤ ((s[k]'h).toNat : Int)) (h3 : ((s[k]'h).toNat : Int) ≤ 126) :
    i + 1 = (escTo s (k + 1)).length ∧ ∃ a0 : i < g.size, ((g[i]'a0).toNat : Int) = ((s[k]'h).toNat : Int) := by
  have he := esc_one _ h1 h2 h3
  subst hi
  refine ⟨by rw [escTo_succ s k h, he]; simp, ?_⟩
  obtain ⟨a, b⟩ := got_at g s hg k h 0 _ (by rw [he]; rfl)
  exact ⟨a, by simp only [Nat.add_zero] at b; rw [b]⟩
theorem at_two (g s : ByteArray) (hg : g.data.toList = escL s.data.toList) (k i : Nat) (hi : i = (escTo s k).length) (h : k < s.size) (h1 : ((s[k]'h).toNat : Int) = 92) :
    i + 2 = (escTo s (k + 1)).length ∧ ∃ (a0 : i < g.size) (a1 : i + 1 < g.size), ((g[i]'a0).toNat : Int) = 92 ∧ ((g[i + 1]'a1).toNat : Int) = 92 := by
  have he := esc_two _ h1
  subst hi
  refine ⟨by rw [escTo_succ s k h, he]; simp, ?_⟩
  obtain ⟨a, b⟩ := got_at g s hg k h 0 _ (by rw [he]; rfl)
  obtain ⟨a', b'⟩ := got_at g s hg k h 1 _ (by rw [he]; rfl)
  exact ⟨a, a', by simp only [Nat.add_zero] at b; rw [b]; rfl, by rw [b']; rfl⟩
theorem at_four (g s : ByteArray) (hg : g.data.toList = escL s.data.toList) (k i : Nat) (hi : i = (escTo s k).length) (h : k < s.size) (h1 : ((s[k]'h).toNat : Int) ≠ 92) (h2 : ((s[k]'h).toNat : Int) < 32 ∨ 126 < ((s[k]'h).toNat : Int)) :
    i + 4 = (escTo s (k + 1)).length ∧ ∃ (a0 : i < g.size) (a1 : i + 1 < g.size) (a2 : i + 2 < g.size) (a3 : i + 3 < g.size), ((g[i]'a0).toNat : Int) = 92 ∧ ((g[i + 1]'a1).toNat : Int) = 48 + ((s[k]'h).toNat : Int) / 100 ∧ ((g[i + 2]'a2).toNat : Int) = 48 + ((s[k]'h).toNat : Int) / 10 % 10 ∧ ((g[i + 3]'a3).toNat : Int) = 48 + ((s[k]'h).toNat : Int) % 10 := by
  have he := esc_four _ h1 h2
  have hc : (s[k]'h).toNat < 256 := UInt8.toNat_lt _
  subst hi
  refine ⟨by rw [escTo_succ s k h, he]; simp, ?_⟩
  obtain ⟨a, b⟩ := got_at g s hg k h 0 _ (by rw [he]; rfl)
  obtain ⟨a', b'⟩ := got_at g s hg k h 1 _ (by rw [he]; rfl)
  obtain ⟨a'', b''⟩ := got_at g s hg k h 2 _ (by rw [he]; rfl)
  obtain ⟨a3, b3⟩ := got_at g s hg k h 3 _ (by rw [he]; rfl)
  refine ⟨a, a', a'', a3, by simp only [Nat.add_zero] at b; rw [b]; rfl, ?_, ?_, ?_⟩
  · rw [b', toNat_small _ (by omega)]; omega
  · rw [b'', toNat_small _ (by omega)]; omega
  · rw [b3, toNat_small _ (by omega)]; omega

theorem digit_yes (c : Int) (w : World) (h0 : 48 ≤ c) (h1 : c ≤ 57) : Calls Try.prog 29 #[.int .u8 c] w fun e w' => e = .returned (.bool true) ∧ w = w' := by
  have d : decide (c ≤ 57) = true := decide_eq_true h1
  go_enter Try.func29, Try.ntmps29
  go_wp2
  go_ret
  exact ⟨rfl, rfl⟩

theorem take_cells (s : ByteArray) (k : Nat) (h : k < s.size) : bcells (s.data.toList.take (k + 1)) = bcells (s.data.toList.take k) ++ [.int .u8 ((s[k]'h).toNat : Int)] := by
  rw [take_snoc s k h, bcells_append]
  rfl

set_option maxHeartbeats 4000000 in
set_option maxRecDepth 100000 in
theorem unescape_any (g s : ByteArray) (w : World) (hg : g.data.toList = escL s.data.toList) (hs : s.size ≤ 1048576) (hgs : g.size ≤ 4194304) :
    Calls Try.prog 18 #[.string g] w fun e w' => e = .returned (.tuple #[.string s, .bool true]) ∧ Below w.heap.size w w' := by
  obtain ⟨i0, hi, hz0, hz1, hz2⟩ := info_parts Try.info5
  have HG : Hid (g.data.toList = escL s.data.toList) := hg
  clear hg
  go_enter Try.func18, Try.ntmps18
  go_wp2_with (at_make; refine wpList_make_own _ rfl _ _ 28 rfl w.heap.size 5 i0 (.int .u8 0) 1 Try.underlying28 hi hz0 hz1 _ _ _ g.size rfl rfl rfl (by rw [hz2]; omega) (by unfold maxLen; omega) (Nat.le_refl _) ?_)
  intro w1 hown1 hgrow1
  have HO : Hid (w1.ownsRow w.heap.size 5 1 (.slice (some ⟨w.heap.size, 0, none⟩) 0 g.size) 0 (bcells (s.data.toList.take 0))) := by show World.ownsRow _ _ _ _ _ _ _; simpa [bcells] using hown1
  have HB1 : Hid (Below w.heap.size w w1) := (Below.refl _ w).grown hgrow1 (Nat.le_refl _) (fun k hk => by cases hk)
  clear hown1 hgrow1
  go_wp2
  go_loopw [4, 5] (fun v x wr => ∃ k i : Nat, k ≤ s.size ∧ i ≤ g.size ∧ x = .int .i64 i ∧ Hid (i = (escTo s k).length) ∧ Hid (wr.ownsRow w.heap.size 5 1 v k (bcells (s.data.toList.take k))) ∧ Hid (Below w.heap.size w wr)) (fun _ x _ => g.size - (intOf x).toNat)
  case atStart => exact ⟨0, 0, by omega, by omega, rfl, rfl, HO, HB1⟩
  case round =>
    obtain ⟨k, i, hk, hig, rfl, HE, HO', HB⟩ := hrel
    clear HO HB1
    have hsz := HB.out.size
    by_cases hlt : k < s.size
    · have hu : (s[k]'hlt).toNat < 256 := UInt8.toNat_lt _
      have HC : Hid (bcells (s.data.toList.take (k + 1)) = bcells (s.data.toList.take k) ++ [.int .u8 ((s[k]'hlt).toNat : Int)]) := take_cells s k hlt
      have hown := HO'.out
      have HL : Hid ((escTo s (k + 1)).length ≤ g.size) := got_lt g s HG.out k hlt
      clear HO'
      by_cases h92 : ((s[k]'hlt).toNat : Int) = 92
      · obtain ⟨e2, a0, a1, b0, b1⟩ := at_two g s HG.out k i HE.out hlt h92
        have c0 : (((g[i]'a0).toNat : Int) != 92) = false := by rw [bne_eq_false_iff_eq]; exact b0
        have c1 : (((g[i + 1]'a1).toNat : Int) == 92) = true := by rw [beq_iff_eq]; exact b1
        have HE' : Hid (i + 2 = (escTo s (k + 1)).length) := e2
        have HX : Hid (((s[k]'hlt).toNat : Int) = 92) := h92
        clear b0 b1 e2 h92 HE
        go_wp2_with (at_builtin; refine wpList_append_own _ rfl _ _ 28 rfl w.heap.size 5 i0 (.int .u8 0) 1 1 Try.underlying28 hi hz0 hz1 hz2 rfl (by decide) _ _ _ rfl (hown.alloc _) ⟨wr.heap.size, 0, none⟩ 1 1 [.int .u8 (92)] rfl rfl (one_cell' _ _ _ rfl).1 (one_cell' wr _ 5 rfl).2 (by unfold maxLen; omega) (by omega) (by simp; omega) ?_)
        intro v' w2 hown' hgrow _
        have HB' : Hid (Below w.heap.size w w2) := below_append HB.out hsz hown hgrow
        have HO2 : Hid (w2.ownsRow w.heap.size 5 1 v' (k + 1) (bcells (s.data.toList.take (k + 1)))) := by show World.ownsRow _ _ _ _ _ _ _; rw [HC.out, HX.out]; exact hown'
        have hig' : i + 2 ≤ g.size := by have := HL.out; have := HE'.out; omega
        clear hown' hgrow hown HC HL HB c0 c1
        go_wp2
        go_roundw
        case rel => exact ⟨k + 1, i + 2, by omega, hig', by go_num, HE', HO2, HB'⟩
        case measure => simp [intOf]; omega
      rcases (show ((s[k]'hlt).toNat : Int) < 32 ∨ 126 < ((s[k]'hlt).toNat : Int) ∨ (32 ≤ ((s[k]'hlt).toNat : Int) ∧ ((s[k]'hlt).toNat : Int) ≤ 126) by omega) with ax | ax | ⟨ax, ay⟩
      · obtain ⟨e2, a0, a1, a2, a3, b0, b1, b2, b3⟩ := at_four g s HG.out k i HE.out hlt h92 (by omega)
        have c0 : (((g[i]'a0).toNat : Int) != 92) = false := by rw [bne_eq_false_iff_eq]; exact b0
        have c1 : (((g[i + 1]'a1).toNat : Int) == 92) = false := by rw [beq_eq_false_iff_ne]; omega
        have HE' : Hid (i + 4 = (escTo s (k + 1)).length) := e2
        have p1 : 48 ≤ ((g[i + 1]'a1).toNat : Int) ∧ ((g[i + 1]'a1).toNat : Int) ≤ 57 := by omega
        have p2 : 48 ≤ ((g[i + 2]'a2).toNat : Int) ∧ ((g[i + 2]'a2).toNat : Int) ≤ 57 := by omega
        have p3 : 48 ≤ ((g[i + 3]'a3).toNat : Int) ∧ ((g[i + 3]'a3).toNat : Int) ≤ 57 := by omega
        obtain ⟨p11, p12⟩ := p1
        obtain ⟨p21, p22⟩ := p2
        obtain ⟨p31, p32⟩ := p3
        have pv : (((g[i + 1]'a1).toNat : Int) - 48) * 100 + (((g[i + 2]'a2).toNat : Int) - 48) * 10 + (((g[i + 3]'a3).toNat : Int) - 48) ≤ 255 := by omega
        have HX : Hid (((s[k]'hlt).toNat : Int) = (((g[i + 1]'a1).toNat : Int) - 48) * 100 + (((g[i + 2]'a2).toNat : Int) - 48) * 10 + (((g[i + 3]'a3).toNat : Int) - 48)) := by show _ = _; omega
        clear b0 b1 b2 b3 e2 h92 HE ax
        go_wp2_with (first | (go_at_call 29; refine (digit_yes _ _ (by omega) (by omega)).mono ?_; rintro e w' ⟨rfl, rfl⟩) | (at_builtin; refine wpList_append_own _ rfl _ _ 28 rfl w.heap.size 5 i0 (.int .u8 0) 1 1 Try.underlying28 hi hz0 hz1 hz2 rfl (by decide) _ _ _ rfl (hown.alloc _) ⟨wr.heap.size, 0, none⟩ 1 1 [.int .u8 ((((g[i + 1]'a1).toNat : Int) - 48) * 100 + (((g[i + 2]'a2).toNat : Int) - 48) * 10 + (((g[i + 3]'a3).toNat : Int) - 48))] rfl rfl (one_cell' _ _ _ rfl).1 (one_cell' wr _ 5 rfl).2 (by unfold maxLen; omega) (by omega) (by simp; omega) ?_))
        intro v' w2 hown' hgrow _
        have HB' : Hid (Below w.heap.size w w2) := below_append HB.out hsz hown hgrow
        have HO2 : Hid (w2.ownsRow w.heap.size 5 1 v' (k + 1) (bcells (s.data.toList.take (k + 1)))) := by show World.ownsRow _ _ _ _ _ _ _; rw [HC.out, HX.out]; exact hown'
        have hig' : i + 4 ≤ g.size := by have := HL.out; have := HE'.out; omega
        clear hown' hgrow hown HC HL HB c0 c1 p11 p12 p21 p22 p31 p32 pv
        go_wp2
        go_roundw
        case rel => exact ⟨k + 1, i + 4, by omega, hig', by go_num, HE', HO2, HB'⟩
        case measure => simp [intOf]; omega
      · obtain ⟨e2, a0, a1, a2, a3, b0, b1, b2, b3⟩ := at_four g s HG.out k i HE.out hlt h92 (by omega)
        have c0 : (((g[i]'a0).toNat : Int) != 92) = false := by rw [bne_eq_false_iff_eq]; exact b0
        have c1 : (((g[i + 1]'a1).toNat : Int) == 92) = false := by rw [beq_eq_false_iff_ne]; omega
        have HE' : Hid (i + 4 = (escTo s (k + 1)).length) := e2
        have p1 : 48 ≤ ((g[i + 1]'a1).toNat : Int) ∧ ((g[i + 1]'a1).toNat : Int) ≤ 57 := by omega
        have p2 : 48 ≤ ((g[i + 2]'a2).toNat : Int) ∧ ((g[i + 2]'a2).toNat : Int) ≤ 57 := by omega
        have p3 : 48 ≤ ((g[i + 3]'a3).toNat : Int) ∧ ((g[i + 3]'a3).toNat : Int) ≤ 57 := by omega
        obtain ⟨p11, p12⟩ := p1
        obtain ⟨p21, p22⟩ := p2
        obtain ⟨p31, p32⟩ := p3
        have pv : (((g[i + 1]'a1).toNat : Int) - 48) * 100 + (((g[i + 2]'a2).toNat : Int) - 48) * 10 + (((g[i + 3]'a3).toNat : Int) - 48) ≤ 255 := by omega
        have HX : Hid (((s[k]'hlt).toNat : Int) = (((g[i + 1]'a1).toNat : Int) - 48) * 100 + (((g[i + 2]'a2).toNat : Int) - 48) * 10 + (((g[i + 3]'a3).toNat : Int) - 48)) := by show _ = _; omega
        clear b0 b1 b2 b3 e2 h92 HE ax
        go_wp2_with (first | (go_at_call 29; refine (digit_yes _ _ (by omega) (by omega)).mono ?_; rintro e w' ⟨rfl, rfl⟩) | (at_builtin; refine wpList_append_own _ rfl _ _ 28 rfl w.heap.size 5 i0 (.int .u8 0) 1 1 Try.underlying28 hi hz0 hz1 hz2 rfl (by decide) _ _ _ rfl (hown.alloc _) ⟨wr.heap.size, 0, none⟩ 1 1 [.int .u8 ((((g[i + 1]'a1).toNat : Int) - 48) * 100 + (((g[i + 2]'a2).toNat : Int) - 48) * 10 + (((g[i + 3]'a3).toNat : Int) - 48))] rfl rfl (one_cell' _ _ _ rfl).1 (one_cell' wr _ 5 rfl).2 (by unfold maxLen; omega) (by omega) (by simp; omega) ?_))
        intro v' w2 hown' hgrow _
        have HB' : Hid (Below w.heap.size w w2) := below_append HB.out hsz hown hgrow
        have HO2 : Hid (w2.ownsRow w.heap.size 5 1 v' (k + 1) (bcells (s.data.toList.take (k + 1)))) := by show World.ownsRow _ _ _ _ _ _ _; rw [HC.out, HX.out]; exact hown'
        have hig' : i + 4 ≤ g.size := by have := HL.out; have := HE'.out; omega
        clear hown' hgrow hown HC HL HB c0 c1 p11 p12 p21 p22 p31 p32 pv
        go_wp2
        go_roundw
        case rel => exact ⟨k + 1, i + 4, by omega, hig', by go_num, HE', HO2, HB'⟩
        case measure => simp [intOf]; omega
      · obtain ⟨e2, a0, b0⟩ := at_one g s HG.out k i HE.out hlt h92 ax ay
        have c0 : (((g[i]'a0).toNat : Int) != 92) = true := by rw [bne_iff_ne, b0]; exact h92
        have HE' : Hid (i + 1 = (escTo s (k + 1)).length) := e2
        have HX : Hid (((s[k]'hlt).toNat : Int) = ((g[i]'a0).toNat : Int)) := b0.symm
        clear b0 e2 h92 HE ax ay
        go_wp2_with (at_builtin; refine wpList_append_own _ rfl _ _ 28 rfl w.heap.size 5 i0 (.int .u8 0) 1 1 Try.underlying28 hi hz0 hz1 hz2 rfl (by decide) _ _ _ rfl (hown.alloc _) ⟨wr.heap.size, 0, none⟩ 1 1 [.int .u8 (((g[i]'a0).toNat : Int))] rfl rfl (one_cell' _ _ _ rfl).1 (one_cell' wr _ 5 rfl).2 (by unfold maxLen; omega) (by omega) (by simp; omega) ?_)
        intro v' w2 hown' hgrow _
        have HB' : Hid (Below w.heap.size w w2) := below_append HB.out hsz hown hgrow
        have HO2 : Hid (w2.ownsRow w.heap.size 5 1 v' (k + 1) (bcells (s.data.toList.take (k + 1)))) := by show World.ownsRow _ _ _ _ _ _ _; rw [HC.out, HX.out]; exact hown'
        have hig' : i + 1 ≤ g.size := by have := HL.out; have := HE'.out; omega
        clear hown' hgrow hown HC HL HB c0
        go_wp2
        go_roundw
        case rel => exact ⟨k + 1, i + 1, by omega, hig', by go_num, HE', HO2, HB'⟩
        case measure => simp [intOf]; omega
    · obtain rfl : k = s.size := by omega
      have HI : Hid (i = g.size) := by have := got_end g s HG.out; have := HE.out; show _ = _; omega
      have hi2 : g.size ≤ i := by have := HI.out; omega
      have hown := HO'.out
      have hfull : s.data.toList.take s.size = s.data.toList := List.take_of_length_le (by simp)
      rw [hfull] at hown
      have hl : s.data.toList.length = s.size := by simp
      rw [← hl] at hown
      have hcv := run_string_own hown
      have hss : (⟨s.data.toList.toArray⟩ : ByteArray) = s := by apply ByteArray.ext; simp
      rw [hss] at hcv
      clear hfull hown hl hss HO'
      go_wp2
      go_ret2
      exact ⟨rfl, HB.out⟩
end Go.Proofs.Qxb6601826a
