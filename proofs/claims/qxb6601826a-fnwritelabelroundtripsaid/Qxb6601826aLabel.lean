import Derived.Test.Qxb6601826aHost
import Derived.Test.Qxb6601826aBuild
namespace Go.Proofs.Qxb6601826a
open Go.RowKit
set_option linter.unusedVariables false

/-! ### plain words -/
def esc (c : UInt8) : List UInt8 :=
  if c.toNat = 92 then [92, 92]
  else if c.toNat < 32 ∨ 126 < c.toNat then [92, UInt8.ofNat (48 + c.toNat / 100), UInt8.ofNat (48 + c.toNat / 10 % 10), UInt8.ofNat (48 + c.toNat % 10)]
  else [c]
def escL : List UInt8 → List UInt8
  | [] => []
  | c :: r => esc c ++ escL r
theorem escL_append (a b : List UInt8) : escL (a ++ b) = escL a ++ escL b := by
  induction a with
  | nil => rfl
  | cons c r ih => simp [escL, ih]
theorem esc_len (c : UInt8) : 1 ≤ (esc c).length ∧ (esc c).length ≤ 4 := by
  unfold esc
  split
  · decide
  · split <;> simp
theorem escL_len (l : List UInt8) : l.length ≤ (escL l).length ∧ (escL l).length ≤ 4 * l.length := by
  induction l with
  | nil => simp [escL]
  | cons c r ih =>
    have := esc_len c
    simp [escL]
    omega
theorem take_snoc8 (s : ByteArray) (k : Nat) (h : k < s.size) : s.data.toList.take (k + 1) = s.data.toList.take k ++ [s[k]] := by
  rw [List.take_succ_eq_append_getElem (by simpa using h)]; rfl
def escTo (s : ByteArray) (k : Nat) : List UInt8 := escL (s.data.toList.take k)
theorem escTo_succ (s : ByteArray) (k : Nat) (h : k < s.size) : escTo s (k + 1) = escTo s k ++ esc (s[k]'h) := by
  unfold escTo
  rw [take_snoc8 s k h, escL_append]
  simp [escL]
theorem escTo_len (s : ByteArray) (k : Nat) (h : k ≤ s.size) : (escTo s k).length ≤ 4 * k := by
  have := (escL_len (s.data.toList.take k)).2
  unfold escTo
  rw [List.length_take] at this
  omega
theorem escTo_end (s : ByteArray) : escTo s s.size = escL s.data.toList := by
  unfold escTo
  rw [List.take_of_length_le (by simp)]
theorem esc_bs (c : UInt8) (h : (c.toNat : Int) = 92) : Lib.byteCells (esc c) = Lib.strCells ⟨#[92, 92]⟩ := by
  unfold esc
  rw [if_pos (by omega)]
  rfl
theorem esc_plain (c : UInt8) (h1 : (c.toNat : Int) ≠ 92) (h2 : 32 ≤ (c.toNat : Int)) (h3 : (c.toNat : Int) ≤ 126) : Lib.byteCells (esc c) = [.int .u8 (c.toNat : Int)] := by
  unfold esc
  rw [if_neg (by omega), if_neg (by omega)]
  rfl
theorem esc_dec (c : UInt8) (h1 : (c.toNat : Int) ≠ 92) (h2 : (c.toNat : Int) < 32 ∨ 126 < (c.toNat : Int)) :
    Lib.byteCells (esc c) = [.int .u8 92, .int .u8 (48 + (c.toNat : Int) / 100), .int .u8 (48 + (c.toNat : Int) / 10 % 10), .int .u8 (48 + (c.toNat : Int) % 10)] := by
  have hc : c.toNat < 256 := UInt8.toNat_lt c
  unfold esc
  rw [if_neg (by omega), if_pos (by omega)]
  simp only [Lib.byteCells, List.map_cons, List.map_nil, UInt8.toNat_ofNat']
  have a1 : (48 + c.toNat / 100) % 2 ^ 8 = 48 + c.toNat / 100 := Nat.mod_eq_of_lt (by omega)
  have a2 : (48 + c.toNat / 10 % 10) % 2 ^ 8 = 48 + c.toNat / 10 % 10 := Nat.mod_eq_of_lt (by omega)
  have a3 : (48 + c.toNat % 10) % 2 ^ 8 = 48 + c.toNat % 10 := Nat.mod_eq_of_lt (by omega)
  rw [a1, a2, a3]
  simp

theorem builder_alloc {B b : Nat} {bs : List Value} {w : World} (h : Lib.IsBuilder 36 5 B b bs w) (o : Obj) : Lib.IsBuilder 36 5 B b bs (w.alloc o) := by
  have key : ∀ p, Lib.BuilderAt 36 5 B b p bs w → Lib.BuilderAt 36 5 B b p bs (w.alloc o) := by
    rintro p ⟨hB, v, hbk, hown, hne⟩
    exact ⟨hB, v, (Lib.alloc_old w o b (Array.getElem?_eq_some_iff.1 hbk).1).trans hbk, hown.alloc o, hne⟩
  rcases h with h | h
  · exact .inl (key _ h)
  · exact .inr (key _ h)
theorem builder_lt {B b : Nat} {bs : List Value} {w : World} (h : Lib.IsBuilder 36 5 B b bs w) : b < w.heap.size := by
  rcases h with h | h <;> exact h.lt
theorem four_cells (w : World) (x0 x1 x2 x3 : Int) : (∀ (j : Nat) (u : Value), [Value.int .u8 x0, .int .u8 x1, .int .u8 x2, .int .u8 x3][j]? = some u → (w.alloc (.cells #[.int .u8 x0, .int .u8 x1, .int .u8 x2, .int .u8 x3] 5)).cell? ((⟨w.heap.size, 0, none⟩ : Addr).add j) = some u) ∧ ∀ u ∈ [Value.int .u8 x0, .int .u8 x1, .int .u8 x2, .int .u8 x3], u.oneCell' = true := by
  refine ⟨?_, ?_⟩
  · intro j u hj
    have hc : (w.alloc (.cells #[.int .u8 x0, .int .u8 x1, .int .u8 x2, .int .u8 x3] 5)).heap[w.heap.size]? = some (.cells #[.int .u8 x0, .int .u8 x1, .int .u8 x2, .int .u8 x3] 5 (0, 0)) := heap_alloc_new w _
    rw [Addr.add_lit, Lib.cell_of_heap hc, Nat.zero_add]
    simpa using hj
  · intro u hu
    simp at hu
    rcases hu with rfl | rfl | rfl | rfl <;> rfl

set_option maxHeartbeats 2000000 in
theorem label_any (B b : Nat) (pre : List UInt8) (s : ByteArray) (w : World) (h : Lib.IsBuilder 36 5 B b (Lib.byteCells pre) w) (hp : pre.length ≤ 1048576) (hs : s.size ≤ 1048576) (hBw : B ≤ w.heap.size) :
    Calls Try.prog 27 #[.pointer (some ⟨b, 0, none⟩), .string s] w fun e w' => e = .returned (.tuple #[]) ∧ Lib.IsBuilder 36 5 B b (Lib.byteCells (pre ++ escL s.data.toList)) w' ∧ Below B w w' := by
  go_enter Try.func27, Try.ntmps27
  go_wp2
  go_loopw [4] (fun i wr => ∃ k : Nat, k ≤ s.size ∧ i = .int .i64 k ∧ Hid (Lib.IsBuilder 36 5 B b (Lib.byteCells (pre ++ escTo s k)) wr) ∧ Hid (Below B w wr)) (fun i _ => s.size - (intOf i).toNat)
  case atStart => exact ⟨0, Nat.zero_le _, rfl, by simpa [escTo, escL, Hid] using h, Below.refl _ _⟩
  case round =>
    obtain ⟨k, hk, rfl, HI, HB⟩ := hrel
    have hsz := HB.out.size
    by_cases hlt : k < s.size
    · have hu : (s[k]'hlt).toNat < 256 := UInt8.toNat_lt _
      have HE : Hid (pre ++ escTo s (k + 1) = (pre ++ escTo s k) ++ esc (s[k]'hlt)) := by show _ = _; rw [escTo_succ s k hlt, List.append_assoc]
      have HL : Hid ((Lib.byteCells (pre ++ escTo s k)).length ≤ 5242880) := by
        have := escTo_len s k hk
        show _ ≤ _
        simp [Lib.byteCells]
        omega
      by_cases h92 : ((s[k]'hlt).toNat : Int) = 92
      · have e1 : (((s[k]'hlt).toNat : Int) == 92) = true := by rw [beq_iff_eq]; exact h92
        have HC : Hid (Lib.byteCells (esc (s[k]'hlt)) = Lib.strCells ⟨#[92, 92]⟩) := esc_bs _ h92
        clear h92
        go_wp2_with (go_at_call 26; refine (writeString_any B b _ ⟨#[92, 92]⟩ _ HI.out (by have := HL.out; show _ + 2 ≤ _; omega) (by omega)).mono ?_)
        rintro e w1 ⟨rfl, h1, b1⟩
        have HI' : Hid (Lib.IsBuilder 36 5 B b (Lib.byteCells (pre ++ escTo s (k + 1))) w1) := by show Lib.IsBuilder _ _ _ _ _ _; rw [HE.out, Lib.byteCells_append, HC.out]; exact h1
        have HB' : Hid (Below B w w1) := HB.out.trans b1
        clear h1 b1 HB HI HE HL HC
        go_wp2
        go_roundw
        case rel => exact ⟨k + 1, by omega, by go_num, HI', HB'⟩
        case measure => simp [intOf]; omega
      have e1 : (((s[k]'hlt).toNat : Int) == 92) = false := by rw [beq_eq_false_iff_ne]; exact h92
      rcases (show ((s[k]'hlt).toNat : Int) < 32 ∨ 126 < ((s[k]'hlt).toNat : Int) ∨ (32 ≤ ((s[k]'hlt).toNat : Int) ∧ ((s[k]'hlt).toNat : Int) ≤ 126) by omega) with a1 | a1 | ⟨a1, a2⟩
      · have d1 : decide (((s[k]'hlt).toNat : Int) < 32) = true := decide_eq_true a1
        have HC : Hid (Lib.byteCells (esc (s[k]'hlt)) = [.int .u8 92, .int .u8 (48 + ((s[k]'hlt).toNat : Int) / 100), .int .u8 (48 + ((s[k]'hlt).toNat : Int) / 10 % 10), .int .u8 (48 + ((s[k]'hlt).toNat : Int) % 10)]) := esc_dec _ h92 (by omega)
        clear h92
        go_wp2_with fail
        refine (write_any B b _ wr.heap.size 4 4 _ _ (builder_alloc HI.out _) rfl (four_cells wr _ _ _ _).1 (by have := builder_lt HI.out; omega) (four_cells wr _ _ _ _).2 (by have := HL.out; omega) (by simp; omega)).mono ?_
        rintro e w1 ⟨rfl, h1, b1⟩
        have HI' : Hid (Lib.IsBuilder 36 5 B b (Lib.byteCells (pre ++ escTo s (k + 1))) w1) := by show Lib.IsBuilder _ _ _ _ _ _; rw [HE.out, Lib.byteCells_append, HC.out]; exact h1
        have HB' : Hid (Below B w w1) := (HB.out.alloc (by omega) _).trans b1
        clear h1 b1 HB HI HE HL HC
        go_wp2
        go_roundw
        case rel => exact ⟨k + 1, by omega, by go_num, HI', HB'⟩
        case measure => simp [intOf]; omega
      · have d2 : decide (126 < ((s[k]'hlt).toNat : Int)) = true := decide_eq_true a1
        have HC : Hid (Lib.byteCells (esc (s[k]'hlt)) = [.int .u8 92, .int .u8 (48 + ((s[k]'hlt).toNat : Int) / 100), .int .u8 (48 + ((s[k]'hlt).toNat : Int) / 10 % 10), .int .u8 (48 + ((s[k]'hlt).toNat : Int) % 10)]) := esc_dec _ h92 (by omega)
        clear h92
        go_wp2_with fail
        refine (write_any B b _ wr.heap.size 4 4 _ _ (builder_alloc HI.out _) rfl (four_cells wr _ _ _ _).1 (by have := builder_lt HI.out; omega) (four_cells wr _ _ _ _).2 (by have := HL.out; omega) (by simp; omega)).mono ?_
        rintro e w1 ⟨rfl, h1, b1⟩
        have HI' : Hid (Lib.IsBuilder 36 5 B b (Lib.byteCells (pre ++ escTo s (k + 1))) w1) := by show Lib.IsBuilder _ _ _ _ _ _; rw [HE.out, Lib.byteCells_append, HC.out]; exact h1
        have HB' : Hid (Below B w w1) := (HB.out.alloc (by omega) _).trans b1
        clear h1 b1 HB HI HE HL HC
        go_wp2
        go_roundw
        case rel => exact ⟨k + 1, by omega, by go_num, HI', HB'⟩
        case measure => simp [intOf]; omega
      · have d1 : decide (((s[k]'hlt).toNat : Int) < 32) = false := decide_eq_false (by omega)
        have d2 : decide (126 < ((s[k]'hlt).toNat : Int)) = false := decide_eq_false (by omega)
        have HC : Hid (Lib.byteCells (esc (s[k]'hlt)) = [.int .u8 ((s[k]'hlt).toNat : Int)]) := esc_plain _ h92 a1 a2
        clear h92
        go_wp2_with (go_at_call 32; refine (writeByte_any B b _ _ _ HI.out (by have := HL.out; omega) (by omega)).mono ?_)
        rintro e w1 ⟨rfl, h1, b1⟩
        have HI' : Hid (Lib.IsBuilder 36 5 B b (Lib.byteCells (pre ++ escTo s (k + 1))) w1) := by show Lib.IsBuilder _ _ _ _ _ _; rw [HE.out, Lib.byteCells_append, HC.out]; exact h1
        have HB' : Hid (Below B w w1) := HB.out.trans b1
        clear h1 b1 HB HI HE HL HC
        go_wp2
        go_roundw
        case rel => exact ⟨k + 1, by omega, by go_num, HI', HB'⟩
        case measure => simp [intOf]; omega
    · obtain rfl : k = s.size := by omega
      go_wp2
      go_end0
      refine ⟨rfl, ?_, HB.out⟩
      rw [← escTo_end]
      exact HI.out

set_option maxHeartbeats 1000000 in
theorem zzlabel_any (p s : ByteArray) (w : World) (hp : p.size ≤ 1048576) (hs : s.size ≤ 1048576) :
    Calls Try.prog 17 #[.string p, .string s] w fun e w' => e = .returned (.string ⟨(p.data.toList ++ escL s.data.toList).toArray⟩) ∧ Below w.heap.size w w' := by
  go_enter Try.func17, Try.ntmps17
  go_wp2_with fail
  refine (writeString_any w.heap.size w.heap.size [] p _ (Lib.fresh_isBuilder 36 5 w) (by simp; omega) (by simp)).mono ?_
  rintro e w1 ⟨rfl, h1, b1⟩
  have hz1 := b1.size
  simp at hz1
  have hI1 : Lib.IsBuilder 36 5 w.heap.size w.heap.size (Lib.byteCells p.data.toList) w1 := h1
  clear h1
  go_wp2_with fail
  refine (label_any w.heap.size w.heap.size p.data.toList s _ hI1 (by simpa using hp) hs (by omega)).mono ?_
  rintro e w2 ⟨rfl, h2, b2⟩
  have hz2 := b2.size
  clear hI1
  go_wp2_with fail
  refine (Try.Builder_String_any w.heap.size w.heap.size (p.data.toList ++ escL s.data.toList) _ h2 (by omega)).mono ?_
  rintro e w3 ⟨rfl, b3⟩
  go_wp2
  go_ret
  exact ⟨rfl, ((((Below.refl _ w).alloc (Nat.le_refl _) _).trans b1).trans b2).trans b3⟩
end Go.Proofs.Qxb6601826a
