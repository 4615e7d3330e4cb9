import Derived.Test.Qxb6602237aKeys
namespace Go.Proofs.Qxb6602237a
open Go.RowKit
set_option linter.unusedVariables false

theorem make_exact {P : Program} (w : World) {ops : Array Oper} {rest : List Oper} {o : Oper} {a : Act} {Q : Exit → Act → World → Prop}
    (hg : o.guard = none) (l c : Operand) (t : TypeId) (hop : o.op = Op.makeSlice t l c)
    (e : TypeId) (i : TypeInfo) (z : Value) (size : Nat) (h1 : P.underlying t = some (.slice e)) (h2 : P.info? e = some i) (h3 : i.zero = some z) (h4 : i.size = size)
    (kl kc : IntKind) (L C : Int) (n : Nat) (hl : a.eval l = .int kl L) (hc : a.eval c = .int kc C) (hL : L = (n : Int)) (hC : C = (n : Int)) (b2 : i.bytes * n ≤ 281474976710656) (b3 : n ≤ maxLen)
    (hK : wpList P ops Q rest (a.put o.dst (.slice (some ⟨w.heap.size, 0, none⟩) n n)) (w.alloc (.cells (madeCells z.cells (n * size)) e))) :
    wpList P ops Q (o :: rest) a w := by
  refine wpList_plain hg fun K hK' => ?_
  subst hL
  subst hC
  subst h4
  have b2' : (i.bytes : Int) * (n : Int) ≤ 281474976710656 := by
    have h : ((i.bytes * n : Nat) : Int) ≤ 281474976710656 := by omega
    rwa [Int.natCast_mul] at h
  have hrun := run_make (P := P) w t e i z h1 h2 h3 kl kc n n (by omega) (by omega) b2' (by unfold maxLen at b3; omega)
  simp only [Int.toNat_natCast] at hrun
  unfold Oper.wp
  simp [execOp, hop, hl, hc, hrun, Result.andThen]
  exact hK' _ _ hK

/-- a row of five, its first k as f says. -/
def Row (T : TypeId) (w : World) (g k : Nat) (f : Nat → Value) : Prop := ∃ cur : Array Value, w.heap[g]? = some (.cells cur T (0, 0)) ∧ cur.size = 5 ∧ ∀ j, j < k → cur[j]? = some (f j)
theorem Row.set {T : TypeId} {w : World} {g k : Nat} {f : Nat → Value} (h : Row T w g k f) (hk : k < 5) : Row T (w.setCell ⟨g, k, none⟩ (f k)) g (k + 1) f := by
  obtain ⟨cur, h1, h2, h3⟩ := h
  refine ⟨cur.setIfInBounds k (f k), by simp [World.setCell, Array.getElem?_modify, h1], by simpa using h2, fun j hj => ?_⟩
  rw [Array.getElem?_setIfInBounds]
  split
  · rename_i hij
    subst hij
    simp [h2, hk]
  · exact h3 j (by omega)
theorem Row.other {T : TypeId} {w : World} {g g' k j : Nat} {f : Nat → Value} {x : Value} (h : Row T w g k f) (hne : g ≠ g') : Row T (w.setCell ⟨g', j, none⟩ x) g k f := by
  obtain ⟨cur, h1, h2⟩ := h
  exact ⟨cur, by rw [Below.heap_setCell w _ _ g hne]; exact h1, h2⟩
theorem Row.cell {T : TypeId} {w : World} {g k j : Nat} {f : Nat → Value} (h : Row T w g k f) (hj : j < k) : w.cell? ⟨g, j, none⟩ = some (f j) := by
  obtain ⟨cur, h1, h2, h3⟩ := h
  rw [cell_at h1]
  exact h3 j hj
theorem Row.has {T : TypeId} {w : World} {g k j : Nat} {f : Nat → Value} (h : Row T w g k f) (hj : j < 5) : ∃ x, w.cell? ⟨g, j, none⟩ = some x := by
  obtain ⟨cur, h1, h2, h3⟩ := h
  exact ⟨cur[j], by rw [cell_at h1]; exact Array.getElem?_eq_getElem (by omega)⟩
theorem Row.free {T : TypeId} {w : World} {g k : Nat} {f : Nat → Value} (h : Row T w g k f) (j : Nat) : w.frozen? ⟨g, j, none⟩ = false := by
  obtain ⟨cur, h1, h2, h3⟩ := h
  exact free_at h1 j

theorem past1 {W : World} {b o g j : Nat} {v : Value} (h : W.cell? ⟨b, o, none⟩ = some v) (hne : b ≠ g) (x : Value) : (W.setCell ⟨g, j, none⟩ x).cell? ⟨b, o, none⟩ = some v := by
  rw [World.cell?_of_block (w := W) (a := ⟨b, o, none⟩) (Below.heap_setCell W _ _ b hne)]
  exact h
theorem pastf {W : World} {b o g j : Nat} (h : W.frozen? ⟨b, o, none⟩ = false) (hne : b ≠ g) (x : Value) : (W.setCell ⟨g, j, none⟩ x).frozen? ⟨b, o, none⟩ = false := by
  rw [World.frozen?_of_block (w := W) (a := ⟨b, o, none⟩) (Below.heap_setCell W _ _ b hne)]
  exact h

theorem Try.info9 : (Try.prog.info? 9).map (fun i => (i.zero, i.size, i.bytes)) = some (some (.string ⟨#[]⟩), 1, 16) := by kernel_rfl
theorem Try.info4 : (Try.prog.info? 4).map (fun i => (i.zero, i.size, i.bytes)) = some (some (.bool false), 1, 1) := by kernel_rfl

/-- the two lists of five. -/
def Cells (w : World) (g : Nat) (f : Nat → Value) : Prop := ∀ j, j < 5 → w.cell? ⟨g, j, none⟩ = some (f j)
theorem Cells.keep {w w' : World} {g : Nat} {f : Nat → Value} (h : Cells w g f) (hb : Below w.heap.size w w') : Cells w' g f := fun j hj => cell_keep hb (h j hj)
def GivesKeys (f : Nat → Bool) (w : World) (e : Ending) (w' : World) : Prop := ∃ g h, e = .returned (.tuple #[.slice (some ⟨g, 0, none⟩) 5 5, .slice (some ⟨h, 0, none⟩) 5 5]) ∧ Cells w' g (fun j => .string (nm j)) ∧ Cells w' h (fun j => .bool (f j)) ∧ Below w.heap.size w w'

/-- what the loop keeps. -/
def Two (f : Nat → Bool) (w : World) (k : Nat) (wr : World) : Prop := Row 9 wr w.heap.size k (fun j => .string (nm j)) ∧ Row 4 wr (w.heap.size + 1) k (fun j => .bool (f j)) ∧ Below w.heap.size w wr
theorem heap_new (w : World) (o : Obj) : (w.alloc o).heap[w.heap.size]? = some o := by
  show (w.heap.push o)[w.heap.size]? = some o
  simp
theorem Two.start (f : Nat → Bool) (w : World) (c d : Array Value) (hc : c.size = 5) (hd : d.size = 5) : Two f w 0 ((w.alloc (.cells c 9)).alloc (.cells d 4)) := by
  refine ⟨⟨c, ?_, hc, fun j hj => absurd hj (by omega)⟩, ⟨d, ?_, hd, fun j hj => absurd hj (by omega)⟩, ((Below.refl _ _).alloc (Nat.le_refl _) _).alloc (by simp) _⟩
  · rw [Below.heap_alloc _ _ _ (by simp)]
    exact heap_new w _
  · have := heap_new (w.alloc (.cells c 9)) (.cells d 4)
    simpa using this

set_option maxHeartbeats 4000000 in
theorem lists (B : Nat) (p5 p6 p7 p8 p9 : Option Addr) (w : World) (h5 : w.cell? ⟨B, 5, none⟩ = some (.pointer p5)) (h6 : w.cell? ⟨B, 6, none⟩ = some (.pointer p6)) (h7 : w.cell? ⟨B, 7, none⟩ = some (.pointer p7)) (h8 : w.cell? ⟨B, 8, none⟩ = some (.pointer p8)) (h9 : w.cell? ⟨B, 9, none⟩ = some (.pointer p9)) :
    Calls Try.prog 17 #[.pointer (some ⟨B, 0, none⟩)] w fun e w' => GivesKeys (fl p5 p6 p7 p8 p9) w e w' := by
  obtain ⟨i9, hi9, hz9, hs9, hb9⟩ := info_parts Try.info9
  obtain ⟨i4, hi4, hz4, hs4, hb4⟩ := info_parts Try.info4
  have K := keys_row B p5 p6 p7 p8 p9 w h5 h6 h7 h8 h9
  clear h5 h6 h7 h8 h9
  generalize fl p5 p6 p7 p8 p9 = f at K ⊢
  go_enter Try.func17, Try.ntmps17
  go_wp2_with (go_at_call 18; refine K.mono ?_)
  rintro e wk ⟨K0, rfl, hkc, hbel⟩
  have HK : Hid (KeyCells wk K0 f) := hkc
  clear hkc K
  go_wp2_with (first | (at_make; refine make_exact _ rfl _ _ 30 rfl 9 i9 (.string ⟨#[]⟩) 1 Try.underlying30 hi9 hz9 hs9 _ _ _ _ 5 rfl rfl rfl rfl (by rw [hb9]; omega) (by unfold maxLen; omega) ?_) | (at_make; refine make_exact _ rfl _ _ 31 rfl 4 i4 (.bool false) 1 Try.underlying31 hi4 hz4 hs4 _ _ _ _ 5 rfl rfl rfl rfl (by rw [hb4]; omega) (by unfold maxLen; omega) ?_))
  have HT : Hid (Two f wk 0 ((wk.alloc (.cells (madeCells (Value.cells (.string ⟨#[]⟩)) (5 * 1)) 9)).alloc (.cells (madeCells (Value.cells (.bool false)) (5 * 1)) 4))) := Two.start f wk _ _ (size_madeCells _ _) (size_madeCells _ _)
  go_loopw [7] (fun i wr => ∃ k : Nat, k ≤ 5 ∧ i = .int .i64 k ∧ Hid (Two f wk k wr)) (fun i _ => 5 - (intOf i).toNat)
  case atStart => exact ⟨0, by omega, rfl, HT⟩
  case round =>
    obtain ⟨k, hk, rfl, HI⟩ := hrel
    clear HT
    by_cases hlt : k < 5
    · obtain ⟨hr1, hr2, hbe⟩ := HI.out
      obtain ⟨cn, cb⟩ := HK.out k hlt
      have ltk : K0 < wk.heap.size := World.block_lt_of_cell? wk ⟨K0, k * 2, none⟩ cn
      have cn' := cell_keep hbe cn
      have cb' := cell_keep hbe cb
      obtain ⟨x1, e1⟩ := hr1.has hlt
      obtain ⟨x2, e2⟩ := hr2.has hlt
      have z1 := hr1.free k
      have z2 := hr2.free k
      have q1 := past1 (g := wk.heap.size) (j := k) cb' (by omega)
      have q2 := past1 (g := wk.heap.size) (j := k) e2 (by omega)
      have q3 := pastf (g := wk.heap.size) (j := k) z2 (by omega)
      have hki : (k : Int) < 5 := by omega
      have H1 : Hid (Two f wk (k + 1) ((wr.setCell ⟨wk.heap.size, k, none⟩ (.string (nm k))).setCell ⟨wk.heap.size + 1, k, none⟩ (.bool (f k)))) := ⟨(hr1.set hlt).other (by omega), (hr2.other (by omega)).set hlt, (hbe.setCell (p := ⟨wk.heap.size, k, none⟩) (Nat.le_refl _) _).setCell (p := ⟨wk.heap.size + 1, k, none⟩) (Nat.le_succ _) _⟩
      clear hr1 hr2 hbe cn cb HK HI
      go_wp2
      go_roundw
      case rel => exact ⟨k + 1, by omega, by go_num, H1⟩
      case measure => simp [intOf]; omega
    · obtain rfl : k = 5 := by omega
      go_wp2
      go_ret2
      obtain ⟨hr1, hr2, hbe⟩ := HI.out
      exact ⟨_, _, rfl, fun j hj => hr1.cell hj, fun j hj => hr2.cell hj, hbel.trans (hbe.mono hbel.size)⟩

/-- two lists of five: the names, and how many are given. -/
def GivesNames (w : World) (e : Ending) (w' : World) : Prop := ∃ g h, e = .returned (.tuple #[.slice (some ⟨g, 0, none⟩) 5 5, .slice (some ⟨h, 0, none⟩) 5 5]) ∧ Cells w' g (fun j => .string (nm j)) ∧ Below w.heap.size w w'

theorem new_cell (w : World) (c : Array Value) (t : TypeId) (j : Nat) (v : Value) (h : c[j]? = some v) : (w.alloc (.cells c t)).cell? ⟨w.heap.size, j, none⟩ = some v := by
  rw [World.cell?_alloc_new]
  exact h
theorem lists_of (v0 v1 v2 v3 v4 v5 v6 v7 v8 v9 : Option Addr) (w : World) : Calls Try.prog 17 #[.pointer (some ⟨w.heap.size, 0, none⟩)] (w.alloc (.cells #[.pointer v0, .pointer v1, .pointer v2, .pointer v3, .pointer v4, .pointer v5, .pointer v6, .pointer v7, .pointer v8, .pointer v9] 46)) fun e w' => GivesKeys (fl v5 v6 v7 v8 v9) (w.alloc (.cells #[.pointer v0, .pointer v1, .pointer v2, .pointer v3, .pointer v4, .pointer v5, .pointer v6, .pointer v7, .pointer v8, .pointer v9] 46)) e w' :=
  lists _ v5 v6 v7 v8 v9 _ (new_cell _ _ _ _ _ rfl) (new_cell _ _ _ _ _ rfl) (new_cell _ _ _ _ _ rfl) (new_cell _ _ _ _ _ rfl) (new_cell _ _ _ _ _ rfl)

theorem plan_nil (w : World) : Calls Try.prog 16 #[.pointer none] w fun e w' => e = .returned (.pointer none) ∧ w = w' := by
  go_enter Try.func16, Try.ntmps16
  go_wp2
  go_ret
  exact ⟨rfl, rfl⟩
theorem keys_nil (w : World) : Calls Try.prog 10 #[.pointer none, .pointer none, .pointer none, .pointer none, .pointer none, .pointer none, .pointer none, .pointer none, .pointer none, .pointer none] w fun e w' => GivesKeys (fun _ => false) w e w' := by
  go_enter Try.func10, Try.ntmps10
  go_wp2_with (first | (go_at_call 16; refine (plan_nil _).mono ?_; rintro e w' ⟨rfl, rfl⟩) | (go_at_call 15; refine (table_new _ _ _ _ _ _ _ _ _ _ _).mono ?_; rintro e w' ⟨rfl, rfl⟩) | (go_at_call 17; refine (lists_of none none none none none none none none none none _).mono ?_))
  rintro e w' ⟨g, h, rfl, h1, h2, h3⟩
  go_wp2
  go_ret2
  refine ⟨_, _, rfl, h1, fun j hj => ?_, (Below.alloc (Below.refl _ _) (Nat.le_refl _) _).trans (h3.mono (by simp))⟩
  have e : fl none none none none none j = false := by
    match j, hj with
    | 0, _ => rfl
    | 1, _ => rfl
    | 2, _ => rfl
    | 3, _ => rfl
    | 4, _ => rfl
    | n + 5, h => exact absurd h (by omega)
  rw [h2 j hj]
  exact congrArg (fun b => some (Value.bool b)) e

theorem keys_any (v0 v1 v2 v3 v4 v5 v6 v7 v8 v9 : Option Addr) (w : World) (h8 : WBands w v8) (h9 : WBands w v9) : Calls Try.prog 10 #[.pointer v0, .pointer v1, .pointer v2, .pointer v3, .pointer v4, .pointer v5, .pointer v6, .pointer v7, .pointer v8, .pointer v9] w fun e w' => GivesNames w e w' := by
  have K8 := planBands_any v8 w h8
  go_enter Try.func10, Try.ntmps10
  go_wp2_with (go_at_call 16; refine K8.mono ?_)
  rintro e w1 ⟨p8, rfl, hb1⟩
  have K9 := planBands_any v9 w1 (h9.keep hb1)
  clear K8 h8 h9
  go_wp2_with (go_at_call 16; refine K9.mono ?_)
  rintro e w2 ⟨p9, rfl, hb2⟩
  clear K9
  go_wp2_with (first | (go_at_call 15; refine (table_new v0 v1 v2 v3 v4 v5 v6 v7 p8 p9 w2).mono ?_; rintro e w' ⟨rfl, rfl⟩) | (go_at_call 17; refine (lists_of v0 v1 v2 v3 v4 v5 v6 v7 p8 p9 w2).mono ?_))
  rintro e w' ⟨g, h, rfl, h1, h2, h3⟩
  go_wp2
  go_ret2
  have hb : Below w.heap.size w w2 := hb1.trans (hb2.mono hb1.size)
  have hb3 := hb.alloc (o := .cells #[.pointer v0, .pointer v1, .pointer v2, .pointer v3, .pointer v4, .pointer v5, .pointer v6, .pointer v7, .pointer p8, .pointer p9] 46) hb.size
  exact ⟨_, _, rfl, h1, hb3.trans (h3.mono hb3.size)⟩
end Go.Proofs.Qxb6602237a
