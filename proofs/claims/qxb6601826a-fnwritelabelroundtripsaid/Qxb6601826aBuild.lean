import Derived.Test.Qxb6601826aShelf
import Derived.Test.Qxb6601826aRows
import Derived.WalkKit
import Derived.ProofKit
namespace Go.Proofs.Qxb6601826a
open Go.RowKit

/-! ### the strings.Builder at this program: type 36, its bytes' type 5 -/
theorem sizeB : (Try.prog.info? 36).map (·.size) = some 2 := by kernel_rfl
theorem liesB : liesAt Try.prog Try.prog.depth 36 (2 / Try.prog.cellsOf 36) 0 36 1 = true := by kernel_rfl
theorem infoB : (Try.prog.info? 5).map (fun i => (i.zero, i.size, i.bytes)) = some (some (.int .u8 0), 1, 1) := by kernel_rfl
theorem conv1 (w : World) (b : Nat) (hsh : w.shape? b = some (36, 2)) : (convert 34 46 (.pointer (some ⟨b, 0, none⟩))).run Try.prog w = .ok (.pointer (some ⟨b, 0, none⟩)) w := by
  obtain ⟨j, hj, hjs⟩ := Option.map_eq_some_iff.1 sizeB
  simp only [convert, Sem.run_bind, run_underlying Try.underlying34, run_underlying Try.underlying46, Result.andThen]
  show Sem.run Try.prog (bind _ _) w = _
  simp [run_underlying Try.underlying34, run_underlying Try.underlying46, Conv.seenAt, viewAt, cellsIn, hsh, sizeOf, typeInfo, hj, hjs]
theorem conv2 (w : World) (b : Nat) (hsh : w.shape? b = some (36, 2)) : (convert 46 34 (.pointer (some ⟨b, 0, none⟩))).run Try.prog w = .ok (.pointer (some ⟨b, 0, none⟩)) w := by
  obtain ⟨j, hj, hjs⟩ := Option.map_eq_some_iff.1 sizeB
  have hl := liesB
  simp only [convert, Sem.run_bind, run_underlying Try.underlying34, run_underlying Try.underlying46, Result.andThen]
  show Sem.run Try.prog (bind _ _) w = _
  simp [run_underlying Try.underlying34, run_underlying Try.underlying46, Conv.seenAt, viewAt, variablesAt, hsh, sizeOf, typeInfo, hj, hl]
theorem esc33 (x : Value) (w : World) : (callFunc 33 #[x]).run Try.prog w = .ok (.value x) w := by
  rw [run_callFunc_extern Try.func33 (by kernel_rfl) (by kernel_rfl) (by kernel_rfl) (e := Extern.AbiNoEscape.same) (by kernel_rfl)]
  rfl

set_option maxHeartbeats 1000000 in
theorem check_used (b : Nat) (w : World) (h0 : w.cell? ⟨b, 0, none⟩ = some (.pointer (some ⟨b, 0, none⟩))) :
    Calls Try.prog 30 #[.pointer (some ⟨b, 0, none⟩)] w fun e w' => e = .returned (.tuple #[]) ∧ w = w' := by
  obtain ⟨j, hj, _⟩ := Option.map_eq_some_iff.1 sizeB
  have hne := fun w => Lib.run_neq_ptr_same (P := Try.prog) w ⟨b, 0, none⟩ Try.underlying34 hj
  go_enter Try.func30, Try.ntmps30
  go_wp2
  go_end0
  exact ⟨rfl, rfl⟩

set_option maxHeartbeats 1000000 in
theorem check_fresh (b : Nat) (w : World) (h0 : w.cell? ⟨b, 0, none⟩ = some (.pointer none)) (hsh : w.shape? b = some (36, 2)) (hfz : w.frozen? ⟨b, 0, none⟩ = false) :
    Calls Try.prog 30 #[.pointer (some ⟨b, 0, none⟩)] w fun e w' => e = .returned (.tuple #[]) ∧ w' = w.setCell ⟨b, 0, none⟩ (.pointer (some ⟨b, 0, none⟩)) := by
  obtain ⟨j, hj, _⟩ := Option.map_eq_some_iff.1 sizeB
  have hne := fun w => Lib.run_neq_ptr_same (P := Try.prog) w ⟨b, 0, none⟩ Try.underlying34 hj
  have k1 := conv1 w b hsh
  have k2 := conv2 w b hsh
  have k3 := esc33 (.pointer (some ⟨b, 0, none⟩)) w
  go_enter Try.func30, Try.ntmps30
  go_wp2
  go_end0
  exact ⟨rfl, rfl⟩

theorem heap_setCell_other (w : World) (b : Nat) (u : Value) : ∀ k, k ≠ b → (w.setCell ⟨b, 0, none⟩ u).heap[k]? = w.heap[k]? := fun _ hk => Below.heap_setCell _ _ _ _ hk

/-- copyCheck: behind it the builder is used; its bytes, and every other block, are as they were. -/
theorem check_any (B b : Nat) (bs : List Value) (w : World) (h : Lib.IsBuilder 36 5 B b bs w) :
    Calls Try.prog 30 #[.pointer (some ⟨b, 0, none⟩)] w fun e w' => e = .returned (.tuple #[]) ∧ Lib.BuilderAt 36 5 B b (.pointer (some ⟨b, 0, none⟩)) bs w' ∧ Below B w w' ∧ ∀ k, k ≠ b → w'.heap[k]? = w.heap[k]? := by
  rcases h with h | h
  · refine (check_fresh b w h.cell0 h.shape h.frozen0).mono ?_
    rintro e w' ⟨rfl, rfl⟩
    exact ⟨rfl, h.used _, (Below.refl B w).setCell (p := ⟨b, 0, none⟩) h.1 _, heap_setCell_other w b _⟩
  · refine (check_used b w h.cell0).mono ?_
    rintro e w' ⟨rfl, rfl⟩
    exact ⟨rfl, h, Below.refl B _, fun _ _ => rfl⟩

theorem one_cell (w : World) (u : Value) (e : TypeId) (hu : u.oneCell' = true) : (∀ (j : Nat) (x : Value), [u][j]? = some x → (w.alloc (.cells #[u] e)).cell? ((⟨w.heap.size, 0, none⟩ : Addr).add j) = some x) ∧ ∀ x ∈ [u], x.oneCell' = true := by
  refine ⟨?_, ?_⟩
  · intro j x hj
    match j, hj with
    | 0, hj => simp at hj; subst hj; simp [Addr.add]
  · intro x hx
    simp at hx
    subst hx
    exact hu

/-- the builder's two cells, in a world that an append has left. -/
theorem builder_after {b : Nat} {v : Value} {w1 w2 : World} {o : Option Nat} (hbk : w1.heap[b]? = some (.cells #[.pointer (some ⟨b, 0, none⟩), v] 36 (0, 0))) (hg : w1.grownBy w2 o) (hne : o ≠ some b) :
    w2.heap[b]? = some (.cells #[.pointer (some ⟨b, 0, none⟩), v] 36 (0, 0)) := by
  have hlt : b < w1.heap.size := (Array.getElem?_eq_some_iff.1 hbk).1
  rw [hg.block b hlt (fun e => hne e.symm)]
  exact hbk

set_option maxHeartbeats 2000000 in
/-- WriteByte -/
theorem writeByte_any (B b : Nat) (bs : List Value) (c : Int) (w : World) (h : Lib.IsBuilder 36 5 B b bs w) (hlen : bs.length + 1 ≤ 140737488355328) (hBw : B ≤ w.heap.size) :
    Calls Try.prog 32 #[.pointer (some ⟨b, 0, none⟩), .int .u8 c] w fun e w' => e = .returned .nilIface ∧ Lib.IsBuilder 36 5 B b (bs ++ [.int .u8 c]) w' ∧ Below B w w' := by
  obtain ⟨i0, hi, hz0, hz1, hz2⟩ := info_parts infoB
  go_enter Try.func32, Try.ntmps32
  go_wp2_with (go_at_call 30; refine (check_any B b bs _ h).mono ?_)
  rintro e w1 ⟨rfl, h1, hb1, hk1⟩
  obtain ⟨hB, v, hbk, hown, hne⟩ := h1
  have c1 : w1.cell? ⟨b, 1, none⟩ = some v := by rw [Lib.cell_of_heap hbk]; rfl
  have hs1 := hb1.size
  go_wp2_with (at_builtin; refine wpList_append_own _ rfl _ _ 28 rfl B 5 i0 (.int .u8 0) 1 1 Try.underlying28 hi hz0 hz1 hz2 rfl (by decide) _ _ _ rfl (hown.alloc _) ⟨w1.heap.size, 0, none⟩ 1 1 [.int .u8 c] rfl rfl (one_cell _ _ _ rfl).1 (one_cell w1 _ 5 rfl).2 (by unfold maxLen; omega) (by omega) (by simp; omega) ?_)
  intro v' w2 hown' hgrow _
  have hb2 := builder_after ((Lib.alloc_old w1 (.cells #[.int .u8 c] 5) b (Array.getElem?_eq_some_iff.1 hbk).1).trans hbk) hgrow hne
  have d1 : w2.cell? ⟨b, 1, none⟩ = some v := by rw [Lib.cell_of_heap hb2]; rfl
  have f1 : w2.frozen? ⟨b, 1, none⟩ = false := Lib.frozen_of_heap hb2 1
  obtain ⟨ao, n', cap, rfl⟩ : ∃ ao n' cap, v' = .slice ao n' cap := by
    rcases hown'.2 with ⟨hv, _⟩ | ⟨g, cap, cur, hv, _⟩
    · exact ⟨_, _, _, hv⟩
    · exact ⟨_, _, _, hv⟩
  clear c1 hk1
  go_wp2
  go_ret
  refine ⟨rfl, .inr ?_, ?_⟩
  · exact Lib.BuilderAt.put (T := 36) (e := 5) hB hb2 (bs' := bs ++ [.int .u8 c]) (by simpa using hown') (by decide)
  · exact ((hb1.alloc (by omega) _).grown hgrow (by simp; omega) (fun k hk => (hown.lt k hk).1)).setCell (p := ⟨b, 1, none⟩) hB _

set_option maxHeartbeats 2000000 in
/-- WriteString -/
theorem writeString_any (B b : Nat) (bs : List Value) (s : ByteArray) (w : World) (h : Lib.IsBuilder 36 5 B b bs w) (hlen : bs.length + s.size ≤ 140737488355328) (hBw : B ≤ w.heap.size) :
    Calls Try.prog 26 #[.pointer (some ⟨b, 0, none⟩), .string s] w fun e w' => e = .returned (.tuple #[.int .i64 s.size, .nilIface]) ∧ Lib.IsBuilder 36 5 B b (bs ++ Lib.strCells s) w' ∧ Below B w w' := by
  obtain ⟨i0, hi, hz0, hz1, hz2⟩ := info_parts infoB
  go_enter Try.func26, Try.ntmps26
  go_wp2_with (go_at_call 30; refine (check_any B b bs _ h).mono ?_)
  rintro e w1 ⟨rfl, h1, hb1, hk1⟩
  obtain ⟨hB, v, hbk, hown, hne⟩ := h1
  have c1 : w1.cell? ⟨b, 1, none⟩ = some v := by rw [Lib.cell_of_heap hbk]; rfl
  have hs1 := hb1.size
  go_wp2_with (at_builtin; refine Lib.wpList_append_own_string _ rfl _ _ 28 9 rfl B 5 i0 Try.underlying28 Try.underlying9 hi hz0 hz1 hz2 _ _ _ rfl hown s rfl (by unfold maxLen; omega) (by omega) (by omega) ?_)
  intro v' w2 hown' hgrow _
  have hb2 := builder_after hbk hgrow hne
  have d1 : w2.cell? ⟨b, 1, none⟩ = some v := by rw [Lib.cell_of_heap hb2]; rfl
  have f1 : w2.frozen? ⟨b, 1, none⟩ = false := Lib.frozen_of_heap hb2 1
  obtain ⟨ao, n', cap, rfl⟩ : ∃ ao n' cap, v' = .slice ao n' cap := by
    rcases hown'.2 with ⟨hv, _⟩ | ⟨g, cap, cur, hv, _⟩
    · exact ⟨_, _, _, hv⟩
    · exact ⟨_, _, _, hv⟩
  clear c1 hk1
  go_wp2
  go_ret2
  refine ⟨rfl, .inr ?_, ?_⟩
  · exact Lib.BuilderAt.put (T := 36) (e := 5) hB hb2 (bs' := bs ++ Lib.strCells s) (by simpa [Lib.strCells_length] using hown') (by decide)
  · exact (hb1.grown hgrow (by omega) (fun k hk => (hown.lt k hk).1)).setCell (p := ⟨b, 1, none⟩) hB _

set_option maxHeartbeats 2000000 in
/-- Write of a slice that lies in another block than the builder -/
theorem write_any (B b : Nat) (bs : List Value) (g m c : Nat) (news : List Value) (w : World) (h : Lib.IsBuilder 36 5 B b bs w) (hl : news.length = m)
    (hnews : ∀ j u, news[j]? = some u → w.cell? ((⟨g, 0, none⟩ : Addr).add j) = some u) (hg : g ≠ b) (h1c : ∀ u ∈ news, u.oneCell' = true) (hlen : bs.length + m ≤ 140737488355328) (hBw : B ≤ w.heap.size) :
    Calls Try.prog 31 #[.pointer (some ⟨b, 0, none⟩), .slice (some ⟨g, 0, none⟩) m c] w fun e w' => e = .returned (.tuple #[.int .i64 m, .nilIface]) ∧ Lib.IsBuilder 36 5 B b (bs ++ news) w' ∧ Below B w w' := by
  obtain ⟨i0, hi, hz0, hz1, hz2⟩ := info_parts infoB
  have HN : Hid (∀ j u, news[j]? = some u → w.cell? ((⟨g, 0, none⟩ : Addr).add j) = some u) := hnews
  have HL : Hid (news.length = m) := hl
  clear hnews hl
  go_enter Try.func31, Try.ntmps31
  go_wp2_with (go_at_call 30; refine (check_any B b bs _ h).mono ?_)
  rintro e w1 ⟨rfl, h1, hb1, hk1⟩
  obtain ⟨hB, v, hbk, hown, hne⟩ := h1
  have c1 : w1.cell? ⟨b, 1, none⟩ = some v := by rw [Lib.cell_of_heap hbk]; rfl
  have hs1 := hb1.size
  have HN1 : Hid (∀ j u, news[j]? = some u → w1.cell? ((⟨g, 0, none⟩ : Addr).add j) = some u) := fun j u hj => by
    have h2 := HN.out j u hj
    rw [Addr.add_lit] at h2 ⊢
    rw [World.cell?_of_block (w := w) (w' := w1) (a := ⟨g, 0 + j, none⟩) (hk1 g hg)]
    exact h2
  go_wp2_with (at_builtin; refine wpList_append_own _ rfl _ _ 28 rfl B 5 i0 (.int .u8 0) 1 1 Try.underlying28 hi hz0 hz1 hz2 rfl (by decide) _ _ _ rfl hown ⟨g, 0, none⟩ m c news rfl (by rw [HL.out, Nat.mul_one]) HN1.out h1c (by unfold maxLen; omega) (by omega) (by omega) ?_)
  intro v' w2 hown' hgrow _
  have hb2 := builder_after hbk hgrow hne
  have d1 : w2.cell? ⟨b, 1, none⟩ = some v := by rw [Lib.cell_of_heap hb2]; rfl
  have f1 : w2.frozen? ⟨b, 1, none⟩ = false := Lib.frozen_of_heap hb2 1
  obtain ⟨ao, n', cap, rfl⟩ : ∃ ao n' cap, v' = .slice ao n' cap := by
    rcases hown'.2 with ⟨hv, _⟩ | ⟨g, cap, cur, hv, _⟩
    · exact ⟨_, _, _, hv⟩
    · exact ⟨_, _, _, hv⟩
  clear c1 hk1
  go_wp2
  go_ret2
  refine ⟨rfl, .inr ?_, ?_⟩
  · exact Lib.BuilderAt.put (T := 36) (e := 5) hB hb2 (bs' := bs ++ news) (by have e := HL.out; simpa [e] using hown') (by decide)
  · exact (hb1.grown hgrow (by omega) (fun k hk => (hown.lt k hk).1)).setCell (p := ⟨b, 1, none⟩) hB _
end Go.Proofs.Qxb6601826a
