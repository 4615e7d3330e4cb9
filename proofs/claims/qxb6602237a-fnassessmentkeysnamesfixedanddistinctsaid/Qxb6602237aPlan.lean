import Derived.Test.Qxb6602237aCopy
namespace Go.Proofs.Qxb6602237a
open Go.RowKit
set_option linter.unusedVariables false

/-- a list of bands as a copy of ours holds it. -/
def WBands (w : World) (v : Option Addr) : Prop :=
  v = none ∨ ∃ b o sl, v = some ⟨b, o, none⟩ ∧ w.cell? ⟨b, o, none⟩ = some sl ∧ (sl = .slice none 0 0 ∨ ∃ g N, sl = .slice (some ⟨g, 0, none⟩) N N ∧ N ≤ 1048576 ∧ ∀ j, j < N * 2 → ∃ q, w.cell? ⟨g, j, none⟩ = some (.pointer q))
theorem WBands.keep {w w' : World} {v : Option Addr} (h : WBands w v) (hb : Below w.heap.size w w') : WBands w' v := by
  rcases h with rfl | ⟨b, o, sl, rfl, hc, h⟩
  · exact .inl rfl
  · refine .inr ⟨b, o, sl, rfl, cell_keep hb hc, ?_⟩
    rcases h with rfl | ⟨g, N, rfl, hN, h⟩
    · exact .inl rfl
    · exact .inr ⟨g, N, rfl, hN, fun j hj => by obtain ⟨q, hq⟩ := h j hj; exact ⟨q, cell_keep hb hq⟩⟩
theorem Inv.bands {T : TypeId} {w0 w : World} {B g N : Nat} (h : Inv T w0 B g N w) (hN : N ≤ 1048576) : WBands w (some ⟨B, 0, none⟩) := by
  obtain ⟨h1, ⟨cur, h2, h3, h3'⟩, h4⟩ := h
  exact .inr ⟨B, 0, _, rfl, h1, .inr ⟨g, N, rfl, hN, fun j hj => by rw [cell_at h2]; exact h3' j hj⟩⟩
/-- a list of bands; what was there stands. -/
def GivesBands (w : World) (e : Ending) (w' : World) : Prop := ∃ p, e = .returned (.pointer p) ∧ WBands w' p ∧ Below w.heap.size w w'

theorem copyBands_any (v : Option Addr) (w : World) (h : PBands w 1048576 v) : Calls Try.prog 9 #[.pointer v] w fun e w' => GivesBands w e w' := by
  rcases h with rfl | ⟨b, o, sl, rfl, hc, h⟩
  · go_enter Try.func9, Try.ntmps9
    go_wp2
    go_ret
    exact ⟨_, rfl, .inl rfl, Below.refl _ _⟩
  · rcases h with rfl | ⟨a, len, cap, rfl, hM, hl, hm, hB⟩
    · have hnil := fun w => Lib.run_eql_slice_nil (P := Try.prog) w 34 36 none 0 0 0 0 Try.underlying34
      go_enter Try.func9, Try.ntmps9
      go_wp2
      go_ret
      exact ⟨_, rfl, .inr ⟨w.heap.size, 0, _, rfl, by rw [World.cell?_alloc_new]; rfl, .inl rfl⟩, (Below.refl _ _).alloc (Nat.le_refl _) _⟩
    · exact (copyBands_row b o a len cap w hc hM hl hm hB).mono (by rintro e w' ⟨B, g, rfl, hI⟩; exact ⟨_, rfl, hI.bands hM, hI.2.2.1⟩)

theorem Try.info49 : (Try.prog.info? 49).map (fun i => (i.zero, i.size, i.bytes)) = some (some (.agg #[.pointer none, .pointer none]), 2, 16) := by kernel_rfl

set_option maxHeartbeats 20000000 in
theorem planBands_row (b o g0 len : Nat) (w : World) (hc : w.cell? ⟨b, o, none⟩ = some (.slice (some ⟨g0, 0, none⟩) len len)) (hM : len ≤ 1048576) (hB : ∀ j, j < len * 2 → ∃ q, w.cell? ⟨g0, j, none⟩ = some (.pointer q)) :
    Calls Try.prog 16 #[.pointer (some ⟨b, o, none⟩)] w fun e w' => ∃ B g, e = .returned (.pointer (some ⟨B, 0, none⟩)) ∧ Inv 49 w B g len w' := by
  obtain ⟨i0, hi, hz0, hz1, hz2⟩ := info_parts Try.info49
  have HB : Hid (∀ j, j < len * 2 → ∃ q, w.cell? ⟨g0, j, none⟩ = some (.pointer q)) := hB
  have hnil := fun w => Lib.run_eql_slice_nil (P := Try.prog) w 34 36 (some ⟨g0, 0, none⟩) len len 0 0 Try.underlying34
  clear hB
  go_enter Try.func16, Try.ntmps16
  go_wp2_with (at_make; refine wpList_make_full _ rfl _ _ 47 rfl w.heap.size 49 i0 (.agg #[.pointer none, .pointer none]) 2 Try.underlying47 hi hz0 hz1 _ _ _ _ len rfl rfl rfl rfl (by rw [hz2]; omega) (by unfold maxLen; omega) (Nat.le_refl _) ?_)
  intro w1 hown hgrow
  have HI0 : Hid (Inv 49 w w1.heap.size w.heap.size len (w1.alloc (.cells #[.slice (some ⟨w.heap.size, 0, none⟩) len len] 47))) := Inv.start hown hgrow
  clear hown hgrow
  go_wp2
  go_loopw [6] (fun i wr => ∃ k : Nat, k ≤ len ∧ i = .int .i64 k ∧ Hid (Inv 49 w w1.heap.size w.heap.size len wr)) (fun i _ => len - (intOf i).toNat)
  case atStart => exact ⟨0, by omega, rfl, HI0⟩
  case round =>
    obtain ⟨k, hk, rfl, HI⟩ := hrel
    clear HI0
    by_cases hlt : k < len
    · obtain ⟨hbx, ⟨cur, hg, hcs, hcp⟩, hbel, hne, hB1, hg1⟩ := HI.out
      obtain ⟨f, cf⟩ := HB.out (k * 2) (by omega)
      obtain ⟨q, cq⟩ := HB.out (k * 2 + 1) (by omega)
      obtain ⟨p0, hp0⟩ := hcp (k * 2) (by omega)
      obtain ⟨p1, hp1⟩ := hcp (k * 2 + 1) (by omega)
      have e0 : wr.cell? ⟨w.heap.size, k * 2, none⟩ = some (.pointer p0) := by rw [cell_at hg]; exact hp0
      have e1 : wr.cell? ⟨w.heap.size, k * 2 + 1, none⟩ = some (.pointer p1) := by rw [cell_at hg]; exact hp1
      have z0 := free_at hg (k * 2)
      have z1 := free_at hg (k * 2 + 1)
      have cf' := cell_keep hbel cf
      have cq' := cell_keep hbel cq
      have hki : (k : Int) < (len : Int) := by omega
      have hsg : g0 ≠ w.heap.size := by have := World.block_lt_of_cell? w ⟨g0, k * 2, none⟩ cf; simp at this; omega
      clear HB hcp hp0 hp1 hg cq cf hbel hcs
      go_wp2
      go_region_held3 (fun w' => w'.cell? ⟨w1.heap.size, 0, none⟩ = some (.slice (some ⟨w.heap.size, 0, none⟩) len len) ∧ w'.cell? ⟨g0, k * 2, none⟩ = some (.pointer f) ∧ w'.cell? ⟨g0, k * 2 + 1, none⟩ = some (.pointer q)) (first | with_reducible exact ⟨hbx, cf', cq'⟩ | with_reducible exact ⟨past0d hbx hne, past0d cf' hsg, past0d cq' hsg⟩ | exact ⟨hbx, cf', cq'⟩ | exact ⟨past0d hbx hne, past0d cf' hsg, past0d cq' hsg⟩ | go_keep) (fail)
      go_wp2
      go_roundw
      case rel => exact ⟨k + 1, by omega, by go_num, (HI.out.set2 _ _ _ _).drew⟩
      case measure => simp [intOf]; omega
    · go_wp2
      go_ret
      exact ⟨_, _, rfl, HI.out⟩

theorem planBands_any (v : Option Addr) (w : World) (h : WBands w v) : Calls Try.prog 16 #[.pointer v] w fun e w' => GivesPtr w e w' := by
  rcases h with rfl | ⟨b, o, sl, rfl, hc, h⟩
  · go_enter Try.func16, Try.ntmps16
    go_wp2
    go_ret
    exact ⟨_, rfl, Below.refl _ _⟩
  · rcases h with rfl | ⟨g, N, rfl, hM, hB⟩
    · have hnil := fun w => Lib.run_eql_slice_nil (P := Try.prog) w 34 36 none 0 0 0 0 Try.underlying34
      go_enter Try.func16, Try.ntmps16
      go_wp2
      go_ret
      exact ⟨_, rfl, (Below.refl _ _).alloc (Nat.le_refl _) _⟩
    · exact (planBands_row b o g N w hc hM hB).mono (by rintro e w' ⟨B, g', rfl, hI⟩; exact ⟨_, rfl, hI.2.2.1⟩)
end Go.Proofs.Qxb6602237a
