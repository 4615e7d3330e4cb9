import Derived.Test.Qxb6602237aRead
import Derived.Deep.RegionHeld3
namespace Go.Proofs.Qxb6602237a
open Go.RowKit
set_option linter.unusedVariables false

/-! ### what stands, stands -/
theorem cell_keep {w w' : World} {b o : Nat} {v : Value} (hb : Below w.heap.size w w') (h : w.cell? ⟨b, o, none⟩ = some v) : w'.cell? ⟨b, o, none⟩ = some v := by
  have hlt : b < w.heap.size := World.block_lt_of_cell? w ⟨b, o, none⟩ h
  rw [hb.cell (p := ⟨b, o, none⟩) hlt]
  exact h
theorem PStr.keep {w w' : World} {v : Option Addr} (h : PStr w v) (hb : Below w.heap.size w w') : PStr w' v := by
  rcases h with rfl | ⟨b, o, s, rfl, hc, hs⟩
  · exact .inl rfl
  · exact .inr ⟨b, o, s, rfl, cell_keep hb hc, hs⟩
theorem PInt.keep {w w' : World} {v : Option Addr} (h : PInt w v) (hb : Below w.heap.size w w') : PInt w' v := by
  rcases h with rfl | ⟨b, o, n, rfl, hc⟩
  · exact .inl rfl
  · exact .inr ⟨b, o, n, rfl, cell_keep hb hc⟩
theorem PBands.keep {w w' : World} {M : Nat} {v : Option Addr} (h : PBands w M v) (hb : Below w.heap.size w w') : PBands w' M v := by
  rcases h with rfl | ⟨b, o, sl, rfl, hc, hs⟩
  · exact .inl rfl
  · refine .inr ⟨b, o, sl, rfl, cell_keep hb hc, ?_⟩
    rcases hs with h | ⟨a, len, cap, h1, h2, h3, h4, h5⟩
    · exact .inl h
    · refine .inr ⟨a, len, cap, h1, h2, h3, h4, fun hl => ?_⟩
      obtain ⟨g, p, ha, hB⟩ := h5 hl
      refine ⟨g, p, ha, fun i hi => ?_⟩
      obtain ⟨f, r, c1, c2, c3, c4⟩ := hB i hi
      exact ⟨f, r, cell_keep hb c1, cell_keep hb c2, c3.keep hb, c4.keep hb⟩

/-- some pointer; what was there stands. -/
def GivesPtr (w : World) (e : Ending) (w' : World) : Prop := ∃ p, e = .returned (.pointer p) ∧ Below w.heap.size w w'

theorem copy_nil (w : World) : Calls Try.prog 7 #[.pointer none] w fun e w' => e = .returned (.pointer none) ∧ w = w' := by
  go_enter Try.func7, Try.ntmps7
  go_wp2
  go_ret
  exact ⟨rfl, rfl⟩
theorem copy_some (b o : Nat) (s : ByteArray) (w : World) (h : w.cell? ⟨b, o, none⟩ = some (.string s)) : Calls Try.prog 7 #[.pointer (some ⟨b, o, none⟩)] w fun e w' => e = .returned (.pointer (some ⟨w.heap.size, 0, none⟩)) ∧ w.alloc (.cells #[.string s] 9) = w' := by
  go_enter Try.func7, Try.ntmps7
  go_wp2
  go_ret
  exact ⟨rfl, rfl⟩
theorem copyStr_any (v : Option Addr) (w : World) (h : PStr w v) : Calls Try.prog 7 #[.pointer v] w fun e w' => GivesPtr w e w' := by
  rcases h with rfl | ⟨b, o, s, rfl, hc, hs⟩
  · exact (copy_nil w).mono (by rintro e w' ⟨rfl, rfl⟩; exact ⟨_, rfl, Below.refl _ _⟩)
  · exact (copy_some b o s w hc).mono (by rintro e w' ⟨rfl, rfl⟩; exact ⟨_, rfl, (Below.refl _ _).alloc (Nat.le_refl _) _⟩)
theorem copyInt_any (v : Option Addr) (w : World) (h : PInt w v) : Calls Try.prog 8 #[.pointer v] w fun e w' => GivesPtr w e w' := by
  rcases h with rfl | ⟨b, o, n, rfl, hc⟩
  · go_enter Try.func8, Try.ntmps8
    go_wp2
    go_ret
    exact ⟨_, rfl, Below.refl _ _⟩
  · go_enter Try.func8, Try.ntmps8
    go_wp2
    go_ret
    exact ⟨_, rfl, (Below.refl _ _).alloc (Nat.le_refl _) _⟩

theorem Try.info36 : (Try.prog.info? 36).map (fun i => (i.zero, i.size, i.bytes)) = some (some (.agg #[.pointer none, .pointer none]), 2, 16) := by kernel_rfl

/-- the list of bands that a call makes: its box B, its row g. -/
def Inv (T : TypeId) (w0 : World) (B g N : Nat) (w : World) : Prop :=
  w.cell? ⟨B, 0, none⟩ = some (.slice (some ⟨g, 0, none⟩) N N) ∧ (∃ cur, w.heap[g]? = some (.cells cur T (0, 0)) ∧ cur.size = N * 2 ∧ ∀ j, j < N * 2 → ∃ p, cur[j]? = some (.pointer p)) ∧ Below w0.heap.size w0 w ∧ B ≠ g ∧ w0.heap.size ≤ B ∧ w0.heap.size ≤ g

theorem Inv.alloc {T : TypeId} {w0 w : World} {B g N : Nat} (h : Inv T w0 B g N w) (o : Obj) : Inv T w0 B g N (w.alloc o) := by
  obtain ⟨h1, ⟨cur, h2, h3⟩, h4, h5⟩ := h
  have hB : B < w.heap.size := World.block_lt_of_cell? w ⟨B, 0, none⟩ h1
  have hg : g < w.heap.size := (Array.getElem?_eq_some_iff.1 h2).1
  refine ⟨?_, ⟨cur, ?_, h3⟩, h4.alloc (by omega) o, h5⟩
  · rw [World.cell?_of_block (w := w) (a := ⟨B, 0, none⟩) (Below.heap_alloc w o B hB)]
    exact h1
  · rw [Below.heap_alloc w o g hg]
    exact h2
theorem Inv.drew {T : TypeId} {w0 w : World} {B g N : Nat} (h : Inv T w0 B g N w) : Inv T w0 B g N w.drew := ⟨h.1, h.2.1, h.2.2.1.drew, h.2.2.2⟩
theorem Inv.set {T : TypeId} {w0 w : World} {B g N : Nat} (h : Inv T w0 B g N w) (j : Nat) (p : Option Addr) : Inv T w0 B g N (w.setCell ⟨g, j, none⟩ (.pointer p)) := by
  obtain ⟨h1, ⟨cur, h2, h3, h3'⟩, h4, h5, h6, h7⟩ := h
  refine ⟨?_, ⟨cur.setIfInBounds j (.pointer p), ?_, by simpa using h3, fun i hi => ?_⟩, h4.setCell (p := ⟨g, j, none⟩) h7 _, h5, h6, h7⟩
  · rw [World.cell?_of_block (w := w) (a := ⟨B, 0, none⟩) (Below.heap_setCell w _ _ B h5)]
    exact h1
  · simp [World.setCell, Array.getElem?_modify, h2]
  · rw [Array.getElem?_setIfInBounds]
    split
    · rename_i hij
      subst hij
      exact ⟨p, by simp [h3]; omega⟩
    · exact h3' i hi

theorem up1 {W : World} {b o : Nat} {v : Value} (h : W.cell? ⟨b, o, none⟩ = some v) (o1 : Obj) : (W.alloc o1).cell? ⟨b, o, none⟩ = some v := by
  rw [World.cell?_of_block (w := W) (a := ⟨b, o, none⟩) (Below.heap_alloc W o1 b (World.block_lt_of_cell? W ⟨b, o, none⟩ h))]
  exact h
theorem up2 {W : World} {b o : Nat} {v : Value} (h : W.cell? ⟨b, o, none⟩ = some v) (o1 o2 : Obj) : ((W.alloc o1).alloc o2).cell? ⟨b, o, none⟩ = some v := up1 (up1 h o1) o2
theorem free1 {W : World} {b o : Nat} (hb : b < W.heap.size) (h : W.frozen? ⟨b, o, none⟩ = false) (o1 : Obj) : (W.alloc o1).frozen? ⟨b, o, none⟩ = false := by
  rw [World.frozen?_of_block (w := W) (a := ⟨b, o, none⟩) (Below.heap_alloc W o1 b hb)]
  exact h
theorem free2 {W : World} {b o : Nat} (hb : b < W.heap.size) (h : W.frozen? ⟨b, o, none⟩ = false) (o1 o2 : Obj) : ((W.alloc o1).alloc o2).frozen? ⟨b, o, none⟩ = false := free1 (by simp; omega) (free1 hb h o1) o2
theorem cell_at {w : World} {R : Nat} {cs : Array Value} {T : TypeId} {fr : Nat × Nat} (h : w.heap[R]? = some (.cells cs T fr)) (j : Nat) : w.cell? ⟨R, j, none⟩ = cs[j]? := by simp [World.cell?, h]
theorem free_at {w : World} {R : Nat} {cs : Array Value} {T : TypeId} (h : w.heap[R]? = some (.cells cs T (0, 0))) (j : Nat) : w.frozen? ⟨R, j, none⟩ = false := by simp [World.frozen?, h]

theorem past {W : World} {b o g j j' : Nat} {v x x' : Value} (h : W.cell? ⟨b, o, none⟩ = some v) (hne : b ≠ g) : ((W.setCell ⟨g, j, none⟩ x).setCell ⟨g, j', none⟩ x').cell? ⟨b, o, none⟩ = some v := by
  rw [World.cell?_of_block (w := W.setCell ⟨g, j, none⟩ x) (a := ⟨b, o, none⟩) (Below.heap_setCell _ _ _ b hne), World.cell?_of_block (w := W) (a := ⟨b, o, none⟩) (Below.heap_setCell W _ _ b hne)]
  exact h
theorem past0d {W : World} {b o g j j' : Nat} {v x x' : Value} (h : W.cell? ⟨b, o, none⟩ = some v) (hne : b ≠ g) : ((W.setCell ⟨g, j, none⟩ x).setCell ⟨g, j', none⟩ x').drew.cell? ⟨b, o, none⟩ = some v := past h hne
theorem past1d {W : World} {b o g j j' : Nat} {v x x' : Value} (h : W.cell? ⟨b, o, none⟩ = some v) (hne : b ≠ g) (o1 : Obj) : (((W.setCell ⟨g, j, none⟩ x).setCell ⟨g, j', none⟩ x').alloc o1).drew.cell? ⟨b, o, none⟩ = some v := up1 (past h hne) o1
theorem past2d {W : World} {b o g j j' : Nat} {v x x' : Value} (h : W.cell? ⟨b, o, none⟩ = some v) (hne : b ≠ g) (o1 o2 : Obj) : ((((W.setCell ⟨g, j, none⟩ x).setCell ⟨g, j', none⟩ x').alloc o1).alloc o2).drew.cell? ⟨b, o, none⟩ = some v := up2 (past h hne) o1 o2
theorem Inv.set2 {T : TypeId} {w0 w : World} {B g N : Nat} (h : Inv T w0 B g N w) (j j' : Nat) (p p' : Option Addr) : Inv T w0 B g N ((w.setCell ⟨g, j, none⟩ (.pointer p)).setCell ⟨g, j', none⟩ (.pointer p')) := (h.set j p).set j' p'

theorem made2 (n j : Nat) (h : j < n) : (madeCells #[.pointer none, .pointer none] n)[j]? = some (.pointer none) := by
  have e : (#[Value.pointer none, Value.pointer none] : Array Value)[j % 2]! = .pointer none := by
    rcases Nat.mod_two_eq_zero_or_one j with h2 | h2 <;> rw [h2] <;> rfl
  simp only [madeCells, Array.getElem?_map, Array.getElem?_range, h, if_true, Option.map_some]
  exact congrArg some e

theorem Inv.start {T : TypeId} {w w1 : World} {N : Nat} {V : TypeId} (h : w1.ownsRow w.heap.size T 2 (.slice (some ⟨w.heap.size, 0, none⟩) N N) N (madeCells (Value.cells (.agg #[.pointer none, .pointer none])) (N * 2)).toList) (hg : w.grownBy w1 none) :
    Inv T w w1.heap.size w.heap.size N (w1.alloc (.cells #[.slice (some ⟨w.heap.size, 0, none⟩) N N] V)) := by
  obtain ⟨hx, ⟨h1, _⟩ | ⟨g, cap, cur, h1, h2, h3, h4, h5, h6, h7⟩⟩ := h
  · simp at h1
  · simp only [Value.slice.injEq, Option.some.injEq, Addr.mk.injEq, and_true, true_and] at h1
    obtain ⟨rfl, rfl⟩ := h1
    have hc : cur = madeCells #[.pointer none, .pointer none] (N * 2) := by
      rw [List.take_of_length_le (by simp [h6])] at h7
      exact Array.toList_inj.1 h7
    have hlt : w.heap.size < w1.heap.size := (Array.getElem?_eq_some_iff.1 h3).1
    refine ⟨?_, ⟨cur, ?_, h6, fun j hj => ⟨none, ?_⟩⟩, ((Below.refl _ _).grown hg (Nat.le_refl _) (by simp)).alloc (by omega) _, by omega, by omega, Nat.le_refl _⟩
    · rw [World.cell?_alloc_new]; rfl
    · rw [Below.heap_alloc w1 _ _ hlt]
      exact h3
    · rw [hc]
      exact made2 _ _ hj

set_option maxHeartbeats 20000000 in
theorem copyBands_row (b o : Nat) (a : Addr) (len cap : Nat) (w : World) (hc : w.cell? ⟨b, o, none⟩ = some (.slice (some a) len cap)) (hM : len ≤ 1048576) (hl : len ≤ cap) (hm : cap ≤ maxLen) (hB : 0 < len → ∃ g p, a = ⟨g, p, none⟩ ∧ ∀ i, i < len → Band w g p i) :
    Calls Try.prog 9 #[.pointer (some ⟨b, o, none⟩)] w fun e w' => ∃ B g, e = .returned (.pointer (some ⟨B, 0, none⟩)) ∧ Inv 36 w B g len w' := by
  obtain ⟨i0, hi, hz0, hz1, hz2⟩ := info_parts Try.info36
  unfold maxLen at hm
  have HB : Hid (0 < len → ∃ g p, a = ⟨g, p, none⟩ ∧ ∀ i, i < len → Band w g p i) := hB
  have hnil := fun w => Lib.run_eql_slice_nil (P := Try.prog) w 34 36 (some a) len cap 0 0 Try.underlying34
  clear hB
  go_enter Try.func9, Try.ntmps9
  go_wp2_with (at_make; refine wpList_make_full _ rfl _ _ 34 rfl w.heap.size 36 i0 (.agg #[.pointer none, .pointer none]) 2 Try.underlying34 hi hz0 hz1 _ _ _ _ len rfl rfl rfl rfl (by rw [hz2]; omega) (by unfold maxLen; omega) (Nat.le_refl _) ?_)
  intro w1 hown hgrow
  have HI0 : Hid (Inv 36 w w1.heap.size w.heap.size len (w1.alloc (.cells #[.slice (some ⟨w.heap.size, 0, none⟩) len len] 34))) := Inv.start hown hgrow
  clear hown hgrow
  go_wp2
  go_loopw [6] (fun i wr => ∃ k : Nat, k ≤ len ∧ i = .int .i64 k ∧ Hid (Inv 36 w w1.heap.size w.heap.size len wr)) (fun i _ => len - (intOf i).toNat)
  case atStart => exact ⟨0, by omega, rfl, HI0⟩
  case round =>
    obtain ⟨k, hk, rfl, HI⟩ := hrel
    clear HI0
    by_cases hlt : k < len
    · obtain ⟨hbx, ⟨cur, hg, hcs, hcp⟩, hbel, hne, hB1, hg1⟩ := HI.out
      obtain ⟨sg, sp, rfl, hBa⟩ := HB.out (by omega)
      obtain ⟨f, q, cf, cq, pf, pq⟩ := hBa k hlt
      obtain ⟨p0, hp0⟩ := hcp (k * 2) (by omega)
      obtain ⟨p1, hp1⟩ := hcp (k * 2 + 1) (by omega)
      have hgl : w.heap.size < wr.heap.size := (Array.getElem?_eq_some_iff.1 hg).1
      have e0 : wr.cell? ⟨w.heap.size, k * 2, none⟩ = some (.pointer p0) := by rw [cell_at hg]; exact hp0
      have e1 : wr.cell? ⟨w.heap.size, k * 2 + 1, none⟩ = some (.pointer p1) := by rw [cell_at hg]; exact hp1
      have z0 := free_at hg (k * 2)
      have z1 := free_at hg (k * 2 + 1)
      have cf' := cell_keep hbel cf
      have cq' := cell_keep hbel cq
      have pf' := pf.keep hbel
      have pq' := pq.keep hbel
      have hki : (k : Int) < (len : Int) := by omega
      clear hBa HB hcp hp0 hp1 hg cq pf pq hbel hcs
      have ups : (∀ o1, (wr.alloc o1).cell? ⟨w.heap.size, k * 2, none⟩ = some (.pointer p0)) ∧ (∀ o1 o2, ((wr.alloc o1).alloc o2).cell? ⟨w.heap.size, k * 2, none⟩ = some (.pointer p0)) := ⟨up1 e0, up2 e0⟩
      obtain ⟨e01, e02⟩ := ups
      have ups : (∀ o1, (wr.alloc o1).cell? ⟨w.heap.size, k * 2 + 1, none⟩ = some (.pointer p1)) ∧ (∀ o1 o2, ((wr.alloc o1).alloc o2).cell? ⟨w.heap.size, k * 2 + 1, none⟩ = some (.pointer p1)) := ⟨up1 e1, up2 e1⟩
      obtain ⟨e11, e12⟩ := ups
      have z01 := free1 hgl z0
      have z02 := free2 hgl z0
      have z11 := free1 hgl z1
      have z12 := free2 hgl z1
      have b1 := up1 hbx
      have b2 := up2 hbx
      have f1 := up1 cf'
      have f2 := up2 cf'
      have q1 := up1 cq'
      have q2 := up2 cq'
      have hsg : sg ≠ w.heap.size := by have := World.block_lt_of_cell? w ⟨sg, sp + k * 2, none⟩ cf; simp at this; omega
      clear cf
      rcases pf' with rfl | ⟨fb, fo, fs, rfl, fc, fsz⟩
      · rcases pq' with rfl | ⟨qb, qo, qs, rfl, qc, qsz⟩
        · go_wp2
          go_region_held3 (fun w' => w'.cell? ⟨w1.heap.size, 0, none⟩ = some (.slice (some ⟨w.heap.size, 0, none⟩) len len) ∧ w'.cell? ⟨sg, sp + k * 2, none⟩ = some (.pointer none) ∧ w'.cell? ⟨sg, sp + k * 2 + 1, none⟩ = some (.pointer none)) (first | with_reducible exact ⟨hbx, cf', cq'⟩ | with_reducible exact ⟨b1 _, f1 _, q1 _⟩ | with_reducible exact ⟨b2 _ _, f2 _ _, q2 _ _⟩ | with_reducible exact ⟨past0d hbx hne, past0d cf' hsg, past0d cq' hsg⟩ | with_reducible exact ⟨past1d hbx hne _, past1d cf' hsg _, past1d cq' hsg _⟩ | with_reducible exact ⟨past2d hbx hne _ _, past2d cf' hsg _ _, past2d cq' hsg _ _⟩ | with_reducible exact ⟨past hbx hne, past cf' hsg, past cq' hsg⟩ | with_reducible exact ⟨up1 (past hbx hne) _, up1 (past cf' hsg) _, up1 (past cq' hsg) _⟩ | with_reducible exact ⟨up2 (past hbx hne) _ _, up2 (past cf' hsg) _ _, up2 (past cq' hsg) _ _⟩ | exact ⟨hbx, cf', cq'⟩ | go_keep) (first | (go_at_call_of 7 (Value.pointer none); refine (copy_nil _).mono ?_; rintro e w' ⟨rfl, rfl⟩))
          go_wp2
          go_roundw
          case rel => exact ⟨k + 1, by omega, by go_num, (HI.out.set2 _ _ _ _).drew⟩
          case measure => simp [intOf]; omega
        · go_wp2
          go_region_held3 (fun w' => w'.cell? ⟨w1.heap.size, 0, none⟩ = some (.slice (some ⟨w.heap.size, 0, none⟩) len len) ∧ w'.cell? ⟨sg, sp + k * 2, none⟩ = some (.pointer none) ∧ w'.cell? ⟨sg, sp + k * 2 + 1, none⟩ = some (.pointer (some ⟨qb, qo, none⟩))) (first | with_reducible exact ⟨hbx, cf', cq'⟩ | with_reducible exact ⟨b1 _, f1 _, q1 _⟩ | with_reducible exact ⟨b2 _ _, f2 _ _, q2 _ _⟩ | with_reducible exact ⟨past0d hbx hne, past0d cf' hsg, past0d cq' hsg⟩ | with_reducible exact ⟨past1d hbx hne _, past1d cf' hsg _, past1d cq' hsg _⟩ | with_reducible exact ⟨past2d hbx hne _ _, past2d cf' hsg _ _, past2d cq' hsg _ _⟩ | with_reducible exact ⟨past hbx hne, past cf' hsg, past cq' hsg⟩ | with_reducible exact ⟨up1 (past hbx hne) _, up1 (past cf' hsg) _, up1 (past cq' hsg) _⟩ | with_reducible exact ⟨up2 (past hbx hne) _ _, up2 (past cf' hsg) _ _, up2 (past cq' hsg) _ _⟩ | exact ⟨hbx, cf', cq'⟩ | go_keep) (first | (go_at_call_of 7 (Value.pointer none); refine (copy_nil _).mono ?_; rintro e w' ⟨rfl, rfl⟩) | (go_at_call_of 7 (Value.pointer (some ⟨qb, qo, none⟩)); refine (copy_some qb qo qs _ ?_).mono ?_; (first | exact qc | exact up1 qc _); rintro e w' ⟨rfl, rfl⟩))
          go_wp2
          go_roundw
          case rel => exact ⟨k + 1, by omega, by go_num, ((HI.out.set2 _ _ _ _).alloc _).drew⟩
          case measure => simp [intOf]; omega
      · rcases pq' with rfl | ⟨qb, qo, qs, rfl, qc, qsz⟩
        · go_wp2
          go_region_held3 (fun w' => w'.cell? ⟨w1.heap.size, 0, none⟩ = some (.slice (some ⟨w.heap.size, 0, none⟩) len len) ∧ w'.cell? ⟨sg, sp + k * 2, none⟩ = some (.pointer (some ⟨fb, fo, none⟩)) ∧ w'.cell? ⟨sg, sp + k * 2 + 1, none⟩ = some (.pointer none)) (first | with_reducible exact ⟨hbx, cf', cq'⟩ | with_reducible exact ⟨b1 _, f1 _, q1 _⟩ | with_reducible exact ⟨b2 _ _, f2 _ _, q2 _ _⟩ | with_reducible exact ⟨past0d hbx hne, past0d cf' hsg, past0d cq' hsg⟩ | with_reducible exact ⟨past1d hbx hne _, past1d cf' hsg _, past1d cq' hsg _⟩ | with_reducible exact ⟨past2d hbx hne _ _, past2d cf' hsg _ _, past2d cq' hsg _ _⟩ | with_reducible exact ⟨past hbx hne, past cf' hsg, past cq' hsg⟩ | with_reducible exact ⟨up1 (past hbx hne) _, up1 (past cf' hsg) _, up1 (past cq' hsg) _⟩ | with_reducible exact ⟨up2 (past hbx hne) _ _, up2 (past cf' hsg) _ _, up2 (past cq' hsg) _ _⟩ | exact ⟨hbx, cf', cq'⟩ | go_keep) (first | (go_at_call_of 7 (Value.pointer none); refine (copy_nil _).mono ?_; rintro e w' ⟨rfl, rfl⟩) | (go_at_call_of 7 (Value.pointer (some ⟨fb, fo, none⟩)); refine (copy_some fb fo fs _ ?_).mono ?_; (first | exact fc | exact up1 fc _); rintro e w' ⟨rfl, rfl⟩))
          go_wp2
          go_roundw
          case rel => exact ⟨k + 1, by omega, by go_num, ((HI.out.set2 _ _ _ _).alloc _).drew⟩
          case measure => simp [intOf]; omega
        · go_wp2
          go_region_held3 (fun w' => w'.cell? ⟨w1.heap.size, 0, none⟩ = some (.slice (some ⟨w.heap.size, 0, none⟩) len len) ∧ w'.cell? ⟨sg, sp + k * 2, none⟩ = some (.pointer (some ⟨fb, fo, none⟩)) ∧ w'.cell? ⟨sg, sp + k * 2 + 1, none⟩ = some (.pointer (some ⟨qb, qo, none⟩))) (first | with_reducible exact ⟨hbx, cf', cq'⟩ | with_reducible exact ⟨b1 _, f1 _, q1 _⟩ | with_reducible exact ⟨b2 _ _, f2 _ _, q2 _ _⟩ | with_reducible exact ⟨past0d hbx hne, past0d cf' hsg, past0d cq' hsg⟩ | with_reducible exact ⟨past1d hbx hne _, past1d cf' hsg _, past1d cq' hsg _⟩ | with_reducible exact ⟨past2d hbx hne _ _, past2d cf' hsg _ _, past2d cq' hsg _ _⟩ | with_reducible exact ⟨past hbx hne, past cf' hsg, past cq' hsg⟩ | with_reducible exact ⟨up1 (past hbx hne) _, up1 (past cf' hsg) _, up1 (past cq' hsg) _⟩ | with_reducible exact ⟨up2 (past hbx hne) _ _, up2 (past cf' hsg) _ _, up2 (past cq' hsg) _ _⟩ | exact ⟨hbx, cf', cq'⟩ | go_keep) (first | (go_at_call_of 7 (Value.pointer (some ⟨fb, fo, none⟩)); refine (copy_some fb fo fs _ ?_).mono ?_; (first | exact fc | exact up1 fc _); rintro e w' ⟨rfl, rfl⟩) | (go_at_call_of 7 (Value.pointer (some ⟨qb, qo, none⟩)); refine (copy_some qb qo qs _ ?_).mono ?_; (first | exact qc | exact up1 qc _); rintro e w' ⟨rfl, rfl⟩))
          go_wp2
          go_roundw
          case rel => exact ⟨k + 1, by omega, by go_num, (((HI.out.set2 _ _ _ _).alloc _).alloc _).drew⟩
          case measure => simp [intOf]; omega
    · go_wp2
      go_ret
      exact ⟨_, _, rfl, HI.out⟩
end Go.Proofs.Qxb6602237a
