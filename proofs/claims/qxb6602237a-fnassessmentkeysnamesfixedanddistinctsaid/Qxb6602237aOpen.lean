import Derived.Test.Qxb6602237aRead
import Derived.ProofKit
import Derived.ChangeSame
namespace Go.Proofs.Qxb6602237a
open Go.ChangeShapes Go.WideShapes Go.ChangeAt Go.RowKit
set_option linter.unusedVariables false

section
variable {H : Type} {enc : TypeId × Value → H} {w : World} {base : Nat} {spare : Nat → Bool} {held : Bool}

theorem c9 : Try.prog.cellsOf 9 = 1 := by kernel_rfl
theorem c2 : Try.prog.cellsOf 2 = 1 := by kernel_rfl
theorem c34 : Try.prog.cellsOf 34 = 1 := by kernel_rfl
theorem c36 : Try.prog.cellsOf 36 = 2 := by kernel_rfl
theorem c22 : Try.prog.cellsOf 22 = 1 := by kernel_rfl

theorem one_cell {a : Addr} {cs : List Value} (h : w.cells? base a 1 = some cs) : ∃ b o c, a = ⟨b, o, none⟩ ∧ cs = [c] ∧ w.cell? ⟨b, o, none⟩ = some c := by
  obtain ⟨_, hl, hi⟩ := World.cells?_some h
  match cs, hl with
  | [c], _ =>
    have h0 : w.cell? a = some c := hi 0 (by omega)
    have hs := World.cell?_spot h0
    obtain ⟨b, o, s⟩ := a
    simp only at hs
    subst hs
    exact ⟨b, o, c, rfl, rfl, h0⟩
theorem two_cells {a : Addr} {cs : List Value} (h : w.cells? base a 2 = some cs) : ∃ b o c d, a = ⟨b, o, none⟩ ∧ cs = [c, d] ∧ w.cell? ⟨b, o, none⟩ = some c ∧ w.cell? ⟨b, o + 1, none⟩ = some d := by
  obtain ⟨_, hl, hi⟩ := World.cells?_some h
  match cs, hl with
  | [c, d], _ =>
    have h0 : w.cell? a = some c := hi 0 (by omega)
    have h1 : w.cell? (a.add 1) = some d := hi 1 (by omega)
    have hs := World.cell?_spot h0
    obtain ⟨b, o, s⟩ := a
    simp only at hs
    subst hs
    exact ⟨b, o, c, d, rfl, rfl, h0, h1⟩

theorem open_pstr {fuel : Nat} {v : Value} {x : DataW H × List MemPlace} (h : DataW.trod enc Try.prog w base spare held fuel 22 [v] = some x) : ∃ a, v = .pointer a ∧ PStr w a := by
  rcases DataW.trod_pointer Try.underlying22 h with ⟨hc, _⟩ | ⟨a, cs', y, n, _, hc, _, h1, h2⟩
  · simp at hc
    exact ⟨none, hc, .inl rfl⟩
  · simp at hc
    rw [c9] at h1
    obtain ⟨b, o, c, rfl, rfl, hh1⟩ := one_cell h1
    obtain ⟨s, hs, _, hz⟩ := DataW.trod_string Try.underlying9 h2
    simp at hs
    subst hs
    exact ⟨_, hc, .inr ⟨b, o, s, rfl, hh1, hz⟩⟩
theorem open_pint {fuel : Nat} {v : Value} {x : DataW H × List MemPlace} (h : DataW.trod enc Try.prog w base spare held fuel 23 [v] = some x) : ∃ a, v = .pointer a ∧ PInt w a := by
  rcases DataW.trod_pointer Try.underlying23 h with ⟨hc, _⟩ | ⟨a, cs', y, n, _, hc, _, h1, h2⟩
  · simp at hc
    exact ⟨none, hc, .inl rfl⟩
  · simp at hc
    rw [c2] at h1
    obtain ⟨b, o, c, rfl, rfl, hh1⟩ := one_cell h1
    obtain ⟨k, hs, _, hz⟩ := DataW.trod_int Try.underlying2 h2
    simp at hs
    subst hs
    exact ⟨_, hc, .inr ⟨b, o, k, rfl, hh1⟩⟩
theorem add_two (g p i : Nat) : Addr.add ⟨g, p, none⟩ (i * 2) = ⟨g, p + i * 2, none⟩ := by
  unfold Addr.add
  split
  · rename_i h
    rw [h]; rfl
  · rfl
theorem open_pbands {fuel : Nat} {v : Value} {x : DataW H × List MemPlace} (h : DataW.trod enc Try.prog w base spare held fuel 24 [v] = some x) : ∃ a, v = .pointer a ∧ PBands w maxLen a := by
  rcases DataW.trod_pointer Try.underlying24 h with ⟨hc, _⟩ | ⟨a, cs', y, n, _, hc, _, h1, h2⟩
  · simp at hc
    exact ⟨none, hc, .inl rfl⟩
  · simp at hc
    rw [c34] at h1
    obtain ⟨b, o, c, rfl, rfl, hh1⟩ := one_cell h1
    refine ⟨_, hc, .inr ⟨b, o, c, rfl, hh1, ?_⟩⟩
    rcases DataW.trod_slice Try.underlying34 h2 with ⟨hs, _⟩ | ⟨a2, len, cap, elems, rest, m, _, hs, _, hb, hl, hm, he, hel, _⟩
    · simp at hs
      exact .inl hs
    · simp at hs
      refine .inr ⟨a2, len, cap, hs, by omega, hl, hm, fun hpos => ?_⟩
      have hel' : ∀ i, i < len → ∃ cs y, w.cells? base (a2.add (i * 2)) 2 = some cs ∧ DataW.trod enc Try.prog w base spare held m 36 cs = some y := fun i hi => by
        have hh := hel i hi
        rw [c36] at hh
        rw [List.getElem?_eq_getElem (by omega)] at hh
        obtain ⟨cs, q1, q2⟩ := Option.bind_eq_some_iff.1 hh
        exact ⟨cs, _, q1, q2⟩
      obtain ⟨cs0, y0, q0, _⟩ := hel' 0 hpos
      obtain ⟨g, p, _, _, ha, _⟩ := two_cells q0
      have ha2 : a2 = ⟨g, p, none⟩ := by simpa [Addr.add] using ha
      subst ha2
      refine ⟨g, p, rfl, fun i hi => ?_⟩
      obtain ⟨cs, y, q1, q2⟩ := hel' i hi
      rw [add_two] at q1
      obtain ⟨b', o', c', d', hbo, rfl, e1, e2⟩ := two_cells q1
      simp only [Addr.mk.injEq, and_true] at hbo
      obtain ⟨rfl, rfl⟩ := hbo
      obtain ⟨z0, z1, k, _, _, t0, t1⟩ := trod_struct2 Try.underlying36 q2
      simp only [c22] at t0 t1
      obtain ⟨f, rfl, pf⟩ := open_pstr (v := c') t0
      obtain ⟨r, rfl, pr⟩ := open_pstr (v := d') t1
      exact ⟨f, r, e1, e2, pf, pr⟩
end
end Go.Proofs.Qxb6602237a
