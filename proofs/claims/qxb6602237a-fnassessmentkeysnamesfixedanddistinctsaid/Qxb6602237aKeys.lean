import Derived.Test.Qxb6602237aPlan
import Derived.Test.Qxb6602237aBytes
namespace Go.Proofs.Qxb6602237a
open Go.RowKit
set_option linter.unusedVariables false

/-- the five names. -/
def nm : Nat → ByteArray
  | 0 => ⟨#[121, 101, 97, 114]⟩
  | 1 => ⟨#[114, 101, 118, 101, 110, 117, 101, 95, 103, 114, 111, 119, 116, 104]⟩
  | 2 => ⟨#[112, 114, 111, 102, 105, 116, 95, 103, 114, 111, 119, 116, 104]⟩
  | 3 => ⟨#[114, 101, 118, 101, 110, 117, 101, 95, 98, 97, 110, 100, 115]⟩
  | _ => ⟨#[112, 114, 111, 102, 105, 116, 95, 98, 97, 110, 100, 115]⟩
/-- which of five are given. -/
def fl (a b c d e : Option Addr) : Nat → Bool
  | 0 => a.isSome
  | 1 => b.isSome
  | 2 => c.isSome
  | 3 => d.isSome
  | _ => e.isSome

theorem table_new (v0 v1 v2 v3 v4 v5 v6 v7 v8 v9 : Option Addr) (w : World) : Calls Try.prog 15 #[.pointer v0, .pointer v1, .pointer v2, .pointer v3, .pointer v4, .pointer v5, .pointer v6, .pointer v7, .pointer v8, .pointer v9] w fun e w' => e = .returned (.pointer (some ⟨w.heap.size, 0, none⟩)) ∧ w.alloc (.cells #[.pointer v0, .pointer v1, .pointer v2, .pointer v3, .pointer v4, .pointer v5, .pointer v6, .pointer v7, .pointer v8, .pointer v9] 46) = w' := by
  go_enter Try.func15, Try.ntmps15
  go_wp2
  go_ret
  exact ⟨rfl, rfl⟩

/-- a row of five keys. -/
def KeyCells (w : World) (K : Nat) (f : Nat → Bool) : Prop := ∀ k, k < 5 → w.cell? ⟨K, k * 2, none⟩ = some (.string (nm k)) ∧ w.cell? ⟨K, k * 2 + 1, none⟩ = some (.bool (f k))
def GivesRow (f : Nat → Bool) (w : World) (e : Ending) (w' : World) : Prop := ∃ K, e = .returned (.slice (some ⟨K, 0, none⟩) 5 5) ∧ KeyCells w' K f ∧ Below w.heap.size w w'

theorem key_cells (w : World) (p5 p6 p7 p8 p9 : Option Addr) : KeyCells (w.alloc (.cells #[.string (nm 0), .bool p5.isSome, .string (nm 1), .bool p6.isSome, .string (nm 2), .bool p7.isSome, .string (nm 3), .bool p8.isSome, .string (nm 4), .bool p9.isSome] 53)).drew w.heap.size (fl p5 p6 p7 p8 p9) := by
  intro k hk
  have e : ∀ (cs : Array Value) (j : Nat), (w.alloc (.cells cs 53)).drew.cell? ⟨w.heap.size, j, none⟩ = cs[j]? := fun cs j => World.cell?_alloc_new (w := w) cs 53 j
  rw [e, e]
  match k, hk with
  | 0, _ => exact ⟨rfl, rfl⟩
  | 1, _ => exact ⟨rfl, rfl⟩
  | 2, _ => exact ⟨rfl, rfl⟩
  | 3, _ => exact ⟨rfl, rfl⟩
  | 4, _ => exact ⟨rfl, rfl⟩
  | n + 5, h => exact absurd h (by omega)

set_option maxHeartbeats 20000000 in
theorem keys_row (B : Nat) (p5 p6 p7 p8 p9 : Option Addr) (w : World) (h5 : w.cell? ⟨B, 5, none⟩ = some (.pointer p5)) (h6 : w.cell? ⟨B, 6, none⟩ = some (.pointer p6)) (h7 : w.cell? ⟨B, 7, none⟩ = some (.pointer p7)) (h8 : w.cell? ⟨B, 8, none⟩ = some (.pointer p8)) (h9 : w.cell? ⟨B, 9, none⟩ = some (.pointer p9)) :
    Calls Try.prog 18 #[.pointer (some ⟨B, 0, none⟩)] w fun e w' => GivesRow (fl p5 p6 p7 p8 p9) w e w' := by
  have n22 := neq_nil 22 9 Try.underlying22
  have n23 := neq_nil 23 2 Try.underlying23
  have n42 := neq_nil 42 47 Try.underlying42
  go_enter Try.func18, Try.ntmps18
  go_wp2
  go_region_held3 (fun w' => w'.cell? ⟨B, 5, none⟩ = some (.pointer p5) ∧ w'.cell? ⟨B, 6, none⟩ = some (.pointer p6) ∧ w'.cell? ⟨B, 7, none⟩ = some (.pointer p7) ∧ w'.cell? ⟨B, 8, none⟩ = some (.pointer p8) ∧ w'.cell? ⟨B, 9, none⟩ = some (.pointer p9)) (first | with_reducible exact ⟨h5, h6, h7, h8, h9⟩ | exact ⟨h5, h6, h7, h8, h9⟩ | exact ⟨up1 h5 _, up1 h6 _, up1 h7 _, up1 h8 _, up1 h9 _⟩ | go_keep) (fail)
  go_wp2
  go_ret
  exact ⟨_, rfl, key_cells w p5 p6 p7 p8 p9, ((Below.refl _ _).alloc (Nat.le_refl _) _).drew⟩
end Go.Proofs.Qxb6602237a
