import Derived.Test.Qxb6601826aHost
namespace Go.Proofs.Qxb6601826a
open Go.RowKit

/-! ### plain words -/
def bcells (l : List UInt8) : List Value := l.map fun b => Value.int .u8 b.toNat
theorem bcells_append (a b : List UInt8) : bcells (a ++ b) = bcells a ++ bcells b := by simp [bcells]
def lowI (c : Int) : Int := if 65 ≤ c ∧ c ≤ 90 then c + 32 else c
def low8 (c : UInt8) : UInt8 := UInt8.ofNat (lowI c.toNat).toNat
theorem low8_toNat (c : UInt8) : ((low8 c).toNat : Int) = lowI c.toNat := by
  have hc : c.toNat < 256 := UInt8.toNat_lt c
  have : 0 ≤ lowI c.toNat ∧ lowI c.toNat < 256 := by unfold lowI; split <;> omega
  unfold low8
  rw [UInt8.toNat_ofNat']
  omega
def canon (s : ByteArray) : List UInt8 := s.data.toList.map low8
def FoldP (v u : ByteArray) : Prop := v.size = u.size ∧ ∀ i, i < v.size → lowI (byteAt v i) = lowI (byteAt u i)

theorem byteAt_list (s : ByteArray) (i : Nat) (h : i < s.size) : byteAt s i = ((s.data.toList[i]'(by simpa using h)).toNat : Int) := by
  rw [byteAt_eq s i h]; rfl

theorem canon_eq (v u : ByteArray) : canon v = canon u ↔ FoldP v u := by
  unfold canon FoldP
  constructor
  · intro h
    have hl : v.size = u.size := by simpa using congrArg List.length h
    refine ⟨hl, fun i hi => ?_⟩
    have h2 := congrArg (fun l => (l[i]?).map fun c : UInt8 => (c.toNat : Int)) h
    have hi' : i < u.size := by omega
    simp [hi, hi', low8_toNat] at h2
    rw [byteAt_eq v i hi, byteAt_eq u i hi']
    exact h2
  · rintro ⟨hl, h⟩
    apply List.ext_getElem
    · simpa using hl
    · intro i h1 h2
      have hi : i < v.size := by simpa using h1
      have hi' : i < u.size := by simpa using h2
      have := h i hi
      rw [byteAt_list v i hi, byteAt_list u i hi'] at this
      simp only [List.getElem_map]
      apply UInt8.toNat_inj.1
      have a := low8_toNat (v.data.toList[i]'(by simpa using hi))
      have b := low8_toNat (u.data.toList[i]'(by simpa using hi'))
      omega

theorem ret_bool {b : Bool} (h : b = true) : Ending.returned (.bool b) = .returned (.bool true) := by rw [h]

theorem take_snoc (s : ByteArray) (k : Nat) (h : k < s.size) : s.data.toList.take (k + 1) = s.data.toList.take k ++ [s[k]] := by
  rw [List.take_succ_eq_append_getElem (by simpa using h)]; rfl

/-! ### a row of bytes of the call's own, made a string -/
theorem run_string_own {B : Nat} {v : Value} {l : List UInt8} {w : World} (h : w.ownsRow B 5 1 v l.length (bcells l)) :
    (convert 28 9 v).run Try.prog w = .ok (.string ⟨l.toArray⟩) w := by
  rcases h.2 with ⟨rfl, h0⟩ | ⟨g, cap, cur, rfl, _⟩
  · obtain rfl : l = [] := List.eq_nil_of_length_eq_zero h0
    exact run_convert_bytes_nil w 28 5 Try.underlying28 Try.underlying5 0 0 9 Try.underlying9
  · refine run_convert_bytes_back w 28 9 5 _ cap l Try.underlying28 Try.underlying5 Try.underlying9 fun j hj => ?_
    exact h.cells rfl j _ (by simp [bcells, hj])

theorem Try.info5 : (Try.prog.info? 5).map (fun i => (i.zero, i.size, i.bytes)) = some (some (.int .u8 0), 1, 1) := by kernel_rfl

theorem ownsRow_base {w : World} {B B' : Nat} {e : TypeId} {size : Nat} {v : Value} {n : Nat} {xs : List Value} (h : w.ownsRow B e size v n xs) (hB : B' ≤ B) : w.ownsRow B' e size v n xs := by
  refine ⟨h.1, ?_⟩
  rcases h.2 with h2 | ⟨g, cap, cur, hv, hg, r⟩
  · exact .inl h2
  · exact .inr ⟨g, cap, cur, hv, Nat.le_trans hB hg, r⟩

/-- behind 'append(b, c)': what the new world keeps. -/
theorem below_append {B : Nat} {w0 wr w1 : World} {v : Value} {n : Nat} {xs : List Value} {o : Obj} {e : TypeId} {size : Nat} (hb : Below B w0 wr) (hB : B ≤ wr.heap.size) (hown : wr.ownsRow B e size v n xs)
    (hg : (wr.alloc o).grownBy w1 v.ownBlock) : Below B w0 w1 :=
  (hb.alloc hB o).grown hg (by simp; omega) (fun k hk => ((hown.alloc o).lt k hk).1)

theorem one_cell' (w : World) (u : Value) (e : TypeId) (hu : u.oneCell' = true) : (∀ (j : Nat) (x : Value), [u][j]? = some x → (w.alloc (.cells #[u] e)).cell? ((⟨w.heap.size, 0, none⟩ : Addr).add j) = some x) ∧ ∀ x ∈ [u], x.oneCell' = true := by
  refine ⟨?_, ?_⟩
  · intro j x hj
    match j, hj with
    | 0, hj => simp at hj; subst hj; simp [Addr.add]
  · intro x hx
    simp at hx
    subst hx
    exact hu

/-! ### (Name).AppendCanonical at a nil slice -/
def lowTo (s : ByteArray) (k : Nat) : List UInt8 := (s.data.toList.take k).map low8
theorem lowTo_len (s : ByteArray) (k : Nat) (h : k ≤ s.size) : (lowTo s k).length = k := by simp [lowTo]; omega
theorem lowTo_succ (s : ByteArray) (k : Nat) (h : k < s.size) : bcells (lowTo s (k + 1)) = bcells (lowTo s k) ++ [.int .u8 (lowI ((s[k]'h).toNat : Int))] := by
  simp only [lowTo, take_snoc s k h, List.map_append, bcells_append]
  congr 1
  simp [bcells, low8_toNat]
theorem lowTo_end (s : ByteArray) : lowTo s s.size = canon s := by
  unfold lowTo canon
  rw [List.take_of_length_le (by simp)]

set_option maxHeartbeats 1000000 in
theorem canon_any (s : ByteArray) (w : World) (hs : s.size ≤ 1048576) :
    Calls Try.prog 22 #[.agg #[.string s], .slice none 0 0] w fun e w' => ∃ v, e = .returned v ∧ w'.ownsRow w.heap.size 5 1 v (canon s).length (bcells (canon s)) ∧ Below w.heap.size w w' := by
  obtain ⟨i0, hi, hz0, hz1, hz2⟩ := info_parts Try.info5
  go_enter Try.func22, Try.ntmps22
  go_wp2
  go_loopw [1, 5] (fun v i wr => ∃ k : Nat, k ≤ s.size ∧ i = .int .i64 k ∧ wr.ownsRow (w.heap.size + 1) 5 1 v k (bcells (lowTo s k)) ∧ Below (w.heap.size + 1) (w.alloc (.cells #[.string s] 30)) wr) (fun _ i _ => s.size - (intOf i).toNat)
  case atStart => exact ⟨0, Nat.zero_le _, rfl, World.ownsRow_nil _ _ _ _, Below.refl _ _⟩
  case round =>
    obtain ⟨k, hk, rfl, hown, hb⟩ := hrel
    have hbox : wr.cell? ⟨w.heap.size, 0, none⟩ = some (.string s) := by rw [hb.cell (p := ⟨w.heap.size, 0, none⟩) (Nat.lt_succ_self _)]; simp
    by_cases hlt : k < s.size
    · have hu : (s[k]'hlt).toNat < 256 := UInt8.toNat_lt _
      have HS : Hid (bcells (lowTo s (k + 1)) = bcells (lowTo s k) ++ [.int .u8 (lowI ((s[k]'hlt).toNat : Int))]) := lowTo_succ s k hlt
      have hsz := hb.size
      simp at hsz
      rcases (show (65 ≤ ((s[k]'hlt).toNat : Int) ∧ ((s[k]'hlt).toNat : Int) ≤ 90) ∨ ((s[k]'hlt).toNat : Int) < 65 ∨ 90 < ((s[k]'hlt).toNat : Int) by omega) with ⟨u1, u2⟩ | u1 | u1
      · have HL : Hid (lowI ((s[k]'hlt).toNat : Int) = ((s[k]'hlt).toNat : Int) + 32) := if_pos ⟨u1, u2⟩
        go_wp2_with (at_builtin; refine wpList_append_own _ rfl _ _ 28 rfl (w.heap.size + 1) 5 i0 (.int .u8 0) 1 1 Try.underlying28 hi hz0 hz1 hz2 rfl (by decide) _ _ _ rfl (hown.alloc _) ⟨wr.heap.size, 0, none⟩ 1 1 [.int .u8 (((s[k]'hlt).toNat : Int) + 32)] rfl rfl (one_cell' _ _ _ rfl).1 (one_cell' wr _ 5 rfl).2 (by unfold maxLen; omega) (by omega) (by simp; omega) ?_)
        intro v' w1 hown' hgrow _
        have HB : Hid (Below (w.heap.size + 1) (w.alloc (.cells #[.string s] 30)) w1) := below_append hb hsz hown hgrow
        have HO : Hid (w1.ownsRow (w.heap.size + 1) 5 1 v' (k + 1) (bcells (lowTo s (k + 1)))) := by rw [HS.out, HL.out]; exact hown'
        clear hown' hgrow hown HS HL hb hbox
        go_wp2
        go_roundw
        case rel => exact ⟨k + 1, by omega, by go_num, HO, HB⟩
        case measure => simp [intOf]; omega
      · have HL : Hid (lowI ((s[k]'hlt).toNat : Int) = ((s[k]'hlt).toNat : Int)) := if_neg (by omega)
        go_wp2_with (at_builtin; refine wpList_append_own _ rfl _ _ 28 rfl (w.heap.size + 1) 5 i0 (.int .u8 0) 1 1 Try.underlying28 hi hz0 hz1 hz2 rfl (by decide) _ _ _ rfl (hown.alloc _) ⟨wr.heap.size, 0, none⟩ 1 1 [.int .u8 (((s[k]'hlt).toNat : Int))] rfl rfl (one_cell' _ _ _ rfl).1 (one_cell' wr _ 5 rfl).2 (by unfold maxLen; omega) (by omega) (by simp; omega) ?_)
        intro v' w1 hown' hgrow _
        have HB : Hid (Below (w.heap.size + 1) (w.alloc (.cells #[.string s] 30)) w1) := below_append hb hsz hown hgrow
        have HO : Hid (w1.ownsRow (w.heap.size + 1) 5 1 v' (k + 1) (bcells (lowTo s (k + 1)))) := by rw [HS.out, HL.out]; exact hown'
        clear hown' hgrow hown HS HL hb hbox
        go_wp2
        go_roundw
        case rel => exact ⟨k + 1, by omega, by go_num, HO, HB⟩
        case measure => simp [intOf]; omega
      · have HL : Hid (lowI ((s[k]'hlt).toNat : Int) = ((s[k]'hlt).toNat : Int)) := if_neg (by omega)
        have d90 : decide (((s[k]'hlt).toNat : Int) ≤ 90) = false := decide_eq_false (by omega)
        go_wp2_with (at_builtin; refine wpList_append_own _ rfl _ _ 28 rfl (w.heap.size + 1) 5 i0 (.int .u8 0) 1 1 Try.underlying28 hi hz0 hz1 hz2 rfl (by decide) _ _ _ rfl (hown.alloc _) ⟨wr.heap.size, 0, none⟩ 1 1 [.int .u8 (((s[k]'hlt).toNat : Int))] rfl rfl (one_cell' _ _ _ rfl).1 (one_cell' wr _ 5 rfl).2 (by unfold maxLen; omega) (by omega) (by simp; omega) ?_)
        intro v' w1 hown' hgrow _
        have HB : Hid (Below (w.heap.size + 1) (w.alloc (.cells #[.string s] 30)) w1) := below_append hb hsz hown hgrow
        have HO : Hid (w1.ownsRow (w.heap.size + 1) 5 1 v' (k + 1) (bcells (lowTo s (k + 1)))) := by rw [HS.out, HL.out]; exact hown'
        clear hown' hgrow hown HS HL hb hbox
        go_wp2
        go_roundw
        case rel => exact ⟨k + 1, by omega, by go_num, HO, HB⟩
        case measure => simp [intOf]; omega
    · obtain rfl : k = s.size := by omega
      go_wp2
      go_ret
      refine ⟨_, rfl, ?_, ?_⟩
      · have hl : (canon s).length = s.size := by simp [canon]
        rw [hl, ← lowTo_end]
        exact ownsRow_base hown (Nat.le_succ _)
      · exact ((Below.refl _ w).alloc (Nat.le_refl _) _).trans (hb.mono (Nat.le_succ _))

/-! ### ZZNameFromWire -/
theorem wire_any (s : ByteArray) (w : World) : Calls Try.prog 21 #[.string s] w fun e w' => e = .returned (.agg #[.string s]) ∧ Below w.heap.size w w' := by
  go_enter Try.func21, Try.ntmps21
  go_wp2
  exact bodyPost_ret (v := .agg #[.string s]) (by simp [results, Try.results21, go_sem]) rfl ⟨rfl, (Below.refl _ _).alloc (Nat.le_refl _) _⟩

/-! ### zzEqualFoldASCII -/
theorem notFold {v u : ByteArray} {k : Nat} (hk : k < v.size) (hk' : k < u.size) (h : lowI ((v[k]'hk).toNat : Int) ≠ lowI ((u[k]'hk').toNat : Int)) : ¬ FoldP v u := fun hf => h (by
  have := hf.2 k hk
  rw [byteAt_eq v k hk, byteAt_eq u k hk'] at this
  exact this)
theorem fold_succ {v u : ByteArray} {k : Nat} (hk : k < v.size) (hk' : k < u.size) (hA : ∀ j, j < k → lowI (byteAt v j) = lowI (byteAt u j)) (h : lowI ((v[k]'hk).toNat : Int) = lowI ((u[k]'hk').toNat : Int)) :
    ∀ j, j < k + 1 → lowI (byteAt v j) = lowI (byteAt u j) := by
  intro j hj
  rcases Nat.lt_or_eq_of_le (Nat.le_of_lt_succ hj) with h' | h'
  · exact hA j h'
  · subst h'
    rw [byteAt_eq v j hk, byteAt_eq u j hk']
    exact h

set_option maxHeartbeats 2000000 in
theorem fold_any (v u : ByteArray) (w : World) (hv : v.size ≤ 1048576) :
    Calls Try.prog 24 #[.string v, .string u] w fun e w' => SaysB (FoldP v u) e w w' := by
  by_cases hl : v.size = u.size
  case neg =>
    have HN : Hid (¬ FoldP v u) := fun h => hl h.1
    have hb : ((v.size : Int) != (u.size : Int)) = true := by rw [bne_iff_ne]; omega
    clear hl
    go_enter Try.func24, Try.ntmps24
    go_wp2
    go_ret
    exact SaysB.mk _ (false_says HN.out)
  case pos =>
    have hb : ((v.size : Int) != (u.size : Int)) = false := by rw [bne_eq_false_iff_eq]; omega
    have HE : Hid (v.size = u.size) := hl
    have hle : v.size ≤ u.size := by omega
    clear hl
    go_enter Try.func24, Try.ntmps24
    go_wp2
    go_loop [5] (fun i => ∃ k : Nat, k ≤ v.size ∧ i = .int .i64 k ∧ Hid (∀ j, j < k → lowI (byteAt v j) = lowI (byteAt u j))) (fun i => v.size - (intOf i).toNat)
    case atStart => exact ⟨0, Nat.zero_le _, rfl, fun j hj => by omega⟩
    case round =>
      obtain ⟨k, hk, rfl, HA⟩ := hrel
      by_cases hlt : k < v.size
      · have hlt' : k < u.size := by omega
        have ha : (v[k]'hlt).toNat < 256 := UInt8.toNat_lt _
        have hc : (u[k]'hlt').toNat < 256 := UInt8.toNat_lt _
        by_cases hlo : lowI ((v[k]'hlt).toNat : Int) = lowI ((u[k]'hlt').toNat : Int)
        · have HA' : Hid (∀ j, j < k + 1 → lowI (byteAt v j) = lowI (byteAt u j)) := fold_succ hlt hlt' HA.out hlo
          clear HA
          rcases (show ((v[k]'hlt).toNat : Int) = ((u[k]'hlt').toNat : Int) ∨ (65 ≤ ((v[k]'hlt).toNat : Int) ∧ ((v[k]'hlt).toNat : Int) ≤ 90 ∧ ((u[k]'hlt').toNat : Int) = ((v[k]'hlt).toNat : Int) + 32) ∨ ((65 ≤ ((u[k]'hlt').toNat : Int) ∧ ((u[k]'hlt').toNat : Int) ≤ 90 ∧ ((v[k]'hlt).toNat : Int) = ((u[k]'hlt').toNat : Int) + 32) ∧ 90 < ((v[k]'hlt).toNat : Int)) by unfold lowI at hlo; split at hlo <;> split at hlo <;> omega) with h | ⟨x1, x2, h⟩ | ⟨⟨x1, x2, h⟩, x3⟩
          · have e1 : (((v[k]'hlt).toNat : Int) == ((u[k]'hlt').toNat : Int)) = true := by rw [beq_iff_eq]; exact h
            clear h hlo
            go_wp2
            go_round
            case rel => exact ⟨k + 1, by omega, by go_num, HA'⟩
            case measure => simp [intOf]; omega
          · have e1 : (((v[k]'hlt).toNat : Int) == ((u[k]'hlt').toNat : Int)) = false := by rw [beq_eq_false_iff_ne]; omega
            have e2 : (((u[k]'hlt').toNat : Int) == ((v[k]'hlt).toNat : Int) + 32) = true := by rw [beq_iff_eq]; exact h
            clear h hlo
            go_wp2
            go_round
            case rel => exact ⟨k + 1, by omega, by go_num, HA'⟩
            case measure => simp [intOf]; omega
          · have e1 : (((v[k]'hlt).toNat : Int) == ((u[k]'hlt').toNat : Int)) = false := by rw [beq_eq_false_iff_ne]; omega
            have e2 : (((v[k]'hlt).toNat : Int) == ((u[k]'hlt').toNat : Int) + 32) = true := by rw [beq_iff_eq]; exact h
            have e3 : decide (((v[k]'hlt).toNat : Int) ≤ 90) = false := decide_eq_false (by omega)
            clear h hlo
            go_wp2
            go_round
            case rel => exact ⟨k + 1, by omega, by go_num, HA'⟩
            case measure => simp [intOf]; omega
        · have HN : Hid (¬ FoldP v u) := notFold hlt hlt' hlo
          clear HA
          have e1 : (((v[k]'hlt).toNat : Int) == ((u[k]'hlt').toNat : Int)) = false := by rw [beq_eq_false_iff_ne]; intro h; rw [h] at hlo; exact hlo rfl
          have hne : ¬ ((v[k]'hlt).toNat : Int) = ((u[k]'hlt').toNat : Int) := by simpa using e1
          have h1 : 65 ≤ ((v[k]'hlt).toNat : Int) → ((v[k]'hlt).toNat : Int) ≤ 90 → ¬ ((u[k]'hlt').toNat : Int) = ((v[k]'hlt).toNat : Int) + 32 := by intro x y z; unfold lowI at hlo; split at hlo <;> split at hlo <;> omega
          have h2 : 65 ≤ ((u[k]'hlt').toNat : Int) → ((u[k]'hlt').toNat : Int) ≤ 90 → ¬ ((v[k]'hlt).toNat : Int) = ((u[k]'hlt').toNat : Int) + 32 := by intro x y z; unfold lowI at hlo; split at hlo <;> split at hlo <;> omega
          clear hlo hne
          rcases (show (65 ≤ ((v[k]'hlt).toNat : Int) ∧ ((v[k]'hlt).toNat : Int) ≤ 90) ∨ ((v[k]'hlt).toNat : Int) < 65 ∨ 90 < ((v[k]'hlt).toNat : Int) by omega) with ⟨x1, x2⟩ | x1 | x1 <;> rcases (show (65 ≤ ((u[k]'hlt').toNat : Int) ∧ ((u[k]'hlt').toNat : Int) ≤ 90) ∨ ((u[k]'hlt').toNat : Int) < 65 ∨ 90 < ((u[k]'hlt').toNat : Int) by omega) with ⟨y1, y2⟩ | y1 | y1
          · have f1 : (((u[k]'hlt').toNat : Int) == ((v[k]'hlt).toNat : Int) + 32) = false := by rw [beq_eq_false_iff_ne]; exact h1 x1 x2
            have f2 : (((v[k]'hlt).toNat : Int) == ((u[k]'hlt').toNat : Int) + 32) = false := by rw [beq_eq_false_iff_ne]; exact h2 y1 y2
            clear h1 h2
            go_wp2
            go_ret
            exact SaysB.mk _ (false_says HN.out)
          · have f1 : (((u[k]'hlt').toNat : Int) == ((v[k]'hlt).toNat : Int) + 32) = false := by rw [beq_eq_false_iff_ne]; exact h1 x1 x2
            clear h1 h2
            go_wp2
            go_ret
            exact SaysB.mk _ (false_says HN.out)
          · have f1 : (((u[k]'hlt').toNat : Int) == ((v[k]'hlt).toNat : Int) + 32) = false := by rw [beq_eq_false_iff_ne]; exact h1 x1 x2
            have g2 : decide (((u[k]'hlt').toNat : Int) ≤ 90) = false := decide_eq_false (by omega)
            clear h1 h2
            go_wp2
            go_ret
            exact SaysB.mk _ (false_says HN.out)
          · have f2 : (((v[k]'hlt).toNat : Int) == ((u[k]'hlt').toNat : Int) + 32) = false := by rw [beq_eq_false_iff_ne]; exact h2 y1 y2
            clear h1 h2
            go_wp2
            go_ret
            exact SaysB.mk _ (false_says HN.out)
          · clear h1 h2
            go_wp2
            go_ret
            exact SaysB.mk _ (false_says HN.out)
          · have g2 : decide (((u[k]'hlt').toNat : Int) ≤ 90) = false := decide_eq_false (by omega)
            clear h1 h2
            go_wp2
            go_ret
            exact SaysB.mk _ (false_says HN.out)
          · have g1 : decide (((v[k]'hlt).toNat : Int) ≤ 90) = false := decide_eq_false (by omega)
            have f2 : (((v[k]'hlt).toNat : Int) == ((u[k]'hlt').toNat : Int) + 32) = false := by rw [beq_eq_false_iff_ne]; exact h2 y1 y2
            clear h1 h2
            go_wp2
            go_ret
            exact SaysB.mk _ (false_says HN.out)
          · have g1 : decide (((v[k]'hlt).toNat : Int) ≤ 90) = false := decide_eq_false (by omega)
            clear h1 h2
            go_wp2
            go_ret
            exact SaysB.mk _ (false_says HN.out)
          · have g1 : decide (((v[k]'hlt).toNat : Int) ≤ 90) = false := decide_eq_false (by omega)
            have g2 : decide (((u[k]'hlt').toNat : Int) ≤ 90) = false := decide_eq_false (by omega)
            clear h1 h2
            go_wp2
            go_ret
            exact SaysB.mk _ (false_says HN.out)
      · have HF : Hid (FoldP v u) := ⟨HE.out, fun i hi => HA.out i (by omega)⟩
        go_wp2
        go_ret
        exact SaysB.mk _ (true_says HF.out)

/-! ### the bound on bytes -/
theorem bytes23_yes (v u : ByteArray) (w : World) (h : v.size + u.size ≤ 1048576) : Calls Try.prog 23 #[.string v, .string u] w fun e w' => e = .returned (.bool true) ∧ w = w' := by
  go_enter Try.func23, Try.ntmps23
  go_wp2
  go_ret
  exact ⟨rfl, rfl⟩
theorem bytes23_no (v u : ByteArray) (w : World) (hv : v.size ≤ maxLen) (hu : u.size ≤ maxLen) (h : 1048576 < v.size + u.size) : Calls Try.prog 23 #[.string v, .string u] w fun e w' => e = .returned (.bool false) ∧ w = w' := by
  unfold maxLen at hv hu
  by_cases h1 : 1048576 < v.size
  · go_enter Try.func23, Try.ntmps23
    go_wp2
    go_ret
    exact ⟨rfl, rfl⟩
  by_cases h2 : 1048576 < u.size
  · go_enter Try.func23, Try.ntmps23
    go_wp2
    go_ret
    exact ⟨rfl, rfl⟩
  · go_enter Try.func23, Try.ntmps23
    go_wp2
    go_ret
    exact ⟨rfl, rfl⟩
end Go.Proofs.Qxb6601826a
