/- Plain arithmetic for the bit reader: no Go in sight. -/
namespace Go.Proofs.Qxb6602133a.Bit

/-- the word a with the j bytes z k, z (k+1), .. shifted in, untruncated. -/
def AA (a : Nat) (z : Nat → Nat) (k : Nat) : Nat → Nat
  | 0 => a
  | j + 1 => AA a z k j * 256 + z (k + j)

theorem AA_mod (a : Nat) (z : Nat → Nat) (k : Nat) (M : Nat) : ∀ j, AA (a % M) z k j % M = AA a z k j % M
  | 0 => by simp [AA]
  | j + 1 => by
    have ih := AA_mod a z k M j
    simp only [AA]
    rw [Nat.add_mod, Nat.mul_mod, ih, ← Nat.mul_mod, ← Nat.add_mod]

theorem AA_add (a : Nat) (z : Nat → Nat) (k j1 : Nat) : ∀ j2, AA a z k (j1 + j2) = AA (AA a z k j1) z (k + j1) j2
  | 0 => rfl
  | j2 + 1 => by
    have ih := AA_add a z k j1 j2
    show AA a z k (j1 + j2) * 256 + z (k + (j1 + j2)) = _
    rw [ih, ← Nat.add_assoc]
    rfl

theorem AA_div (a : Nat) (z : Nat → Nat) (hz : ∀ i, z i < 256) (k j1 : Nat) : ∀ j2, AA a z k (j1 + j2) / 2 ^ (8 * j2) = AA a z k j1
  | 0 => by simp
  | j2 + 1 => by
    have ih := AA_div a z hz k j1 j2
    have e : 2 ^ (8 * (j2 + 1)) = 256 * 2 ^ (8 * j2) := by rw [show 8 * (j2 + 1) = 8 + 8 * j2 by omega, Nat.pow_add]
    show (AA a z k (j1 + j2) * 256 + z (k + (j1 + j2))) / _ = _
    rw [e, ← Nat.div_div_eq_div_mul]
    have := hz (k + (j1 + j2))
    rw [show (AA a z k (j1 + j2) * 256 + z (k + (j1 + j2))) / 256 = AA a z k (j1 + j2) by omega]
    exact ih

/-- a register of 64 bits shows the bits below 64 of what was shifted in. -/
theorem reg (T a b : Nat) (h : a + b ≤ 64) : T % 2 ^ 64 / 2 ^ a % 2 ^ b = T / 2 ^ a % 2 ^ b := by
  have e : 2 ^ 64 = 2 ^ a * 2 ^ (64 - a) := by rw [← Nat.pow_add]; congr 1; omega
  rw [e, Nat.mod_mul_right_div_self]
  exact Nat.mod_mod_of_dvd _ (Nat.pow_dvd_pow 2 (by omega))

/-- bit p of the stream. -/
def sb (x : Nat) (z : Nat → Nat) (h p : Nat) : Nat := if p < h then x / 2 ^ (h - 1 - p) % 2 else z ((p - h) / 8) / 2 ^ (7 - (p - h) % 8) % 2

theorem sb_lt (x : Nat) (z : Nat → Nat) (h p : Nat) : sb x z h p < 2 := by
  unfold sb
  split <;> exact Nat.mod_lt _ (by decide)

theorem bit_low (u v r : Nat) (hr : r ≤ 7) : (u * 256 + v) / 2 ^ r % 2 = v / 2 ^ r % 2 := by
  have e : u * 256 = 2 ^ r * (u * 2 ^ (7 - r) * 2) := by
    rw [show (256 : Nat) = 2 ^ r * (2 ^ (7 - r) * 2) by rw [← Nat.mul_assoc, ← Nat.pow_add, show r + (7 - r) = 7 by omega]]
    rw [← Nat.mul_assoc, Nat.mul_comm u, Nat.mul_assoc, ← Nat.mul_assoc u]
  rw [e, Nat.mul_add_div (Nat.two_pow_pos r), Nat.mul_comm (u * 2 ^ (7 - r)) 2, Nat.mul_add_mod]

theorem sb_bit (x : Nat) (z : Nat → Nat) (hz : ∀ i, z i < 256) (h p k : Nat) (hp : p < h + 8 * k) : sb x z h p = AA x z 0 k / 2 ^ (h + 8 * k - 1 - p) % 2 := by
  unfold sb
  split
  · rename_i hlt
    have e : h + 8 * k - 1 - p = 8 * k + (h - 1 - p) := by omega
    have hd := AA_div x z hz 0 0 k
    rw [Nat.zero_add] at hd
    rw [e, Nat.pow_add, ← Nat.div_div_eq_div_mul, hd]
    rfl
  · rename_i hge
    obtain ⟨q, rfl⟩ : ∃ q, p = h + q := ⟨p - h, by omega⟩
    rw [show h + q - h = q by omega]
    obtain ⟨j, r, hr, rfl⟩ : ∃ j r, r < 8 ∧ q = 8 * j + r := ⟨q / 8, q % 8, by omega, by omega⟩
    obtain ⟨m, rfl⟩ : ∃ m, k = j + 1 + m := ⟨k - (j + 1), by omega⟩
    have e : h + 8 * (j + 1 + m) - 1 - (h + (8 * j + r)) = 8 * m + (7 - r) := by omega
    rw [show (8 * j + r) / 8 = j by omega, show (8 * j + r) % 8 = r by omega, e, Nat.pow_add, ← Nat.div_div_eq_div_mul, AA_div x z hz 0 (j + 1) m]
    show _ = (AA x z 0 j * 256 + z (0 + j)) / 2 ^ (7 - r) % 2
    rw [bit_low _ _ _ (by omega), Nat.zero_add]

/-- the next p bits of the stream, as a number. -/
def W (T s p : Nat) : Nat := T / 2 ^ (s - p) % 2 ^ p

theorem W_zero (T s : Nat) : W T s 0 = 0 := by simp [W, Nat.mod_one]
theorem W_lt (T s p : Nat) : W T s p < 2 ^ p := Nat.mod_lt _ (Nat.two_pow_pos p)
theorem W_succ (T s p : Nat) (h : p < s) : W T s (p + 1) = W T s p * 2 + T / 2 ^ (s - 1 - p) % 2 := by
  unfold W
  have e : s - p = (s - (p + 1)) + 1 := by omega
  have e2 : s - 1 - p = s - (p + 1) := by omega
  rw [e, e2, Nat.pow_succ 2 (s - (p + 1)), ← Nat.div_div_eq_div_mul, Nat.pow_succ 2 p, Nat.mul_comm (2 ^ p) 2, Nat.mod_mul]
  omega

/-- the register while q of the 8 * k bits are shifted in. -/
def Y (T k q : Nat) : Nat := T / 2 ^ (8 * k - q) % 2 ^ 64
theorem Y_succ (T k q : Nat) (h : q < 8 * k) : Y T k (q + 1) = (Y T k q * 2 + T / 2 ^ (8 * k - 1 - q) % 2) % 2 ^ 64 := by
  unfold Y
  have e : 8 * k - q = (8 * k - (q + 1)) + 1 := by omega
  have e2 : 8 * k - 1 - q = 8 * k - (q + 1) := by omega
  rw [e, e2, Nat.pow_succ 2 (8 * k - (q + 1)), ← Nat.div_div_eq_div_mul]
  generalize T / 2 ^ (8 * k - (q + 1)) = u
  have h1 : u % 18446744073709551616 = (u / 2 * 2 + u % 2) % 18446744073709551616 := by congr 1; omega
  show u % 18446744073709551616 = (u / 2 % 18446744073709551616 * 2 + u % 2) % 18446744073709551616
  omega
theorem Y_end (T k : Nat) : Y T k (8 * k) = T % 2 ^ 64 := by simp [Y]
theorem Y_zero (x : Nat) (z : Nat → Nat) (hz : ∀ i, z i < 256) (k : Nat) (hx : x < 2 ^ 64) : Y (AA x z 0 k) k 0 = x := by
  unfold Y
  have hd := AA_div x z hz 0 0 k
  rw [Nat.zero_add] at hd
  rw [Nat.sub_zero, hd]
  exact Nat.mod_eq_of_lt hx

/-- two reads, one behind the other. -/
theorem two_reads (T T1 n h1 h2 k2 : Nat) (hn : 32 < n) (e : T / 2 ^ (8 * k2) = T1) (he : h1 + 8 * k2 = h2 + 32) : (T1 / 2 ^ h1 % 2 ^ (n - 32)) * 2 ^ 32 + T / 2 ^ h2 % 2 ^ 32 = T / 2 ^ h2 % 2 ^ n := by
  have h3 : T1 / 2 ^ h1 = T / 2 ^ h2 / 2 ^ 32 := by
    rw [← e, Nat.div_div_eq_div_mul, Nat.div_div_eq_div_mul, ← Nat.pow_add, ← Nat.pow_add]
    congr 2
    omega
  rw [h3]
  have e2 : 2 ^ n = 2 ^ 32 * 2 ^ (n - 32) := by rw [← Nat.pow_add]; congr 1; omega
  rw [e2, Nat.mod_mul]
  rw [Nat.mul_comm, Nat.add_comm]
end Go.Proofs.Qxb6602133a.Bit
