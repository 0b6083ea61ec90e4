/- Plain mathematics of bit streams, most significant bit first. No Go in sight. -/
namespace Go.Proofs.Ybulksvy.Bv

/-- The number that the k bits B s, B (s+1), .. spell, the first the most significant. -/
def bv (B : Nat → Nat) (s : Nat) : Nat → Nat
  | 0 => 0
  | k + 1 => 2 * bv B s k + B (s + k)

theorem bv_lt (B : Nat → Nat) (hB : ∀ p, B p < 2) (s k : Nat) : bv B s k < 2 ^ k := by
  induction k with
  | zero => simp [bv]
  | succ k ih => have := hB (s + k); simp only [bv, Nat.pow_succ]; omega

theorem bv_add (B : Nat → Nat) (s a b : Nat) : bv B s (a + b) = bv B s a * 2 ^ b + bv B (s + a) b := by
  induction b with
  | zero => simp [bv]
  | succ b ih =>
    rw [← Nat.add_assoc, bv, ih, bv, Nat.pow_succ, Nat.add_assoc s a b, Nat.mul_add]
    have : bv B s a * (2 ^ b * 2) = 2 * (bv B s a * 2 ^ b) := by rw [← Nat.mul_assoc, Nat.mul_comm]
    omega

/-- The bit of a row of bytes. -/
def bitOf (D : Nat → Nat) (p : Nat) : Nat := D (p / 8) / 2 ^ (7 - p % 8) % 2

theorem bitOf_lt (D : Nat → Nat) (p : Nat) : bitOf D p < 2 := Nat.mod_lt _ (by omega)

theorem byte_bits : ∀ d : Nat, d < 256 → 2 * (2 * (2 * (2 * (2 * (2 * (2 * (2 * 0 + d / 128 % 2) + d / 64 % 2) + d / 32 % 2) + d / 16 % 2) + d / 8 % 2) + d / 4 % 2) + d / 2 % 2) + d % 2 = d := by
  intro d h
  omega

theorem bv_byte (D : Nat → Nat) (i : Nat) (h : D i < 256) : bv (bitOf D) (8 * i) 8 = D i := by
  have e := byte_bits (D i) h
  have q : ∀ k, k < 8 → (8 * i + k) / 8 = i := by intro k hk; omega
  have r : ∀ k, k < 8 → (8 * i + k) % 8 = k := by intro k hk; omega
  simp only [bv, bitOf, q 0 (by omega), q 1 (by omega), q 2 (by omega), q 3 (by omega), q 4 (by omega), q 5 (by omega), q 6 (by omega), q 7 (by omega), r 0 (by omega), r 1 (by omega), r 2 (by omega), r 3 (by omega), r 4 (by omega), r 5 (by omega), r 6 (by omega), r 7 (by omega)]
  simpa using e

/-- Eight bits more: a byte more. -/
theorem bv_step (D : Nat → Nat) (i j : Nat) (h : D (i + j) < 256) : bv (bitOf D) (8 * i) (8 * (j + 1)) = bv (bitOf D) (8 * i) (8 * j) * 256 + D (i + j) := by
  rw [show 8 * (j + 1) = 8 * j + 8 from by omega, bv_add, show 8 * i + 8 * j = 8 * (i + j) from by omega, bv_byte D _ h]

/-- THE WINDOW: 64 bits from the byte's head, the first r cut off, n kept. -/
theorem window (B : Nat → Nat) (hB : ∀ p, B p < 2) (s r n : Nat) (hr : r < 8) (hn : n ≤ 32) :
    bv B s 64 * 2 ^ r % 2 ^ 64 / 2 ^ (64 - n) = bv B (s + r) n := by
  have e1 : bv B s 64 = bv B s r * 2 ^ (64 - r) + bv B (s + r) (64 - r) := by
    rw [← bv_add, show r + (64 - r) = 64 from by omega]
  have e2 : bv B (s + r) (64 - r) = bv B (s + r) n * 2 ^ (64 - r - n) + bv B (s + r + n) (64 - r - n) := by
    rw [← bv_add, show n + (64 - r - n) = 64 - r from by omega]
  have l2 := bv_lt B hB (s + r + n) (64 - r - n)
  have l1 := bv_lt B hB (s + r) (64 - r)
  have p1 : 2 ^ (64 - r) * 2 ^ r = 2 ^ 64 := by rw [← Nat.pow_add, show 64 - r + r = 64 from by omega]
  have p2 : 2 ^ (64 - r - n) * 2 ^ r = 2 ^ (64 - n) := by rw [← Nat.pow_add, show 64 - r - n + r = 64 - n from by omega]
  have e3 : bv B s 64 * 2 ^ r = bv B (s + r) (64 - r) * 2 ^ r + 2 ^ 64 * bv B s r := by
    rw [e1, Nat.add_mul, Nat.mul_assoc, p1, Nat.mul_comm (2 ^ 64), Nat.add_comm]
  have l3 : bv B (s + r) (64 - r) * 2 ^ r < 2 ^ 64 := by
    rw [← p1]; exact Nat.mul_lt_mul_of_pos_right l1 (Nat.two_pow_pos r)
  rw [e3, Nat.add_mul_mod_self_left, Nat.mod_eq_of_lt l3, e2, Nat.add_mul, Nat.mul_assoc, p2]
  have l4 : bv B (s + r + n) (64 - r - n) * 2 ^ r < 2 ^ (64 - n) := by
    rw [← p2]; exact Nat.mul_lt_mul_of_pos_right l2 (Nat.two_pow_pos r)
  rw [Nat.mul_comm (bv B (s + r) n), Nat.mul_add_div (Nat.two_pow_pos _), Nat.div_eq_of_lt l4, Nat.add_zero]

end Go.Proofs.Ybulksvy.Bv
