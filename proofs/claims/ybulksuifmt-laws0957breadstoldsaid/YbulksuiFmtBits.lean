/- Plain mathematics: a row of bytes packed into words, little end first. No Go in sight. -/
namespace Go.Proofs.YbulksuiFmt.Bm

/-- The number that the k bytes D s, D (s+1), .. spell, the first the least. -/
def le (D : Nat → Nat) (s : Nat) : Nat → Nat
  | 0 => 0
  | k + 1 => 2 ^ (8 * k) * D (s + k) + le D s k

theorem le_lt (D : Nat → Nat) (hD : ∀ i, D i < 256) (s k : Nat) : le D s k < 2 ^ (8 * k) := by
  induction k with
  | zero => simp [le]
  | succ k ih =>
    simp only [le]
    have h1 := hD (s + k)
    have h2 : 2 ^ (8 * k) * D (s + k) ≤ 2 ^ (8 * k) * 255 := Nat.mul_le_mul_left _ (by omega)
    rw [show 8 * (k + 1) = 8 * k + 8 from by omega, Nat.pow_add]
    omega

theorem le_bit (D : Nat → Nat) (hD : ∀ i, D i < 256) (s k t : Nat) : (le D s k).testBit t = (decide (t < 8 * k) && (D (s + t / 8)).testBit (t % 8)) := by
  induction k with
  | zero => simp [le]
  | succ k ih =>
    simp only [le]
    rw [Nat.testBit_two_pow_mul_add _ (le_lt D hD s k)]
    by_cases h : t < 8 * k
    · rw [if_pos h, ih]
      have h' : t < 8 * (k + 1) := by omega
      simp [h, h']
    · rw [if_neg h]
      by_cases h' : t < 8 * (k + 1)
      · have e1 : t / 8 = k := by omega
        have e2 : t - 8 * k = t % 8 := by omega
        simp [h', e1, e2]
      · have : D (s + k) < 2 ^ (t - 8 * k) := Nat.lt_of_lt_of_le (hD _) (by
          calc 256 = 2 ^ 8 := rfl
            _ ≤ 2 ^ (t - 8 * k) := Nat.pow_le_pow_right (by omega) (by omega))
        rw [Nat.testBit_lt_two_pow this]
        simp [h']

/-- Word i when m bytes have been taken in. -/
def wd (D : Nat → Nat) (m i : Nat) : Nat := le D (8 * i) (min 8 (m - 8 * i))

theorem wd_zero (D : Nat → Nat) (i : Nat) : wd D 0 i = 0 := by
  unfold wd
  rw [show min 8 (0 - 8 * i) = 0 from by omega]
  rfl

theorem wd_lt (D : Nat → Nat) (hD : ∀ i, D i < 256) (m i : Nat) : wd D m i < 18446744073709551616 := by
  have := le_lt D hD (8 * i) (min 8 (m - 8 * i))
  have h2 : 2 ^ (8 * min 8 (m - 8 * i)) ≤ 2 ^ 64 := Nat.pow_le_pow_right (by omega) (by omega)
  unfold wd
  omega

theorem wd_other (D : Nat → Nat) (m i : Nat) (h : i ≠ m / 8) : wd D (m + 1) i = wd D m i := by
  unfold wd
  rw [show min 8 (m + 1 - 8 * i) = min 8 (m - 8 * i) from by omega]

/-- The word that the next byte goes into. -/
theorem wd_next (D : Nat → Nat) (m : Nat) : wd D (m + 1) (m / 8) = 2 ^ (8 * (m % 8)) * D m + wd D m (m / 8) := by
  unfold wd
  rw [show min 8 (m + 1 - 8 * (m / 8)) = m % 8 + 1 from by omega, show min 8 (m - 8 * (m / 8)) = m % 8 from by omega]
  simp only [le]
  rw [show 8 * (m / 8) + m % 8 = m from by omega]

theorem wd_cur_lt (D : Nat → Nat) (hD : ∀ i, D i < 256) (m : Nat) : wd D m (m / 8) < 2 ^ (8 * (m % 8)) := by
  unfold wd
  rw [show min 8 (m - 8 * (m / 8)) = m % 8 from by omega]
  exact le_lt D hD _ _

/-- Bit i of the words is bit i of the bytes taken in. -/
theorem wd_bit (D : Nat → Nat) (hD : ∀ i, D i < 256) (m i : Nat) : (wd D m (i / 64)).testBit (i % 64) = (decide (i < 8 * m) && (D (i / 8)).testBit (i % 8)) := by
  unfold wd
  rw [le_bit D hD]
  rw [show 8 * (i / 64) + i % 64 / 8 = i / 8 from by omega, show i % 64 % 8 = i % 8 from by omega]
  congr 1
  rw [decide_eq_decide]
  omega

/-- Bits at and past r of a word: none, iff the word is below 2 ^ r. -/
theorem high_zero (x r : Nat) : x / 2 ^ r = 0 ↔ ∀ t, r ≤ t → x.testBit t = false := by
  constructor
  · intro h t ht
    have hx : x < 2 ^ r := by
      rcases Nat.lt_or_ge x (2 ^ r) with h1 | h1
      · exact h1
      · have := Nat.div_pos h1 (Nat.two_pow_pos r); omega
    exact Nat.testBit_lt_two_pow (Nat.lt_of_lt_of_le hx (Nat.pow_le_pow_right (by omega) ht))
  · intro h
    refine Nat.div_eq_of_lt ?_
    exact Nat.lt_pow_two_of_testBit x h

/-- No stray bit from n on, iff the last word holds none at or past n % 64. -/
theorem stray_iff (D : Nat → Nat) (hD : ∀ i, D i < 256) (n : Nat) (hr : n % 64 ≠ 0) :
    wd D ((n + 7) / 8) ((n + 63) / 64 - 1) / 2 ^ (n % 64) = 0 ↔ ∀ i, n ≤ i → i < 8 * ((n + 7) / 8) → (D (i / 8)).testBit (i % 8) = false := by
  have hw : (n + 63) / 64 - 1 = n / 64 := by omega
  rw [hw, high_zero]
  constructor
  · intro h i h1 h2
    have hi : i / 64 = n / 64 := by omega
    have := wd_bit D hD ((n + 7) / 8) i
    rw [hi, h (i % 64) (by omega)] at this
    simpa [h2] using this.symm
  · intro h t ht
    by_cases h64 : t < 64
    · have e1 : (64 * (n / 64) + t) / 64 = n / 64 := by omega
      have e2 : (64 * (n / 64) + t) % 64 = t := by omega
      have := wd_bit D hD ((n + 7) / 8) (64 * (n / 64) + t)
      rw [e1, e2] at this
      rw [this]
      by_cases h8 : 64 * (n / 64) + t < 8 * ((n + 7) / 8)
      · rw [h _ (by omega) h8]; simp
      · simp [h8]
    · refine Nat.testBit_lt_two_pow (Nat.lt_of_lt_of_le (wd_lt D hD _ _) ?_)
      calc 18446744073709551616 = 2 ^ 64 := rfl
        _ ≤ 2 ^ t := Nat.pow_le_pow_right (by omega) (by omega)

end Go.Proofs.YbulksuiFmt.Bm
