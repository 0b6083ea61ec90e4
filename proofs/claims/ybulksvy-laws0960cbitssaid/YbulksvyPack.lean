/- Plain mathematics: a stream of bits packed into bytes, the most significant bit first. No Go in sight. -/
namespace Go.Proofs.Ybulksvy.Pk

/-- The byte whose first m bits are B s, B (s+1), ..; the others 0. -/
def pbs (B : Nat → Bool) (s : Nat) : Nat → Nat
  | 0 => 0
  | m + 1 => pbs B s m + (if B (s + m) = true then 2 ^ (7 - m) else 0)

theorem pbs_bound (B : Nat → Bool) (s m : Nat) (hm : m ≤ 8) : pbs B s m + 2 ^ (8 - m) ≤ 256 := by
  induction m with
  | zero => simp [pbs]
  | succ m ih =>
    have h := ih (by omega)
    have e : 2 ^ (8 - m) = 2 ^ (7 - m) + 2 ^ (7 - m) := by
      rw [show 8 - m = 7 - m + 1 from by omega, Nat.pow_succ]; omega
    simp only [pbs]
    rw [show 8 - (m + 1) = 7 - m from by omega]
    generalize 2 ^ (7 - m) = c at *
    split <;> omega

theorem pbs_lt (B : Nat → Bool) (s m : Nat) (hm : m ≤ 8) : pbs B s m < 256 := by
  have := pbs_bound B s m hm
  have := Nat.two_pow_pos (8 - m)
  omega

theorem pbs_mul (B : Nat → Bool) (s m : Nat) (hm : m ≤ 8) : ∃ q, pbs B s m = 2 ^ (8 - m) * q := by
  induction m with
  | zero => exact ⟨0, rfl⟩
  | succ m ih =>
    obtain ⟨q, hq⟩ := ih (by omega)
    have e : 2 ^ (8 - m) = 2 ^ (7 - m) * 2 := by
      rw [show 8 - m = 7 - m + 1 from by omega, Nat.pow_succ]
    simp only [pbs]
    rw [show 8 - (m + 1) = 7 - m from by omega, hq, e]
    split
    · exact ⟨2 * q + 1, by rw [Nat.mul_add, Nat.mul_assoc, Nat.mul_one]⟩
    · exact ⟨2 * q, by rw [Nat.mul_assoc]; rfl⟩

theorem pbs_bit (B : Nat → Bool) (s m : Nat) (hm : m ≤ 8) (t : Nat) (ht : t < 8) : (pbs B s m).testBit t = (decide (7 - t < m) && B (s + (7 - t))) := by
  induction m with
  | zero => simp [pbs]
  | succ m ih =>
    have ih := ih (by omega)
    obtain ⟨q, hq⟩ := pbs_mul B s m (by omega)
    have hy : (if B (s + m) = true then 2 ^ (7 - m) else 0) < 2 ^ (8 - m) := by
      have e : 2 ^ (7 - m) < 2 ^ (8 - m) := Nat.pow_lt_pow_right (by omega) (by omega)
      have e0 : 0 < 2 ^ (8 - m) := Nat.two_pow_pos _
      split
      · exact e
      · exact e0
    simp only [pbs]
    rw [hq] at ih ⊢
    rw [Nat.testBit_two_pow_mul_add _ hy]
    rw [Nat.testBit_two_pow_mul] at ih
    by_cases h : t < 8 - m
    · rw [if_pos h]
      by_cases he : t = 7 - m
      · have e1 : 7 - t = m := by omega
        have e2 : 7 - t < m + 1 := by omega
        rw [decide_eq_true e2, e1, Bool.true_and]
        cases hB : B (s + m)
        · simp
        · simp [he, Nat.testBit_two_pow_self]
      · have e2 : ¬ 7 - t < m + 1 := by omega
        rw [decide_eq_false e2, Bool.false_and]
        split
        · rw [Nat.testBit_two_pow]; simp; omega
        · simp
    · rw [if_neg h]
      have e1 : t ≥ 8 - m := by omega
      rw [decide_eq_true e1, Bool.true_and] at ih
      rw [ih]
      have e2 : 7 - t < m := by omega
      have e3 : 7 - t < m + 1 := by omega
      rw [decide_eq_true e2, decide_eq_true e3]

/-- Byte i of the stream of the first t bits. -/
def pb (B : Nat → Bool) (t i : Nat) : Nat := pbs B (8 * i) (min 8 (t - 8 * i))

theorem pb_lt (B : Nat → Bool) (t i : Nat) : pb B t i < 256 := pbs_lt B _ _ (by omega)

theorem pb_other (B : Nat → Bool) (t i : Nat) (h : i ≠ t / 8) : pb B (t + 1) i = pb B t i := by
  unfold pb
  rw [show min 8 (t + 1 - 8 * i) = min 8 (t - 8 * i) from by omega]

theorem pb_next (B : Nat → Bool) (t : Nat) : pb B (t + 1) (t / 8) = pb B t (t / 8) + (if B t = true then 2 ^ (7 - t % 8) else 0) := by
  unfold pb
  rw [show min 8 (t + 1 - 8 * (t / 8)) = t % 8 + 1 from by omega, show min 8 (t - 8 * (t / 8)) = t % 8 from by omega]
  simp only [pbs]
  rw [show 8 * (t / 8) + t % 8 = t from by omega]

/-- Setting the next bit is an 'or'. -/
theorem pb_or (B : Nat → Bool) (t : Nat) (b : Bool) : pb B t (t / 8) ||| (if b = true then 2 ^ (7 - t % 8) else 0) = pb B t (t / 8) + (if b = true then 2 ^ (7 - t % 8) else 0) := by
  obtain ⟨q, hq⟩ := pbs_mul B (8 * (t / 8)) (t % 8) (by omega)
  have e : pb B t (t / 8) = 2 ^ (8 - t % 8) * q := by
    unfold pb
    rw [show min 8 (t - 8 * (t / 8)) = t % 8 from by omega, hq]
  rw [e]
  cases b
  · simp
  · rw [if_pos rfl]
    exact (Nat.two_pow_add_eq_or_of_lt (Nat.pow_lt_pow_right (by omega) (by omega)) q).symm

theorem pb_new (B : Nat → Bool) (t : Nat) (h : t % 8 = 0) : pb B t (t / 8) = 0 := by
  unfold pb
  rw [show min 8 (t - 8 * (t / 8)) = 0 from by omega]
  rfl

/-- The bit that one reads back. -/
theorem pb_bit (B : Nat → Bool) (t j : Nat) : (pb B t (j / 8)).testBit (7 - j % 8) = (decide (j < t) && B j) := by
  unfold pb
  rw [pbs_bit B _ _ (by omega) _ (by omega)]
  rw [show 8 * (j / 8) + (7 - (7 - j % 8)) = j from by omega, show 7 - (7 - j % 8) = j % 8 from by omega]
  congr 1
  rw [decide_eq_decide]
  omega

/-- The bytes of the first t bits; and with the byte that bit t goes into. -/
def row (B : Nat → Bool) (t : Nat) : List Nat := (List.range ((t + 7) / 8)).map (pb B t)
def rowX (B : Nat → Bool) (t : Nat) : List Nat := (List.range (t / 8 + 1)).map (pb B t)

theorem row_new (B : Nat → Bool) (t : Nat) (h : t % 8 = 0) : row B t ++ [0] = rowX B t := by
  unfold row rowX
  rw [show (t + 7) / 8 = t / 8 from by omega, List.range_succ, List.map_append, List.map_cons, List.map_nil, pb_new B t h]

theorem row_old (B : Nat → Bool) (t : Nat) (h : ¬ t % 8 = 0) : row B t = rowX B t := by
  unfold row rowX
  rw [show (t + 7) / 8 = t / 8 + 1 from by omega]

theorem row_skip (B : Nat → Bool) (t : Nat) (h : B t = false) : rowX B t = row B (t + 1) := by
  unfold row rowX
  rw [show (t + 1 + 7) / 8 = t / 8 + 1 from by omega]
  refine List.map_congr_left fun i _ => ?_
  by_cases hi : i = t / 8
  · subst hi; rw [pb_next, h]; simp
  · rw [pb_other B t i hi]

theorem row_set (B : Nat → Bool) (t : Nat) : (rowX B t).set (t / 8) (pb B t (t / 8) + (if B t = true then 2 ^ (7 - t % 8) else 0)) = row B (t + 1) := by
  unfold row rowX
  rw [show (t + 1 + 7) / 8 = t / 8 + 1 from by omega]
  apply List.ext_getElem?
  intro i
  rw [List.getElem?_set]
  by_cases hi : t / 8 = i
  · subst hi
    simp [pb_next]
  · rw [if_neg hi]
    by_cases hl : i < t / 8 + 1
    · simp [hl, pb_other B t i (fun e => hi e.symm)]
    · simp [hl]

end Go.Proofs.Ybulksvy.Pk
