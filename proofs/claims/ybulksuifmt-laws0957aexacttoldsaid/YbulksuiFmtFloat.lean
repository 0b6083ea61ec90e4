/- Plain mathematics: whole numbers below 2^53 as float64 words. No Go in sight. -/
import Derived.Laws.FloatArith
namespace Go.Proofs.YbulksuiFmt.Fl
open Ieee

/-- The word of a whole number. -/
def F (a : Nat) : Nat := floatOfInt .f64 (a : Int)

theorem cut_exact (way : Toward) (a k : Nat) (hk : k ≤ (a * 2 ^ k).log2 + 2) : way.cut false (a * 2 ^ k) k = a := by
  have hp : 0 < 2 ^ k := Nat.two_pow_pos k
  unfold Toward.cut
  rw [Nat.min_eq_left hk, Nat.shiftLeft_eq, Nat.one_mul]
  simp only [Nat.mul_div_cancel _ hp, Nat.mul_mod_left]
  cases way <;> simp <;> omega

theorem log2_mul_pow (a k : Nat) (ha : a ≠ 0) : (a * 2 ^ k).log2 = a.log2 + k := by
  have := Nat.log2_self_le ha
  have := @Nat.lt_log2_self a
  have hp : 0 < 2 ^ k := Nat.two_pow_pos k
  rw [Nat.log2_eq_iff (by
    intro h
    rcases Nat.mul_eq_zero.1 h with h | h
    · exact ha h
    · omega)]
  constructor
  · rw [Nat.pow_add]; exact Nat.mul_le_mul_right _ ‹_›
  · rw [show a.log2 + k + 1 = a.log2 + 1 + k from by omega, Nat.pow_add]; exact (Nat.mul_lt_mul_right hp).2 ‹_›

theorem log2_le52 (a : Nat) (ha : a ≠ 0) (h : a < 2 ^ 53) : a.log2 ≤ 52 := by
  have := (Nat.log2_lt ha).2 h
  omega

/-- What the word of a is, written out. -/
theorem nearest_pow (a k : Nat) (ha : a ≠ 0) (h : a < 2 ^ 53) :
    double.nearest false (a * 2 ^ k) (-(k : Int)) = (a.log2 + 1022) * 2 ^ 52 + a * 2 ^ (52 - a.log2) := by
  have hl := log2_le52 a ha h
  have hlog := log2_mul_pow a k ha
  have hp : 0 < 2 ^ k := Nat.two_pow_pos k
  have hne : a * 2 ^ k ≠ 0 := by
    intro h
    rcases Nat.mul_eq_zero.1 h with h | h
    · exact ha h
    · omega
  unfold Format.nearest
  rw [if_neg hne, hlog]
  have e1 : max (-(k : Int) + ((a.log2 + k : Nat) : Int) - ((double.fractionBits : Nat) : Int)) double.leastPlace = (a.log2 : Int) - 52 := by
    show max (-(k : Int) + ((a.log2 + k : Nat) : Int) - ((52 : Nat) : Int)) (2 - 2 ^ (11 - 1) - ((52 : Nat) : Int)) = _
    have : (2 : Int) ^ (11 - 1) = 1024 := by decide
    rw [this]
    omega
  simp only [e1]
  have e2 : ((a.log2 : Int) - 52 - double.leastPlace).toNat = a.log2 + 1022 := by
    show ((a.log2 : Int) - 52 - (2 - 2 ^ (11 - 1) - ((52 : Nat) : Int))).toNat = _
    have : (2 : Int) ^ (11 - 1) = 1024 := by decide
    rw [this]
    omega
  have e3 : Toward.even.cut false ((a * 2 ^ k) <<< (-(k : Int) - ((a.log2 : Int) - 52)).toNat) (((a.log2 : Int) - 52) - -(k : Int)).toNat = a * 2 ^ (52 - a.log2) := by
    by_cases hc : k ≤ 52 - a.log2
    · have t1 : (-(k : Int) - ((a.log2 : Int) - 52)).toNat = 52 - a.log2 - k := by omega
      have t2 : (((a.log2 : Int) - 52) - -(k : Int)).toNat = 0 := by omega
      rw [t1, t2, Nat.shiftLeft_eq]
      have := cut_exact .even (a * 2 ^ k * 2 ^ (52 - a.log2 - k)) 0 (by omega)
      rw [Nat.pow_zero, Nat.mul_one] at this
      rw [this, Nat.mul_assoc, ← Nat.pow_add, show k + (52 - a.log2 - k) = 52 - a.log2 from by omega]
    · have t1 : (-(k : Int) - ((a.log2 : Int) - 52)).toNat = 0 := by omega
      have t2 : (((a.log2 : Int) - 52) - -(k : Int)).toNat = k - (52 - a.log2) := by omega
      rw [t1, t2, Nat.shiftLeft_zero]
      have e : a * 2 ^ k = a * 2 ^ (52 - a.log2) * 2 ^ (k - (52 - a.log2)) := by
        rw [Nat.mul_assoc, ← Nat.pow_add, show 52 - a.log2 + (k - (52 - a.log2)) = k from by omega]
      rw [e]
      exact cut_exact .even _ _ (by rw [← e, hlog]; omega)
  have hb : double.binade = 2 ^ 52 := rfl
  have hi : double.infRung = 2047 * 2 ^ 52 := by decide +kernel
  rw [e2, e3, hb, hi]
  have hm : a * 2 ^ (52 - a.log2) < 2 ^ 53 := by
    have h1 := @Nat.lt_log2_self a
    have h2 : a * 2 ^ (52 - a.log2) < 2 ^ (a.log2 + 1) * 2 ^ (52 - a.log2) := (Nat.mul_lt_mul_right (Nat.two_pow_pos _)).2 h1
    rw [← Nat.pow_add, show a.log2 + 1 + (52 - a.log2) = 53 from by omega] at h2
    exact h2
  generalize a * 2 ^ (52 - a.log2) = m at *
  unfold Format.word
  rw [if_neg Bool.false_ne_true, Nat.min_eq_left (by omega)]

theorem F_pos (a : Nat) (ha : a ≠ 0) (h : a < 2 ^ 53) : F a = (a.log2 + 1022) * 2 ^ 52 + a * 2 ^ (52 - a.log2) := by
  have := nearest_pow a 0 ha h
  simp only [Nat.pow_zero, Nat.mul_one] at this
  rw [← this]
  show double.write (.number (decide ((a : Int) < 0)) (a : Int).natAbs 0) = _
  rw [show decide ((a : Int) < 0) = false from by simp, Int.natAbs_natCast]
  rfl

theorem F_zero : F 0 = 0 := by decide +kernel

/-- A number written with more digits is the same word. -/
theorem write_pow (a k : Nat) (h : a < 2 ^ 53) : double.write (.number false (a * 2 ^ k) (-(k : Int))) = F a := by
  by_cases ha : a = 0
  · subst ha
    rw [F_zero, Nat.zero_mul]
    show double.nearest false 0 _ = 0
    unfold Format.nearest
    rw [if_pos rfl]
    rfl
  · rw [F_pos a ha h]
    exact nearest_pow a k ha h

theorem mant (a : Nat) (ha : a ≠ 0) (h : a < 2 ^ 53) : 2 ^ 52 ≤ a * 2 ^ (52 - a.log2) ∧ a * 2 ^ (52 - a.log2) < 2 ^ 53 := by
  have hl := log2_le52 a ha h
  have h0 := Nat.log2_self_le ha
  have h1 := @Nat.lt_log2_self a
  have h2 : a * 2 ^ (52 - a.log2) < 2 ^ (a.log2 + 1) * 2 ^ (52 - a.log2) := (Nat.mul_lt_mul_right (Nat.two_pow_pos _)).2 h1
  have h3 : 2 ^ a.log2 * 2 ^ (52 - a.log2) ≤ a * 2 ^ (52 - a.log2) := Nat.mul_le_mul_right _ h0
  rw [← Nat.pow_add, show a.log2 + 1 + (52 - a.log2) = 53 from by omega] at h2
  rw [← Nat.pow_add, show a.log2 + (52 - a.log2) = 52 from by omega] at h3
  exact ⟨h3, h2⟩

/-- What the word of a reads as. -/
theorem read_F (a : Nat) (ha : a ≠ 0) (h : a < 2 ^ 53) : double.read (F a) = .number false (a * 2 ^ (52 - a.log2)) (-((52 - a.log2 : Nat) : Int)) := by
  have hl := log2_le52 a ha h
  obtain ⟨m1, m2⟩ := mant a ha h
  rw [F_pos a ha h]
  generalize a * 2 ^ (52 - a.log2) = m at *
  unfold Format.read
  have hs : double.signWeight = 2 ^ 63 := rfl
  have hb : double.binade = 2 ^ 52 := rfl
  have hi : double.infRung = 2047 * 2 ^ 52 := by decide +kernel
  rw [hs, hb, hi]
  have q1 : ((a.log2 + 1022) * 2 ^ 52 + m) / 2 ^ 63 = 0 := by omega
  have q2 : ((a.log2 + 1022) * 2 ^ 52 + m) % 2 ^ 63 = (a.log2 + 1022) * 2 ^ 52 + m := by omega
  have q3 : ((a.log2 + 1022) * 2 ^ 52 + m) % 2 ^ 52 = m - 2 ^ 52 := by omega
  have q4 : ((a.log2 + 1022) * 2 ^ 52 + m) / 2 ^ 52 = a.log2 + 1023 := by omega
  simp only [q1, q2, q3, q4]
  rw [if_neg (by omega), if_pos (by omega)]
  have e1 : 2 ^ 52 + (m - 2 ^ 52) = m := by omega
  have e2 : double.leastPlace + ((a.log2 + 1023 - 1 : Nat) : Int) = -((52 - a.log2 : Nat) : Int) := by
    show (2 - 2 ^ (11 - 1) - ((52 : Nat) : Int)) + ((a.log2 + 1023 - 1 : Nat) : Int) = _
    have : (2 : Int) ^ (11 - 1) = 1024 := by decide
    rw [this]
    omega
  rw [e1, e2]
  rfl

theorem read_F0 : double.read (F 0) = .number false 0 (-1074) := by decide +kernel


theorem format64 : FloatKind.f64.format = double := rfl

theorem mul_F (a b : Nat) (h : a * b < 2 ^ 53) (ha : a < 2 ^ 53) (hb : b < 2 ^ 53) : floatBits .mul .f64 (F a) (F b) = some (F (a * b)) := by
  show double.mul (F a) (F b) = _
  unfold Format.mul
  by_cases ha0 : a = 0
  · subst ha0
    rw [read_F0, Nat.zero_mul, F_zero]
    by_cases hb0 : b = 0
    · subst hb0; rw [read_F0]; rfl
    · rw [read_F b hb0 hb]
      simp only [Datum.product, Option.map_some, Nat.zero_mul]
      rfl
  · by_cases hb0 : b = 0
    · subst hb0
      rw [read_F0, Nat.mul_zero, F_zero, read_F a ha0 ha]
      simp only [Datum.product, Option.map_some, Nat.mul_zero]
      rfl
    · rw [read_F a ha0 ha, read_F b hb0 hb]
      simp only [Datum.product, Option.map_some]
      rw [← write_pow (a * b) ((52 - a.log2) + (52 - b.log2)) h]
      have k1 : a * 2 ^ (52 - a.log2) * (b * 2 ^ (52 - b.log2)) = a * b * 2 ^ (52 - a.log2 + (52 - b.log2)) := by
        rw [Nat.pow_add, Nat.mul_assoc, Nat.mul_assoc, Nat.mul_left_comm (2 ^ (52 - a.log2)) b]
      have k2 : -((52 - a.log2 : Nat) : Int) + -((52 - b.log2 : Nat) : Int) = -((52 - a.log2 + (52 - b.log2) : Nat) : Int) := by omega
      rw [k1, k2]
      rfl

theorem pow_log2 (j : Nat) : (2 ^ j).log2 = j := Nat.log2_two_pow

theorem div_F (a j : Nat) (h : a * 2 ^ j < 2 ^ 53) (hj : j ≤ 52) : floatBits .quo .f64 (F (a * 2 ^ j)) (F (2 ^ j)) = some (F a) := by
  show double.div (F (a * 2 ^ j)) (F (2 ^ j)) = _
  have hp : 0 < 2 ^ j := Nat.two_pow_pos j
  have hp53 : 2 ^ j < 2 ^ 53 := Nat.pow_lt_pow_right (by omega) (by omega)
  unfold Format.div
  have rd : double.read (F (2 ^ j)) = .number false (2 ^ 52) (-((52 - j : Nat) : Int)) := by
    rw [read_F (2 ^ j) (by omega) hp53, pow_log2, ← Nat.pow_add, show j + (52 - j) = 52 from by omega]
  by_cases ha : a = 0
  · subst ha
    rw [Nat.zero_mul, read_F0, rd, F_zero]
    simp only [Datum.quotient]
    rw [if_neg (by decide)]
    simp only [Option.map_some]
    rw [show (0 : Nat).log2 = 0 from by decide +kernel, show (2 ^ 52 : Nat).log2 = 52 from by decide +kernel]
    simp only [Nat.zero_shiftLeft, Nat.zero_div, Nat.zero_mod]
    rfl
  · have hA : a * 2 ^ j ≠ 0 := by
      intro e
      rcases Nat.mul_eq_zero.1 e with e | e <;> omega
    have haj : a < 2 ^ 53 := Nat.lt_of_le_of_lt (Nat.le_mul_of_pos_right a hp) h
    obtain ⟨m1, m2⟩ := mant _ hA h
    rw [read_F _ hA h, rd]
    have hl := log2_le52 _ hA h
    have hlj := log2_mul_pow a j ha
    have hm : a * 2 ^ j * 2 ^ (52 - (a * 2 ^ j).log2) = a * 2 ^ (j + (52 - (a * 2 ^ j).log2)) := by rw [Nat.mul_assoc, ← Nat.pow_add]
    have lm : (a * 2 ^ j * 2 ^ (52 - (a * 2 ^ j).log2)).log2 = 52 := by
      rw [log2_mul_pow _ _ hA]; omega
    simp only [Datum.quotient]
    rw [if_neg (by decide)]
    simp only [Option.map_some]
    rw [lm, show (2 ^ 52 : Nat).log2 = 52 from by decide +kernel]
    have more : double.fractionBits + 2 + 52 - 52 = 54 := rfl
    rw [more]
    have d1 : (a * 2 ^ j * 2 ^ (52 - (a * 2 ^ j).log2)) <<< 54 = 2 ^ 52 * (a * 2 ^ j * 2 ^ (52 - (a * 2 ^ j).log2) * 4) := by
      rw [Nat.shiftLeft_eq, show (2 : Nat) ^ 54 = 4 * 2 ^ 52 from by decide, ← Nat.mul_assoc, Nat.mul_comm]
    rw [d1, Nat.mul_div_cancel_left _ (Nat.two_pow_pos 52), Nat.mul_mod_right]
    have k1 : 2 * (a * 2 ^ j * 2 ^ (52 - (a * 2 ^ j).log2) * 4) + ((0 : Nat) != 0).toNat = a * 2 ^ (j + (52 - (a * 2 ^ j).log2) + 3) := by
      rw [hm, Nat.pow_add _ (j + (52 - (a * 2 ^ j).log2)) 3, ← Nat.mul_assoc a (2 ^ (j + (52 - (a * 2 ^ j).log2))) (2 ^ 3), show ((0 : Nat) != 0).toNat = 0 from rfl, show (2 : Nat) ^ 3 = 8 from rfl]
      generalize a * 2 ^ (j + (52 - (a * 2 ^ j).log2)) = X
      omega
    have k2 : -((52 - (a * 2 ^ j).log2 : Nat) : Int) - -((52 - j : Nat) : Int) - ((54 : Nat) : Int) - 1 = -((j + (52 - (a * 2 ^ j).log2) + 3 : Nat) : Int) := by omega
    rw [k1, k2, show (false ^^ false) = false from rfl, write_pow a _ haj]

theorem ceil_F (a : Nat) (h : a < 2 ^ 53) : FloatKind.f64.encode ((FloatKind.f64.decode (F a)).integral .up) = F a := by
  show double.write ((double.read (F a)).integral .up) = F a
  by_cases ha : a = 0
  · subst ha; decide +kernel
  · have hl := log2_le52 a ha h
    rw [read_F a ha h]
    simp only [Datum.integral]
    rw [show (-((52 - a.log2 : Nat) : Int)).toNat = 0 from by omega, Nat.shiftLeft_zero, show (-(-((52 - a.log2 : Nat) : Int))).toNat = 52 - a.log2 from by omega]
    rw [cut_exact _ _ _ (by rw [log2_mul_pow a _ ha]; omega)]
    have := write_pow a 0 h
    rw [Nat.pow_zero, Nat.mul_one] at this
    exact this

theorem not_nan (a : Nat) (h : a < 2 ^ 53) : ∃ s m i, FloatKind.f64.decode (F a) = .number s m i := by
  by_cases ha : a = 0
  · subst ha; exact ⟨_, _, _, read_F0⟩
  · exact ⟨_, _, _, read_F a ha h⟩

theorem toInt_F (a : Nat) (h : a < 2 ^ 53) : floatToIntVal .f64 (F a) .i64 = some (a : Int) := by
  unfold floatToIntVal
  have e : (FloatKind.f64.decode (F a)).toInt .zero = some (a : Int) := by
    show (double.read (F a)).toInt .zero = _
    by_cases ha : a = 0
    · subst ha; decide +kernel
    · have hl := log2_le52 a ha h
      rw [read_F a ha h]
      simp only [Datum.toInt, Datum.integral]
      rw [show (-((52 - a.log2 : Nat) : Int)).toNat = 0 from by omega, Nat.shiftLeft_zero, show (-(-((52 - a.log2 : Nat) : Int))).toNat = 52 - a.log2 from by omega]
      rw [cut_exact _ _ _ (by rw [log2_mul_pow a _ ha]; omega)]
      simp [signed]
  rw [e]
  have hmin : IntKind.i64.min = -9223372036854775808 := by decide +kernel
  have hmax : IntKind.i64.max = 9223372036854775807 := by decide +kernel
  simp only [hmin, hmax]
  rw [if_pos (by omega)]

/-- A word of a whole number that is not nought is above nought. -/
theorem gt_zero (a : Nat) (ha : a ≠ 0) (h : a < 2 ^ 53) : (FloatKind.f64.format.order (F a) 0 == some .gt) = true := by
  have hl := log2_le52 a ha h
  obtain ⟨m1, _⟩ := mant a ha h
  show (((double.read (F a)).order (double.read 0)) == some .gt) = true
  rw [read_F a ha h, show double.read 0 = .number false 0 (-1074) from by decide +kernel]
  simp only [Datum.order, signed]
  have e1 : min (-((52 - a.log2 : Nat) : Int)) (-1074) = -1074 := by omega
  simp only [e1, Nat.zero_shiftLeft, Bool.false_eq_true, if_false]
  have hp : 0 < (a * 2 ^ (52 - a.log2)) <<< (-((52 - a.log2 : Nat) : Int) - -1074).toNat := by
    rw [Nat.shiftLeft_eq]
    exact Nat.mul_pos (by omega) (Nat.two_pow_pos _)
  rw [show compare (((a * 2 ^ (52 - a.log2)) <<< (-((52 - a.log2 : Nat) : Int) - -1074).toNat : Nat) : Int) ((0 : Nat) : Int) = .gt from by
    rw [Int.compare_eq_gt]; omega]
  rfl

/-- It is not above a word of a greater number. -/
theorem not_gt (a X m p : Nat) (h : a < 2 ^ 53) (hX : double.read X = .number false m (p : Int)) (hm : 2 ^ 53 ≤ m * 2 ^ p) : (FloatKind.f64.format.order (F a) X == some .gt) = false := by
  show (((double.read (F a)).order (double.read X)) == some .gt) = false
  rw [hX]
  by_cases ha : a = 0
  · subst ha
    rw [read_F0]
    simp only [Datum.order, signed, Nat.zero_shiftLeft, Bool.false_eq_true, if_false]
    generalize m <<< ((p : Int) - min (-1074) (p : Int)).toNat = Y
    have : compare ((0 : Nat) : Int) (Y : Int) ≠ .gt := by
      rw [Ne, Int.compare_eq_gt]; omega
    simpa using this
  · have hl := log2_le52 a ha h
    rw [read_F a ha h]
    simp only [Datum.order, signed, Bool.false_eq_true, if_false]
    have e1 : min (-((52 - a.log2 : Nat) : Int)) (p : Int) = -((52 - a.log2 : Nat) : Int) := by omega
    rw [e1, Int.sub_self, show (0 : Int).toNat = 0 from rfl, Nat.shiftLeft_zero]
    have t : ((p : Int) - -((52 - a.log2 : Nat) : Int)).toNat = p + (52 - a.log2) := by omega
    rw [t, Nat.shiftLeft_eq, Nat.pow_add, ← Nat.mul_assoc]
    have hle : a * 2 ^ (52 - a.log2) ≤ m * 2 ^ p * 2 ^ (52 - a.log2) := Nat.mul_le_mul_right _ (by omega)
    have : compare ((a * 2 ^ (52 - a.log2) : Nat) : Int) ((m * 2 ^ p * 2 ^ (52 - a.log2) : Nat) : Int) ≠ .gt := by
      rw [Ne, Int.compare_eq_gt]; omega
    simpa using this

end Go.Proofs.YbulksuiFmt.Fl
