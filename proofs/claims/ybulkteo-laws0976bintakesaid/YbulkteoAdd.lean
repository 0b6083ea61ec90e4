import Derived.Test.YbulkteoTime
namespace Go.Proofs.Ybulkteo
open Go.ChangeShapes Go.WideShapes Go.ChangeAt Go.RowKit

theorem mask_not (n : Nat) (h : n < 1000000000) : bits BinOp.andNot IntKind.u64 (n : Int) 1073741823 = 0 := by
  have e := u64_andNot_nat n 1073741823 (by omega) (by omega)
  rw [show ((1073741823 : Nat) : Int) = 1073741823 from rfl] at e
  have h0 : n &&& (18446744073709551615 - 1073741823) = 0 := by
    refine Nat.eq_of_testBit_eq fun t => ?_
    rw [Nat.testBit_and, show 18446744073709551615 - 1073741823 = 2 ^ 30 * (2 ^ 34 - 1) from rfl, Nat.testBit_two_pow_mul]
    by_cases h1 : t ≥ 30
    · have : n.testBit t = false := Nat.testBit_lt_two_pow (Nat.lt_of_lt_of_le (show n < 2 ^ 30 by omega) (Nat.pow_le_pow_right (by omega) h1))
      simp [this]
    · simp [h1]
  rw [e, h0]
  rfl

theorem or_zero (n : Nat) (h : n < 1000000000) : bits BinOp.or IntKind.u64 0 (n : Int) = (n : Int) := by
  have e := u64_or_nat 0 n (by omega) (by omega)
  rw [show ((0 : Nat) : Int) = 0 from rfl] at e
  rw [e, Nat.zero_or]

theorem w32 (r : Int) (h1 : -2000000001 < r) (h2 : r < 2000000001) : wrap32 r = r := by unfold wrap32; omega
theorem wu64 (n : Nat) (h : n < 1000000000) : IntKind.u64.wrap (n : Int) = (n : Int) := by rw [IntKind.wrap_u64]; omega
theorem ge_no (m : Int) (h : m < 1000000000) : decide ((1000000000 : Int) ≤ m) = false := by rw [decide_eq_false_iff_not]; omega
theorem ge_yes (m : Int) (h : 1000000000 ≤ m) : decide ((1000000000 : Int) ≤ m) = true := decide_eq_true h
theorem lt_yes (m : Int) (h : m < 0) : decide (m < 0) = true := decide_eq_true h
theorem lt_no (m : Int) (h : 0 ≤ m) : decide (m < 0) = false := by rw [decide_eq_false_iff_not]; omega

set_option maxRecDepth 100000 in
set_option maxHeartbeats 2000000 in
/-- no carry -/
theorem add_in (w : World) (s q r d m : Int) (n n' : Nat) (HN : Hid (n < 1000000000)) (HN' : Hid (n' < 1000000000)) (HS : Hid (-100 ≤ s ∧ s ≤ 100)) (HQ : Hid (-100 ≤ q ∧ q ≤ 100)) (hq1 : -40 ≤ q) (hq2 : q ≤ 40)
    (hq : d.tdiv 1000000000 = q) (hr : d.tmod 1000000000 = r) (h : (n : Int) + r = m) (hx : m = (n' : Int)) (i2 : decide ((1000000000 : Int) ≤ (n' : Int)) = false) (i3 : decide ((n' : Int) < 0) = false)
    (i4 : wrap32 (n' : Int) = (n' : Int)) (i5 : wrap32 r = r) (i6 : IntKind.u64.wrap (n' : Int) = (n' : Int)) (_i7 : wrap32 m = m) :
    Calls Yba.prog 7 #[tm s n, .int .i64 d] w fun e w' => e = .returned (tm (s + (q)) n') ∧ Below w.heap.size w w' := by
  have hm := mono_off n HN.out
  have hm' := mono_off n' HN'.out
  have hk := mask_not n HN.out
  have ho := or_zero n' HN'.out
  unfold tm
  go_enter Yba.func7, Yba.ntmps7
  go_wp2_with fail
  refine (nsec_any _ w.heap.size n HN.out ?_).mono ?_
  · simp
  rintro e w1 ⟨rfl, rfl⟩
  go_wp2_with fail
  refine (addSec_any _ w.heap.size s (q) n' HN'.out HS.out HQ.out ?_ ?_ ?_).mono ?_
  · simp
  · simp
  · simp
  rintro e w1 ⟨rfl, rfl⟩
  go_wp2_with fail
  refine bodyPost_ret (v := .agg #[.int .u64 (n' : Int), .int .i64 (s + (q)), .pointer none]) (by simp [results, Yba.results7, go_sem]) rfl ⟨rfl, ?_⟩
  exact ((Below.refl _ _).alloc (Nat.le_refl _) _).alloc (by simp) _

set_option maxRecDepth 100000 in
set_option maxHeartbeats 2000000 in
/-- a second more -/
theorem add_up (w : World) (s q r d m : Int) (n n' : Nat) (HN : Hid (n < 1000000000)) (HN' : Hid (n' < 1000000000)) (HS : Hid (-100 ≤ s ∧ s ≤ 100)) (HQ : Hid (-100 ≤ q + 1 ∧ q + 1 ≤ 100)) (hq1 : -40 ≤ q) (hq2 : q ≤ 40)
    (hq : d.tdiv 1000000000 = q) (hr : d.tmod 1000000000 = r) (h : (n : Int) + r = m) (hx : m - 1000000000 = (n' : Int)) (i2 : decide ((1000000000 : Int) ≤ m) = true)
    (i4 : wrap32 (n' : Int) = (n' : Int)) (i5 : wrap32 r = r) (i6 : IntKind.u64.wrap (n' : Int) = (n' : Int)) (i7 : wrap32 m = m) :
    Calls Yba.prog 7 #[tm s n, .int .i64 d] w fun e w' => e = .returned (tm (s + (q + 1)) n') ∧ Below w.heap.size w w' := by
  have hm := mono_off n HN.out
  have hm' := mono_off n' HN'.out
  have hk := mask_not n HN.out
  have ho := or_zero n' HN'.out
  unfold tm
  go_enter Yba.func7, Yba.ntmps7
  go_wp2_with fail
  refine (nsec_any _ w.heap.size n HN.out ?_).mono ?_
  · simp
  rintro e w1 ⟨rfl, rfl⟩
  go_wp2_with fail
  refine (addSec_any _ w.heap.size s (q + 1) n' HN'.out HS.out HQ.out ?_ ?_ ?_).mono ?_
  · simp
  · simp
  · simp
  rintro e w1 ⟨rfl, rfl⟩
  go_wp2_with fail
  refine bodyPost_ret (v := .agg #[.int .u64 (n' : Int), .int .i64 (s + (q + 1)), .pointer none]) (by simp [results, Yba.results7, go_sem]) rfl ⟨rfl, ?_⟩
  exact ((Below.refl _ _).alloc (Nat.le_refl _) _).alloc (by simp) _

set_option maxRecDepth 100000 in
set_option maxHeartbeats 2000000 in
/-- a second less -/
theorem add_dn (w : World) (s q r d m : Int) (n n' : Nat) (HN : Hid (n < 1000000000)) (HN' : Hid (n' < 1000000000)) (HS : Hid (-100 ≤ s ∧ s ≤ 100)) (HQ : Hid (-100 ≤ q - 1 ∧ q - 1 ≤ 100)) (hq1 : -40 ≤ q) (hq2 : q ≤ 40)
    (hq : d.tdiv 1000000000 = q) (hr : d.tmod 1000000000 = r) (h : (n : Int) + r = m) (hx : m + 1000000000 = (n' : Int)) (i2 : decide ((1000000000 : Int) ≤ m) = false) (i3 : decide (m < 0) = true)
    (i4 : wrap32 (n' : Int) = (n' : Int)) (i5 : wrap32 r = r) (i6 : IntKind.u64.wrap (n' : Int) = (n' : Int)) (i7 : wrap32 m = m) :
    Calls Yba.prog 7 #[tm s n, .int .i64 d] w fun e w' => e = .returned (tm (s + (q - 1)) n') ∧ Below w.heap.size w w' := by
  have hm := mono_off n HN.out
  have hm' := mono_off n' HN'.out
  have hk := mask_not n HN.out
  have ho := or_zero n' HN'.out
  unfold tm
  go_enter Yba.func7, Yba.ntmps7
  go_wp2_with fail
  refine (nsec_any _ w.heap.size n HN.out ?_).mono ?_
  · simp
  rintro e w1 ⟨rfl, rfl⟩
  go_wp2_with fail
  refine (addSec_any _ w.heap.size s (q - 1) n' HN'.out HS.out HQ.out ?_ ?_ ?_).mono ?_
  · simp
  · simp
  · simp
  rintro e w1 ⟨rfl, rfl⟩
  go_wp2_with fail
  refine bodyPost_ret (v := .agg #[.int .u64 (n' : Int), .int .i64 (s + (q - 1)), .pointer none]) (by simp [results, Yba.results7, go_sem]) rfl ⟨rfl, ?_⟩
  exact ((Below.refl _ _).alloc (Nat.le_refl _) _).alloc (by simp) _

/-- The time a nanoseconds since the zero time. -/
def T (a : Int) : Value := tm (a / 1000000000) (a % 1000000000).toNat

theorem tdiv_split (d : Int) : ∃ q r, d.tdiv 1000000000 = q ∧ d.tmod 1000000000 = r ∧ d = 1000000000 * q + r ∧ -1000000000 < r ∧ r < 1000000000 := by
  refine ⟨_, _, rfl, rfl, (Int.mul_tdiv_add_tmod d 1000000000).symm, ?_, ?_⟩
  · by_cases h : 0 ≤ d
    · have := Int.tmod_nonneg 1000000000 h; omega
    · have e : d.tmod 1000000000 = -((-d).tmod 1000000000) := by rw [Int.neg_tmod]; omega
      have h1 := Int.tmod_lt_of_pos (-d) (show (0 : Int) < 1000000000 by decide)
      rw [e]
      omega
  · exact Int.tmod_lt_of_pos d (by decide)

theorem carry (a d s n q r : Int) (hs : a = 1000000000 * s + n) (hn0 : 0 ≤ n) (hn : n < 1000000000) (hd : d = 1000000000 * q + r) (hr1 : -1000000000 < r) (hr2 : r < 1000000000) :
    (0 ≤ n + r ∧ n + r < 1000000000 ∧ (a + d) / 1000000000 = s + q ∧ (a + d) % 1000000000 = n + r) ∨
    (1000000000 ≤ n + r ∧ n + r < 2000000000 ∧ (a + d) / 1000000000 = s + (q + 1) ∧ (a + d) % 1000000000 = n + r - 1000000000) ∨
    (n + r < 0 ∧ -1000000000 < n + r ∧ (a + d) / 1000000000 = s + (q - 1) ∧ (a + d) % 1000000000 = n + r + 1000000000) := by
  omega

theorem add_any (w : World) (a d : Int) (ha1 : -20000000000 ≤ a) (ha2 : a ≤ 20000000000) (hd1 : -20000000000 ≤ d) (hd2 : d ≤ 20000000000) :
    Calls Yba.prog 7 #[T a, .int .i64 d] w fun e w' => e = .returned (T (a + d)) ∧ Below w.heap.size w w' := by
  obtain ⟨q, r, hq, hr, hd, hr1, hr2⟩ := tdiv_split d
  obtain ⟨s, hs⟩ : ∃ s, s = a / 1000000000 := ⟨_, rfl⟩
  obtain ⟨n, hn⟩ : ∃ n : Nat, (n : Int) = a % 1000000000 := ⟨(a % 1000000000).toNat, by omega⟩
  have hT : T a = tm s n := by
    unfold T; rw [← hs, ← hn, Int.toNat_natCast]
  have hsplit : a = 1000000000 * s + n := by omega
  have hn9 : (n : Int) < 1000000000 := by omega
  have hs1 : -100 ≤ s := by omega
  have hs2 : s ≤ 100 := by omega
  have hc := carry a d s n q r hsplit (by omega) hn9 hd hr1 hr2
  have hqb : -21 ≤ q ∧ q ≤ 21 := by
    clear hq hr hc hs hn hT hsplit
    omega
  have N9 : n < 1000000000 := by omega
  clear hs hn hsplit hd
  rw [hT]
  rcases hc with ⟨h1, h2, e1, e2⟩ | ⟨h1, h2, e1, e2⟩ | ⟨h1, h2, e1, e2⟩
  · obtain ⟨n', hn'⟩ : ∃ n' : Nat, (n' : Int) = n + r := ⟨((n : Int) + r).toNat, Int.toNat_of_nonneg h1⟩
    have N9' : n' < 1000000000 := Int.ofNat_lt.1 (by rw [hn']; exact h2)
    have e : T (a + d) = tm (s + q) n' := by unfold T; rw [e1, e2, ← hn', Int.toNat_natCast]
    rw [e]
    exact add_in w s q r d n' n n' N9 N9' ⟨hs1, hs2⟩ ⟨by omega, by omega⟩ (by omega) (by omega) hq hr hn'.symm rfl (ge_no _ (by omega)) (lt_no _ (by omega)) (w32 _ (by omega) (by omega)) (w32 _ (by omega) (by omega)) (wu64 _ N9') (w32 _ (by omega) (by omega))
  · obtain ⟨n', hn'⟩ : ∃ n' : Nat, (n' : Int) = n + r - 1000000000 := ⟨((n : Int) + r - 1000000000).toNat, Int.toNat_of_nonneg (by omega)⟩
    have N9' : n' < 1000000000 := Int.ofNat_lt.1 (by rw [hn']; show (n : Int) + r - 1000000000 < 1000000000; omega)
    have e : T (a + d) = tm (s + (q + 1)) n' := by unfold T; rw [e1, e2, ← hn', Int.toNat_natCast]
    rw [e]
    exact add_up w s q r d (n + r) n n' N9 N9' ⟨hs1, hs2⟩ ⟨by omega, by omega⟩ (by omega) (by omega) hq hr rfl hn'.symm (ge_yes _ h1) (w32 _ (by omega) (by omega)) (w32 _ (by omega) (by omega)) (wu64 _ N9') (w32 _ (by omega) (by omega))
  · obtain ⟨n', hn'⟩ : ∃ n' : Nat, (n' : Int) = n + r + 1000000000 := ⟨((n : Int) + r + 1000000000).toNat, Int.toNat_of_nonneg (by omega)⟩
    have N9' : n' < 1000000000 := Int.ofNat_lt.1 (by rw [hn']; show (n : Int) + r + 1000000000 < 1000000000; omega)
    have e : T (a + d) = tm (s + (q - 1)) n' := by unfold T; rw [e1, e2, ← hn', Int.toNat_natCast]
    rw [e]
    exact add_dn w s q r d (n + r) n n' N9 N9' ⟨hs1, hs2⟩ ⟨by omega, by omega⟩ (by omega) (by omega) hq hr rfl hn'.symm (ge_no _ (by omega)) (lt_yes _ h1) (w32 _ (by omega) (by omega)) (w32 _ (by omega) (by omega)) (wu64 _ N9') (w32 _ (by omega) (by omega))
end Go.Proofs.Ybulkteo
