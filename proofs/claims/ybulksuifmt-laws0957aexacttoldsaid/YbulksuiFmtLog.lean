import Derived.Test.YbulksuiFmtRows
import Derived.Test.YbulksuiFmtFloat
import Derived.WalkKit
import Derived.ProofKit
import Derived.OpenShut
import Derived.Handy
import Derived.Laws.Cover2
import Derived.Laws.BitsAllLaws
namespace Go.Proofs.YbulksuiFmt
open Go.ChangeShapes Go.WideShapes Go.ChangeAt Go.RowKit Fl

theorem run_bits (x : Nat) (w : World) : (callFunc 24 #[.float .f64 x]).run Ybaf.prog w = .ok (.value (.int .u64 (x : Int))) w := by
  rw [run_callFunc_extern Ybaf.func24 (by kernel_rfl) (by kernel_rfl) (by kernel_rfl) (e := Extern.MathFloatBits.float64bits) (by kernel_rfl)]
  rfl

theorem run_from (n : Int) (w : World) : (callFunc 7 #[.int .u64 n]).run Ybaf.prog w = .ok (.value (.float .f64 n.toNat)) w := by
  rw [run_callFunc_extern Ybaf.func7 (by kernel_rfl) (by kernel_rfl) (by kernel_rfl) (e := Extern.MathFloatBits.float64frombits) (by kernel_rfl)]
  rfl

theorem toIntegral_num (name : String) (way : Ieee.Toward) (x : Nat) (s : Bool) (m : Nat) (i : Int) (h : FloatKind.f64.decode x = .number s m i) :
    Extern.MathFloor.toIntegral name way #[.float .f64 x] = pure (.float .f64 (FloatKind.f64.encode ((FloatKind.f64.decode x).integral way))) := by
  show Extern.MathFloor.toIntegral.match_1 (fun _ => Sem Value) (FloatKind.f64.decode x) (fun s t => _) (fun d => _) = _
  rw [h]

theorem run_ceil (a : Nat) (h : a < 2 ^ 53) (w : World) : (callFunc 20 #[.float .f64 (F a)]).run Ybaf.prog w = .ok (.value (.float .f64 (F a))) w := by
  rw [run_callFunc_extern Ybaf.func20 (by kernel_rfl) (by kernel_rfl) (by kernel_rfl) (e := Extern.MathFloor.toIntegral "math.archCeil" .up) (by kernel_rfl)]
  obtain ⟨s, m, i, hn⟩ := not_nan a h
  rw [toIntegral_num _ _ _ s m i hn, ceil_F a h]
  rfl

theorem ceil_any (a : Nat) (h : a < 2 ^ 53) (w : World) : Calls Ybaf.prog 13 #[.float .f64 (F a)] w fun e w' => e = .returned (.float .f64 (F a)) ∧ w' = w := by
  have hr := run_ceil a h
  go_enter Ybaf.func13, Ybaf.ntmps13
  go_wp2
  go_ret
  exact ⟨rfl, rfl⟩

theorem andNot_top (X : Nat) (h : X < 9223372036854775808) : (bits BinOp.andNot IntKind.u64 (X : Int) 9223372036854775808).toNat = X := by
  have e := u64_andNot_nat X 9223372036854775808 (by omega) (by omega)
  rw [show ((9223372036854775808 : Nat) : Int) = 9223372036854775808 from rfl] at e
  rw [e, Int.toNat_natCast, show 18446744073709551615 - 9223372036854775808 = 2 ^ 63 - 1 from by decide, Nat.and_two_pow_sub_one_eq_mod]
  exact Nat.mod_eq_of_lt h

theorem ret_float {a b : Nat} (h : a = b) : Ending.returned (.float .f64 a) = .returned (.float .f64 b) := by rw [h]

theorem abs_any (X : Nat) (h : X < 9223372036854775808) (w : World) : Calls Ybaf.prog 15 #[.float .f64 X] w fun e w' => e = .returned (.float .f64 X) ∧ w' = w := by
  have h1 := run_bits
  have h2 := run_from
  have H : Hid (X < 9223372036854775808) := h
  clear h
  go_enter Ybaf.func15, Ybaf.ntmps15
  go_wp2
  go_ret
  exact ⟨ret_float (andNot_top X H.out), rfl⟩

/-- not infinite: asked of either sign -/
theorem isInf0 (X : Nat) (h : X < 9223372036854775808) (hg : (FloatKind.f64.format.order X 9218868437227405311 == some .gt) = false) (w : World) :
    Calls Ybaf.prog 8 #[.float .f64 X, .int .i64 0] w fun e w' => e = .returned (.bool false) ∧ w' = w := by
  have H : Hid (X < 9223372036854775808) := h
  clear h
  go_enter Ybaf.func8, Ybaf.ntmps8
  go_wp2_with (go_at_call 15; refine (abs_any _ H.out _).mono ?_; rintro e w' ⟨rfl, rfl⟩)
  go_ret
  exact ⟨rfl, rfl⟩

theorem isInf1 (X : Nat) (hg : (FloatKind.f64.format.order X 9218868437227405311 == some .gt) = false) (w : World) :
    Calls Ybaf.prog 8 #[.float .f64 X, .int .i64 1] w fun e w' => e = .returned (.bool false) ∧ w' = w := by
  go_enter Ybaf.func8, Ybaf.ntmps8
  go_wp2
  go_ret
  exact ⟨rfl, rfl⟩

theorem isNaN_any (X : Nat) (hg : (FloatKind.f64.format.order X X != some .eq) = false) (w : World) :
    Calls Ybaf.prog 34 #[.float .f64 X] w fun e w' => e = .returned (.bool false) ∧ w' = w := by
  go_enter Ybaf.func34, Ybaf.ntmps34
  go_wp2
  go_ret
  exact ⟨rfl, rfl⟩

theorem normalize_any (X : Nat) (h : X < 9223372036854775808) (hg : (FloatKind.f64.format.order X 4503599627370496 == some .lt) = false) (w : World) :
    Calls Ybaf.prog 36 #[.float .f64 X] w fun e w' => e = .returned (.tuple #[.float .f64 X, .int .i64 0]) ∧ w' = w := by
  have H : Hid (X < 9223372036854775808) := h
  clear h
  go_enter Ybaf.func36, Ybaf.ntmps36
  go_wp2_with (go_at_call 15; refine (abs_any _ H.out _).mono ?_; rintro e w' ⟨rfl, rfl⟩)
  go_ret2
  exact ⟨rfl, rfl⟩

theorem frexp_any (X : Nat) (E : Int) (h : X < 9223372036854775808) (h0 : (FloatKind.f64.format.order X 0 == some .eq) = false) (hg : (FloatKind.f64.format.order X 9218868437227405311 == some .gt) = false)
    (hn : (FloatKind.f64.format.order X X != some .eq) = false) (hs : (FloatKind.f64.format.order X 4503599627370496 == some .lt) = false)
    (hf : (bits BinOp.or IntKind.u64 (bits BinOp.andNot IntKind.u64 (X : Int) 9218868437227405312) 4602678819172646912).toNat = 4602678819172646912)
    (he : wrap64 (wrap64 (wrap64 (wrap64 (bits BinOp.and IntKind.u64 ((X : Int) / 4503599627370496) 2047) - 1023) + 1)) = E) (w : World) :
    Calls Ybaf.prog 31 #[.float .f64 X] w fun e w' => e = .returned (.tuple #[.float .f64 4602678819172646912, .int .i64 E]) ∧ w' = w := by
  have h1 := run_bits
  have h2 := run_from
  have H : Hid (X < 9223372036854775808) := h
  clear h
  have HF : Hid ((bits BinOp.or IntKind.u64 (bits BinOp.andNot IntKind.u64 (X : Int) 9218868437227405312) 4602678819172646912).toNat = 4602678819172646912) := hf
  clear hf
  have HE : Hid (wrap64 (wrap64 (wrap64 (wrap64 (bits BinOp.and IntKind.u64 ((X : Int) / 4503599627370496) 2047) - 1023) + 1)) = E) := he
  clear he
  go_enter Ybaf.func31, Ybaf.ntmps31
  go_wp2_with (first
    | (go_at_call 8; refine (isInf0 _ H.out hg _).mono ?_; rintro e w' ⟨rfl, rfl⟩)
    | (go_at_call 34; refine (isNaN_any _ hn _).mono ?_; rintro e w' ⟨rfl, rfl⟩)
    | (go_at_call 36; refine (normalize_any _ H.out hs _).mono ?_; rintro e w' ⟨rfl, rfl⟩))
  go_ret2
  refine ⟨?_, rfl⟩
  show Ending.returned (.tuple #[.float .f64 (bits BinOp.or IntKind.u64 (bits BinOp.andNot IntKind.u64 (X : Int) 9218868437227405312) 4602678819172646912).toNat, .int .i64 (wrap64 (wrap64 (wrap64 (wrap64 (bits BinOp.and IntKind.u64 ((X : Int) / 4503599627370496) 2047) - 1023) + 1)))]) = _
  rw [HF.out, HE.out]

theorem log2_gen (X : Nat) (n : Nat) (hn20 : n ≤ 20) (h : X < 9223372036854775808) (h0 : (FloatKind.f64.format.order X 0 == some .eq) = false) (hg : (FloatKind.f64.format.order X 9218868437227405311 == some .gt) = false)
    (hn : (FloatKind.f64.format.order X X != some .eq) = false) (hs : (FloatKind.f64.format.order X 4503599627370496 == some .lt) = false)
    (hf : (bits BinOp.or IntKind.u64 (bits BinOp.andNot IntKind.u64 (X : Int) 9218868437227405312) 4602678819172646912).toNat = 4602678819172646912)
    (he : wrap64 (wrap64 (wrap64 (wrap64 (bits BinOp.and IntKind.u64 ((X : Int) / 4503599627370496) 2047) - 1023) + 1)) = (n : Int) + 1) (w : World) :
    Calls Ybaf.prog 14 #[.float .f64 X] w fun e w' => e = .returned (.float .f64 (F n)) ∧ w' = w := by
  have hq : (FloatKind.f64.format.order 4602678819172646912 4602678819172646912 == some .eq) = true := by decide +kernel
  have hc := frexp_any X ((n : Int) + 1) h h0 hg hn hs hf he
  clear h h0 hg hn hs hf he
  have HC : Hid (∀ w, Calls Ybaf.prog 31 #[.float .f64 X] w fun e w' => e = .returned (.tuple #[.float .f64 4602678819172646912, .int .i64 ((n : Int) + 1)]) ∧ w' = w) := hc
  clear hc
  go_enter Ybaf.func14, Ybaf.ntmps14
  go_wp2_with (first
    | (go_at_call 31; refine (HC.out _).mono ?_; rintro e w' ⟨rfl, rfl⟩)
    | (go_at_call 26; go_in)
    | (go_at_call 23; go_in))
  go_ret
  exact ⟨rfl, rfl⟩

theorem log2_facts : ∀ e : Nat, e < 21 → (F (2 ^ e) < 9223372036854775808 ∧ (FloatKind.f64.format.order (F (2 ^ e)) 0 == some .eq) = false ∧ (FloatKind.f64.format.order (F (2 ^ e)) 9218868437227405311 == some .gt) = false ∧
    (FloatKind.f64.format.order (F (2 ^ e)) (F (2 ^ e)) != some .eq) = false ∧ (FloatKind.f64.format.order (F (2 ^ e)) 4503599627370496 == some .lt) = false ∧
    (bits BinOp.or IntKind.u64 (bits BinOp.andNot IntKind.u64 (F (2 ^ e) : Int) 9218868437227405312) 4602678819172646912).toNat = 4602678819172646912 ∧
    wrap64 (wrap64 (wrap64 (wrap64 (bits BinOp.and IntKind.u64 ((F (2 ^ e) : Int) / 4503599627370496) 2047) - 1023) + 1)) = (e : Int) + 1) := by decide +kernel

theorem log2_any (e : Nat) (he : e ≤ 20) (w : World) : Calls Ybaf.prog 14 #[.float .f64 (F (2 ^ e))] w fun r w' => r = .returned (.float .f64 (F e)) ∧ w' = w := by
  obtain ⟨h, h0, hg, hn, hs, hf, hx⟩ := log2_facts e (by omega)
  exact log2_gen _ e he h h0 hg hn hs hf hx w

set_option maxRecDepth 100000 in
set_option maxHeartbeats 2000000 in
theorem steps_any (e j c N D f K : Nat) (he : e ≤ 20) (hj : j ≤ e) (hc0 : c ≠ 0) (hc : c ≤ 1000) (hN : N = 2 ^ e) (hD : D = 2 ^ j) (hf : f + D = N) (hK : K * D = c * N * e) (w : World) :
    Calls Ybaf.prog 6 #[.int .i64 (N : Int), .int .i64 (f : Int), .float .f64 (F c)] w fun r w' => r = .returned (.tuple #[.int .i64 (K : Int), .nilIface]) ∧ w' = w := by
  have hN0 : 0 < N := by rw [hN]; exact Nat.two_pow_pos e
  have hD0 : 0 < D := by rw [hD]; exact Nat.two_pow_pos j
  have hN1 : N ≤ 1048576 := by rw [hN]; exact Nat.pow_le_pow_right (n := 2) (by omega) he
  have hcN : c * N ≤ 1000 * 1048576 := Nat.mul_le_mul hc hN1
  have hcNe : c * N * e ≤ 1000 * 1048576 * 20 := Nat.mul_le_mul hcN he
  have hKle : K ≤ 1000 * 1048576 * 20 := Nat.le_trans (Nat.le_trans (Nat.le_mul_of_pos_right K hD0) (Nat.le_of_eq hK)) hcNe
  have hL : Hid (∀ w, Calls Ybaf.prog 14 #[.float .f64 (floatOfInt .f64 (N : Int))] w fun r w' => r = .returned (.float .f64 (F e)) ∧ w' = w) := by
    intro w; have := log2_any e he w; rw [← hN] at this; exact this
  have hI : Hid (∀ w, Calls Ybaf.prog 8 #[.float .f64 (F c), .int .i64 1] w fun r w' => r = .returned (.bool false) ∧ w' = w) :=
    fun w => isInf1 (F c) (not_gt c _ 9007199254740991 971 (by omega) (by decide +kernel) (by decide +kernel)) w
  have hC : Hid (∀ w, Calls Ybaf.prog 13 #[.float .f64 (F K)] w fun r w' => r = .returned (.float .f64 (F K)) ∧ w' = w) := fun w => ceil_any K (by omega) w
  have m1 : ∀ w, (binOp .mul 27 (.float .f64 (F c)) (.float .f64 (floatOfInt .f64 (N : Int)))).run Ybaf.prog w = .ok (.float .f64 (F (c * N))) w :=
    fun w => run_float_arith w .mul 27 .f64 _ _ _ (mul_F c N (by omega) (by omega) (by omega))
  have m2 : ∀ w, (binOp .mul 27 (.float .f64 (F (c * N))) (.float .f64 (F e))).run Ybaf.prog w = .ok (.float .f64 (F (c * N * e))) w :=
    fun w => run_float_arith w .mul 27 .f64 _ _ _ (mul_F (c * N) e (by omega) (by omega) (by omega))
  have q1 : ∀ w, (binOp .quo 27 (.float .f64 (F (c * N * e))) (.float .f64 (floatOfInt .f64 (D : Int)))).run Ybaf.prog w = .ok (.float .f64 (F K)) w := by
    intro w
    refine run_float_arith w .quo 27 .f64 _ _ _ ?_
    have := div_F K j (by rw [← hD, hK]; omega) (by omega)
    rw [← hD, hK] at this
    exact this
  have cv : ∀ w, (convert 27 3 (.float .f64 (F K))).run Ybaf.prog w = .ok (.int .i64 (K : Int)) w :=
    fun w => run_convert_float_int w 27 3 .f64 .i64 _ _ (by kernel_rfl) Ybaf.underlying3 (toInt_F K (by omega))
  have g1 : (FloatKind.f64.format.order (F c) 0 == some .gt) = true := gt_zero c hc0 (by omega)
  have g2 : (FloatKind.f64.format.order (F K) 4845873199050653696 == some .gt) = false := not_gt K _ 4503599627370496 1 (by omega) (by decide +kernel) (by decide +kernel)
  have hnf : (N : Int) - (f : Int) = (D : Int) := by omega
  have t1 : ¬ (N : Int) < 1 := by omega
  have t3 : ¬ (N : Int) - 1 < (f : Int) := by omega
  clear hN hD hK hcN hcNe
  go_enter Ybaf.func6, Ybaf.ntmps6
  go_wp2_with (first
    | (go_at_call 8; refine (hI.out _).mono ?_; rintro e w' ⟨rfl, rfl⟩)
    | (go_at_call 14; refine (hL.out _).mono ?_; rintro e w' ⟨rfl, rfl⟩)
    | (go_at_call 13; refine (hC.out _).mono ?_; rintro e w' ⟨rfl, rfl⟩))
  go_ret2
  exact ⟨rfl, rfl⟩
end Go.Proofs.YbulksuiFmt
