import Derived.Test.YbulksuiFmtLog
import Derived.Below
namespace Go.Proofs.YbulksuiFmt
open Go.ChangeShapes Go.WideShapes Go.ChangeAt Go.RowKit Fl

set_option maxRecDepth 100000 in
set_option maxHeartbeats 2000000 in
theorem exact_walk (A0 A1 A2 : Nat) (h0 : A0 < 256) (h1 : A1 < 256) (h2 : A2 < 65536) (e j c : Nat) (he : (A0 : Int) % 21 = (e : Int)) (hj : (A1 : Int) % ((e : Int) + 1) = (j : Int)) (hc : (A2 : Int) % 1000 + 1 = (c : Int))
    (_he20 : e ≤ 20) (hje : j ≤ e) (N D f K : Nat) (hN : wrap64 (2 ^ e) = (N : Int)) (hD : wrap64 (2 ^ j) = (D : Int)) (hf : wrap64 ((N : Int) - (D : Int)) = (f : Int))
    (hK : ((K : Int) == wrap64 (wrap64 ((c : Int) * (e : Int)) * wrap64 (2 ^ (e - j)))) = true)
    (hS : Hid (∀ w, Calls Ybaf.prog 6 #[.int .i64 (N : Int), .int .i64 (f : Int), .float .f64 (floatOfInt .f64 (c : Int))] w fun r w' => r = .returned (.tuple #[.int .i64 (K : Int), .nilIface]) ∧ w' = w)) (w : World) :
    Calls Ybaf.prog 3 #[.int .u8 (A0 : Int), .int .u8 (A1 : Int), .int .u16 (A2 : Int)] w fun r w' => r = .returned (.bool true) ∧ w' = w := by
  go_enter Ybaf.func3, Ybaf.ntmps3
  go_wp2_with fail
  refine (hS.out _).mono ?_
  rintro r w' ⟨rfl, rfl⟩
  go_wp2
  go_ret
  exact ⟨rfl, rfl⟩

theorem wrap_in (n : Nat) (h : n < 9223372036854775808) : wrap64 (n : Int) = (n : Int) := by unfold wrap64; omega

theorem wrap_pow (e : Nat) (h : e ≤ 20) : wrap64 (2 ^ e) = ((2 ^ e : Nat) : Int) := by
  have h1 : 2 ^ e ≤ 2 ^ 20 := Nat.pow_le_pow_right (by omega) h
  rw [show (2 : Int) ^ e = ((2 ^ e : Nat) : Int) from by rw [Int.natCast_pow]; rfl]
  exact wrap_in _ (by omega)

theorem exact_any (A0 A1 A2 : Nat) (h0 : A0 < 256) (h1 : A1 < 256) (h2 : A2 < 65536) (w : World) :
    Calls Ybaf.prog 3 #[.int .u8 (A0 : Int), .int .u8 (A1 : Int), .int .u16 (A2 : Int)] w fun r w' => r = .returned (.bool true) ∧ w' = w := by
  obtain ⟨e, he⟩ : ∃ e : Nat, (A0 : Int) % 21 = (e : Int) := ⟨A0 % 21, by omega⟩
  have he20 : e ≤ 20 := by omega
  obtain ⟨j, hj⟩ : ∃ j : Nat, (A1 : Int) % ((e : Int) + 1) = (j : Int) :=
    ⟨((A1 : Int) % ((e : Int) + 1)).toNat, by have := Int.emod_nonneg (A1 : Int) (show ((e : Int) + 1) ≠ 0 by omega); omega⟩
  have hje : j ≤ e := by
    have := Int.emod_lt_of_pos (A1 : Int) (show (0 : Int) < (e : Int) + 1 by omega)
    omega
  obtain ⟨c, hc⟩ : ∃ c : Nat, (A2 : Int) % 1000 + 1 = (c : Int) := ⟨A2 % 1000 + 1, by omega⟩
  have hc0 : c ≠ 0 := by omega
  have hc1 : c ≤ 1000 := by omega
  have pe : 2 ^ e ≤ 2 ^ 20 := Nat.pow_le_pow_right (by omega) he20
  have pj : 2 ^ j ≤ 2 ^ e := Nat.pow_le_pow_right (by omega) hje
  have pd : 2 ^ (e - j) ≤ 2 ^ 20 := Nat.pow_le_pow_right (by omega) (by omega)
  have pp : 2 ^ (e - j) * 2 ^ j = 2 ^ e := by rw [← Nat.pow_add, show e - j + j = e from by omega]
  have hce : c * e ≤ 1000 * 20 := Nat.mul_le_mul hc1 he20
  have hcep : c * e * 2 ^ (e - j) ≤ 1000 * 20 * 2 ^ 20 := Nat.mul_le_mul hce pd
  refine exact_walk A0 A1 A2 h0 h1 h2 e j c he hj hc he20 hje (2 ^ e) (2 ^ j) (2 ^ e - 2 ^ j) (c * e * 2 ^ (e - j)) (wrap_pow e he20) (wrap_pow j (by omega)) ?_ ?_ ?_ w
  · rw [show ((2 ^ e : Nat) : Int) - ((2 ^ j : Nat) : Int) = ((2 ^ e - 2 ^ j : Nat) : Int) from by omega]
    exact wrap_in _ (Nat.lt_of_le_of_lt (Nat.sub_le _ _) (by omega))
  · rw [wrap_pow (e - j) (by omega), ← Int.natCast_mul, wrap_in _ (by omega), ← Int.natCast_mul, wrap_in _ (by omega)]
    simp
  · intro w
    refine steps_any e j c (2 ^ e) (2 ^ j) (2 ^ e - 2 ^ j) (c * e * 2 ^ (e - j)) he20 hje hc0 hc1 rfl rfl (by omega) ?_ w
    rw [Nat.mul_assoc, pp, Nat.mul_assoc, Nat.mul_assoc, Nat.mul_comm e]
end Go.Proofs.YbulksuiFmt
