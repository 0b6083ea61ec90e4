import Derived.Test.YbulksuiFmtRows
import Derived.Test.YbulksuiFmtBits
import Derived.WalkKit
import Derived.ProofKit
import Derived.OpenShut
import Derived.Handy
import Derived.WalkSmall
import Derived.BigQuiet
import Derived.Deep.QuietTactic
import Derived.Laws.BitsAllLaws
import Derived.Laws.MakeOwn
import Derived.Below
namespace Go.Proofs.YbulksuiFmt
open Go.ChangeShapes Go.WideShapes Go.ChangeAt Go.RowKit Bm

theorem new_any (n k : Nat) (hn : n ≤ 599) (hk : (n : Int) + 63 = 64 * (k : Int) + ((n : Int) + 63) % 64) (w : World) :
    Calls Ybaf.prog 9 #[.int .i64 (n : Int)] w fun e w' => e = .returned (.slice (some ⟨w.heap.size, 0, none⟩) k k) ∧ w' = w.alloc (.cells (madeCells (Value.int .u64 0).cells k) 29) := by
  have hd : ((n : Int) + 63) / 64 = (k : Int) := by omega
  have hk' : k ≤ 10 := by omega
  obtain ⟨i0, hi, hz0, hz1, hz2⟩ : ∃ i0, Ybaf.prog.info? 29 = some i0 ∧ i0.zero = some (.int .u64 0) ∧ i0.size = 1 ∧ i0.bytes = 8 := ⟨_, rfl, by kernel_rfl, by kernel_rfl, by kernel_rfl⟩
  have hmk : ∀ w : World, (Instr.makeSlice 35 (.int .i64 (k : Int)) (.int .i64 (k : Int))).run Ybaf.prog w = .ok (.slice (some ⟨w.heap.size, 0, none⟩) k k) (w.alloc (.cells (madeCells (Value.int .u64 0).cells k) 29)) := by
    intro w
    have := run_make (P := Ybaf.prog) w 35 29 i0 (.int .u64 0) Ybaf.underlying35 hi hz0 .i64 .i64 k k (by omega) (by omega) (by rw [hz2]; omega) (by omega)
    rw [hz1] at this
    simpa using this
  clear hk
  go_enter Ybaf.func9, Ybaf.ntmps9
  go_wp2
  go_ret
  exact ⟨rfl, rfl⟩

theorem bit8 (d t : Nat) (hd : d < 256) : (bits BinOp.and IntKind.u8 ((d : Int) / 2 ^ t) 1 == 1) = d.testBit t := by
  have hq : d / 2 ^ t < 256 := Nat.lt_of_le_of_lt (Nat.div_le_self _ _) hd
  have e1 : ((d : Int) / 2 ^ t) = ((d / 2 ^ t : Nat) : Int) := by rw [Int.natCast_ediv, Int.natCast_pow]; rfl
  have e2 := u8_and_nat (d / 2 ^ t) 1 hq (by omega)
  rw [show ((1 : Nat) : Int) = 1 from rfl, Nat.and_one_is_mod] at e2
  rw [e1, e2, Nat.testBit_eq_decide_div_mod_eq, Bool.eq_iff_iff]
  simp
  omega

theorem bit64 (d t : Nat) (hd : d < 18446744073709551616) : (bits BinOp.and IntKind.u64 ((d : Int) / 2 ^ t) 1 == 1) = d.testBit t := by
  have hq : d / 2 ^ t < 18446744073709551616 := Nat.lt_of_le_of_lt (Nat.div_le_self _ _) hd
  have e1 : ((d : Int) / 2 ^ t) = ((d / 2 ^ t : Nat) : Int) := by rw [Int.natCast_ediv, Int.natCast_pow]; rfl
  have e2 := u64_and_nat (d / 2 ^ t) 1 hq (by omega)
  rw [show ((1 : Nat) : Int) = 1 from rfl, Nat.and_one_is_mod] at e2
  rw [e1, e2, Nat.testBit_eq_decide_div_mod_eq, Bool.eq_iff_iff]
  simp
  omega

theorem bit_any (w : World) (b off len cap i : Nat) (d : Nat) (hi : i < 8 * len) (hl : len ≤ 1024) (hc : w.cell? ⟨b, off + i / 8, none⟩ = some (.int .u8 (d : Int))) (hd : d < 256) :
    Calls Ybaf.prog 11 #[.slice (some ⟨b, off, none⟩) len cap, .int .i64 (i : Int)] w fun e w' => e = .returned (.bool (d.testBit (i % 8))) ∧ w' = w := by
  have hi' : i / 8 < len := by omega
  have hb := bit8 d (i % 8) hd
  clear hi
  go_enter Ybaf.func11, Ybaf.ntmps11
  go_wp2
  go_ret
  exact ⟨rfl, rfl⟩

theorem and_high (x r : Nat) (hx : x < 2 ^ 64) (hr : r ≤ 64) : x &&& (2 ^ r * (2 ^ (64 - r) - 1)) = 2 ^ r * (x / 2 ^ r) := by
  refine Nat.eq_of_testBit_eq fun t => ?_
  rw [Nat.testBit_and, Nat.testBit_two_pow_mul, Nat.testBit_two_pow_mul, Nat.testBit_two_pow_sub_one, Nat.testBit_div_two_pow]
  by_cases h : r ≤ t
  · rw [show t - r + r = t from by omega]
    by_cases h64 : t < 64
    · have : t - r < 64 - r := by omega
      simp [h, this]
    · have : x.testBit t = false := Nat.testBit_lt_two_pow (Nat.lt_of_lt_of_le hx (Nat.pow_le_pow_right (by omega) (by omega)))
      simp [this]
  · simp [h]

theorem past_and (x r : Nat) (hx : x < 18446744073709551616) (hr : r < 64) : (bits BinOp.and IntKind.u64 (x : Int) (IntKind.u64.wrap (18446744073709551615 * 2 ^ r)) != 0) = !(decide (x / 2 ^ r = 0)) := by
  have hp : 0 < 2 ^ r := Nat.two_pow_pos r
  have hpp : 2 ^ r * 2 ^ (64 - r) = 18446744073709551616 := by rw [← Nat.pow_add, show r + (64 - r) = 64 from by omega]
  have hq : 1 ≤ 2 ^ (64 - r) := Nat.two_pow_pos _
  have e1 : IntKind.u64.wrap (18446744073709551615 * 2 ^ r) = ((2 ^ r * (2 ^ (64 - r) - 1) : Nat) : Int) := by
    rw [IntKind.wrap_u64, show (2 : Int) ^ r = ((2 ^ r : Nat) : Int) from by rw [Int.natCast_pow]; rfl]
    have h2 : 2 ^ r ≤ 2 ^ 63 := Nat.pow_le_pow_right (by omega) (by omega)
    rw [Nat.mul_sub, hpp, Nat.mul_one]
    omega
  have hlt : 2 ^ r * (2 ^ (64 - r) - 1) < 18446744073709551616 := by rw [Nat.mul_sub, hpp]; omega
  rw [e1, u64_and_nat x _ hx hlt, and_high x r hx (by omega)]
  by_cases h0 : x / 2 ^ r = 0
  · rw [h0]; simp
  · have h1 : 2 ^ r * (x / 2 ^ r) ≠ 0 := Nat.mul_ne_zero (by omega) h0
    rw [decide_eq_false h0, Bool.not_false, bne_iff_ne]
    omega

set_option maxRecDepth 100000 in
set_option maxHeartbeats 2000000 in
theorem below_zero (w : World) (v : Value) (n : Nat) (hn : n ≤ 599) (h64 : (n : Int) % 64 = 0) :
    Calls Ybaf.prog 18 #[v, .int .i64 (n : Int)] w fun e w' => e = .returned (.bool true) ∧ w' = w := by
  go_enter Ybaf.func18, Ybaf.ntmps18
  go_wp2
  go_ret
  exact ⟨rfl, rfl⟩

set_option maxRecDepth 100000 in
set_option maxHeartbeats 2000000 in
theorem below_any (w : World) (q k n x : Nat) (hn : n ≤ 599) (h64 : ¬ n % 64 = 0) (hk : k = (n + 63) / 64) (hx : x < 18446744073709551616) (hc : w.cell? ⟨q, k - 1, none⟩ = some (.int .u64 (x : Int))) :
    Calls Ybaf.prog 18 #[.slice (some ⟨q, 0, none⟩) k k, .int .i64 (n : Int)] w fun e w' => e = .returned (.bool (decide (x / 2 ^ (n % 64) = 0))) ∧ w' = w := by
  have hd : ((n : Int) + 63) / 64 = (k : Int) := by omega
  have hk1 : 1 ≤ k := by omega
  have hk10 : k ≤ 10 := by omega
  have h64' : ((n : Int) % 64 == 0) = false := by simp; omega
  have hpast := past_and x (n % 64) hx (by omega)
  cases hq : decide (x / 2 ^ (n % 64) = 0)
  all_goals
    rw [hq] at hpast
    clear hq hk
    go_enter Ybaf.func18, Ybaf.ntmps18
    go_wp2
    go_rounds 2
    go_ret
    exact ⟨rfl, rfl⟩
end Go.Proofs.YbulksuiFmt
