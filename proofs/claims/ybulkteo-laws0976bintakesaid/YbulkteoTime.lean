import Derived.Test.YbulkteoRows
import Derived.WalkKit
import Derived.ProofKit
import Derived.OpenShut
import Derived.Handy
import Derived.WalkSmall
import Derived.Laws.BitsAllLaws
import Derived.Below
namespace Go.Proofs.Ybulkteo
open Go.ChangeShapes Go.WideShapes Go.ChangeAt Go.RowKit

/-- A time of s seconds and n nanoseconds since the zero time, with no clock reading. -/
def tm (s : Int) (n : Nat) : Value := .agg #[.int .u64 (n : Int), .int .i64 s, .pointer none]

theorem mono_off (n : Nat) (h : n < 1000000000) : (bits BinOp.and IntKind.u64 (n : Int) 9223372036854775808 != 0) = false := by
  have e := u64_and_nat n 9223372036854775808 (by omega) (by omega)
  rw [show ((9223372036854775808 : Nat) : Int) = 9223372036854775808 from rfl] at e
  have h0 : n &&& 9223372036854775808 = 0 := by
    refine Nat.eq_of_testBit_eq fun t => ?_
    rw [Nat.testBit_and, show 9223372036854775808 = 2 ^ 63 from rfl, Nat.testBit_two_pow]
    by_cases h1 : 63 = t
    · subst h1
      have : n.testBit 63 = false := Nat.testBit_lt_two_pow (by omega)
      simp [this]
    · simp [h1]
  rw [e, h0]
  rfl

theorem nsec_mask (n : Nat) (h : n < 1000000000) : bits BinOp.and IntKind.u64 (n : Int) 1073741823 = (n : Int) := by
  have e := u64_and_nat n 1073741823 (by omega) (by omega)
  rw [show ((1073741823 : Nat) : Int) = 1073741823 from rfl] at e
  rw [e, show 1073741823 = 2 ^ 30 - 1 from rfl, Nat.and_two_pow_sub_one_eq_mod, Nat.mod_eq_of_lt (by omega)]

theorem sec_any (w : World) (p : Nat) (s : Int) (n : Nat) (hn : n < 1000000000) (h0 : w.cell? ⟨p, 0, none⟩ = some (.int .u64 (n : Int))) (h1 : w.cell? ⟨p, 1, none⟩ = some (.int .i64 s)) :
    Calls Yba.prog 10 #[.pointer (some ⟨p, 0, none⟩)] w fun e w' => e = .returned (.int .i64 s) ∧ w' = w := by
  have hm := mono_off n hn
  go_enter Yba.func10, Yba.ntmps10
  go_wp2
  go_ret
  exact ⟨rfl, rfl⟩

theorem nsec_any (w : World) (p : Nat) (n : Nat) (hn : n < 1000000000) (h0 : w.cell? ⟨p, 0, none⟩ = some (.int .u64 (n : Int))) :
    Calls Yba.prog 11 #[.pointer (some ⟨p, 0, none⟩)] w fun e w' => e = .returned (.int .i32 (n : Int)) ∧ w' = w := by
  have hm := nsec_mask n hn
  go_enter Yba.func11, Yba.ntmps11
  go_wp2
  go_ret
  exact ⟨rfl, rfl⟩

theorem addSec_any (w : World) (p : Nat) (s q : Int) (n : Nat) (hn : n < 1000000000) (hs : -100 ≤ s ∧ s ≤ 100) (hq : -100 ≤ q ∧ q ≤ 100) (h0 : w.cell? ⟨p, 0, none⟩ = some (.int .u64 (n : Int))) (h1 : w.cell? ⟨p, 1, none⟩ = some (.int .i64 s)) (hf : w.frozen? ⟨p, 1, none⟩ = false) :
    Calls Yba.prog 12 #[.pointer (some ⟨p, 0, none⟩), .int .i64 q] w fun e w' => e = .returned (.tuple #[]) ∧ w' = w.setCell ⟨p, 1, none⟩ (.int .i64 (s + q)) := by
  obtain ⟨hs1, hs2⟩ := hs
  obtain ⟨hq1, hq2⟩ := hq
  have hm := mono_off n hn
  have he : (decide (s < s + q) == decide (0 < q)) = true := by
    rw [beq_iff_eq, decide_eq_decide]; omega
  go_enter Yba.func12, Yba.ntmps12
  go_wp2
  go_end0
  exact ⟨rfl, rfl⟩

end Go.Proofs.Ybulkteo
