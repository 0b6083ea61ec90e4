import Derived.Test.YbulksvyRows
import Derived.Test.YbulksvyPlain
import Derived.WalkKit
import Derived.ProofKit
import Derived.OpenShut
import Derived.Handy
import Derived.WalkSmall
import Derived.BigQuiet
import Derived.Deep.QuietTactic
import Derived.ChangeOld
import Derived.Laws.BitsAllLaws
import Derived.Laws.DeepBits32
import Derived.Below
namespace Go.Proofs.Ybulksvy
open Go.ChangeShapes Go.WideShapes Go.ChangeAt Go.RowKit Bv

set_option maxRecDepth 100000 in
set_option maxHeartbeats 2000000 in
theorem read_no (w : World) (p : Nat) (a : Option Addr) (len cap pos n : Nat) (hl : len ≤ 1024) (hp : pos ≤ 8 * len) (hn : n ≤ 32)
    (hs : w.cell? ⟨p, 0, none⟩ = some (.slice a len cap)) (hq : w.cell? ⟨p, 1, none⟩ = some (.int .i64 (pos : Int)))
    (hlt : (len : Int) * 8 - pos < n) :
    Calls Yba.prog 10 #[.pointer (some ⟨p, 0, none⟩), .int .i64 (n : Int)] w fun e w' =>
      e = .returned (.tuple #[.int .u32 0, .bool false]) ∧ ∃ m, w' = w.drewN m := by
  go_enter Yba.func10, Yba.ntmps10
  go_wp2
  go_quiet (fail)
  go_wp2
  go_ret2
  exact ⟨rfl, _, rfl⟩

theorem step_bits (X d e : Nat) (hX : X < 2147483648) (hd : d < 256) :
    bits BinOp.or IntKind.u32 ((X : Int) * 2 % 4294967296) (bits BinOp.and IntKind.u8 ((d : Int) / 2 ^ e) 1 % 4294967296) = ((2 * X + d / 2 ^ e % 2 : Nat) : Int) := by
  have hq : d / 2 ^ e < 256 := Nat.lt_of_le_of_lt (Nat.div_le_self _ _) hd
  have e1 : ((d : Int) / 2 ^ e) = ((d / 2 ^ e : Nat) : Int) := by rw [Int.natCast_ediv, Int.natCast_pow]; rfl
  have e2 : bits BinOp.and IntKind.u8 ((d / 2 ^ e : Nat) : Int) 1 = ((d / 2 ^ e % 2 : Nat) : Int) := by
    have := u8_and_nat (d / 2 ^ e) 1 hq (by omega)
    rw [show ((1 : Nat) : Int) = 1 from rfl, Nat.and_one_is_mod] at this
    exact this
  rw [e1, e2]
  have e3 : (X : Int) * 2 % 4294967296 = ((2 * X : Nat) : Int) := by omega
  have e4 : ((d / 2 ^ e % 2 : Nat) : Int) % 4294967296 = ((d / 2 ^ e % 2 : Nat) : Int) := by omega
  rw [e3, e4, u32_or_nat _ _ (by omega) (by omega), or_bit _ _ (by omega) (by omega)]

/-- What a world holds of the reader at block p and of its bytes. -/
structure Rd (w : World) (p b off len cap : Nat) (D : Nat → Nat) (q : Nat) : Prop where
  s : w.cell? ⟨p, 0, none⟩ = some (.slice (some ⟨b, off, none⟩) len cap)
  q : w.cell? ⟨p, 1, none⟩ = some (.int .i64 (q : Int))
  f : w.frozen? ⟨p, 1, none⟩ = false
  d : ∀ i, i < len → w.cell? ⟨b, off + i, none⟩ = some (.int .u8 (D i : Int))
  lt : p < w.heap.size

def posOf (w : World) (p : Nat) : Int := match w.cell? ⟨p, 1, none⟩ with
  | some (.int _ q) => q
  | _ => 0

theorem Rd.next {w : World} {p b off len cap : Nat} {D : Nat → Nat} {q : Nat} (h : Rd w p b off len cap D q) (hb : b < p) (m : Nat) (v : Int) (hv : v = ((q + 1 : Nat) : Int)) :
    Rd ((w.drewN m).setCell ⟨p, 1, none⟩ (.int .i64 v)) p b off len cap D (q + 1) := by
  subst hv
  refine ⟨?_, ?_, ?_, ?_, ?_⟩
  · rw [World.cell?_setCell_other _ _ _ _ (by simp)]; exact h.s
  · exact World.cell?_setCell_same _ _ _ (u := .int .i64 (q : Int)) h.q
  · rw [World.frozen?_setCell]; exact h.f
  · intro i hi; rw [World.cell?_setCell_other _ _ _ _ (fun e => by have := congrArg Addr.block e; simp at this; omega)]; exact h.d i hi
  · simpa using h.lt

theorem Rd.pos {w : World} {p b off len cap : Nat} {D : Nat → Nat} {q : Nat} (h : Rd w p b off len cap D q) : posOf w p = (q : Int) := by
  unfold posOf; rw [h.q]

set_option maxRecDepth 100000 in
set_option maxHeartbeats 2000000 in
theorem read_yes (w : World) (p b off len cap pos n : Nat) (D : Nat → Nat) (hD : ∀ i, D i < 256) (hl : len ≤ 1024) (hb : b < p) (hn : n ≤ 32)
    (hr : Rd w p b off len cap D pos) (hle : pos + n ≤ 8 * len) :
    Calls Yba.prog 10 #[.pointer (some ⟨p, 0, none⟩), .int .i64 (n : Int)] w fun e w' =>
      e = .returned (.tuple #[.int .u32 (bv (bitOf D) pos n : Int), .bool true]) ∧ Below p w w' ∧ Rd w' p b off len cap D (pos + n) := by
  have hs := hr.s
  have hq := hr.q
  have hge : ¬ (len : Int) * 8 - pos < n := by omega
  go_enter Yba.func10, Yba.ntmps10
  go_wp2
  go_quiet (fail)
  go_wp2
  clear hs hq
  go_loopw [6] (fun v W => ∃ k : Nat, k ≤ n ∧ v = .int .u32 (bv (bitOf D) pos k : Int) ∧ Below p w W ∧ Rd W p b off len cap D (pos + k)) (fun _ W => (pos + n - posOf W p).toNat)
  case atStart => exact ⟨0, Nat.zero_le _, rfl, below_drewN (Below.refl _ _) _, ⟨hr.s, hr.q, hr.f, hr.d, hr.lt⟩⟩
  case round =>
    obtain ⟨k, hk, rfl, hbel, hR⟩ := hrel
    have hs := hR.s
    have hq := hR.q
    have hf := hR.f
    by_cases hlt : k < n
    · have hd := hR.d ((pos + k) / 8) (by omega)
      go_wp2
      go_quiet (fail)
      go_wp2
      have hlt2 := bv_lt (bitOf D) (bitOf_lt D) pos k
      have hpw : 2 ^ k ≤ 2 ^ 31 := Nat.pow_le_pow_right (by omega) (by omega)
      have hN := hR.next hb nq ((pos : Int) + k + 1) (by omega)
      go_roundw
      case rel =>
        refine ⟨k + 1, by omega, ?_, (below_drewN hbel _).setCell (Nat.le_refl _) _, hN⟩
        rw [step_bits _ _ _ (by omega) (hD _)]
        rfl
      case measure =>
        rw [hN.pos, hR.pos]; omega
    · have hkn : k = n := by omega
      subst hkn
      go_wp2
      go_ret2
      exact ⟨rfl, hbel, hR⟩

set_option maxRecDepth 100000 in
set_option maxHeartbeats 2000000 in
/-- Nothing to read. -/
theorem read_zero (w : World) (p : Nat) (a : Option Addr) (len cap pos : Nat) (hl : len ≤ 1024) (hp : pos ≤ 8 * len)
    (hs : w.cell? ⟨p, 0, none⟩ = some (.slice a len cap)) (hq : w.cell? ⟨p, 1, none⟩ = some (.int .i64 (pos : Int))) :
    Calls Yba.prog 10 #[.pointer (some ⟨p, 0, none⟩), .int .i64 0] w fun e w' =>
      e = .returned (.tuple #[.int .u32 0, .bool true]) ∧ ∃ m, w' = w.drewN m := by
  have hge : ¬ (len : Int) * 8 - pos < 0 := by omega
  go_enter Yba.func10, Yba.ntmps10
  go_wp2
  go_quiet (fail)
  go_wp2
  go_rounds 1
  go_ret2
  exact ⟨rfl, _, rfl⟩

end Go.Proofs.Ybulksvy
