import Derived.Test.YbulksvyRead
namespace Go.Proofs.Ybulksvy
open Go.ChangeShapes Go.WideShapes Go.ChangeAt Go.RowKit Bv

theorem wrap64_shl (X : Nat) (hX : X < 72057594037927936) : IntKind.u64.wrap ((X : Int) * 256) = ((X * 256 : Nat) : Int) := by
  rw [IntKind.wrap_u64]; omega

theorem or64 (X d : Nat) (hX : X < 72057594037927936) (hd : d < 256) :
    bits BinOp.or IntKind.u64 (IntKind.u64.wrap ((X : Int) * 256)) (IntKind.u64.wrap (d : Int)) = ((X * 256 + d : Nat) : Int) := by
  rw [wrap64_shl X hX, IntKind.wrap_u64, Int.emod_eq_of_lt (by omega) (by omega)]
  rw [bits_join .u64 64 (by decide) (fun n h0 h1 => by rw [IntKind.wrap_u64]; omega) 8 _ _ (by omega) (by omega) (by omega) (by omega) (by omega) (by omega)]
  omega

theorem cut64 (X r n : Nat) : IntKind.u64.wrap ((X : Int) * 2 ^ r) / 2 ^ (64 - n) = ((X * 2 ^ r % 2 ^ 64 / 2 ^ (64 - n) : Nat) : Int) := by
  rw [IntKind.wrap_u64, Int.natCast_ediv, Int.natCast_emod, Int.natCast_mul, Int.natCast_pow, Int.natCast_pow, Int.natCast_pow]
  rfl

set_option maxRecDepth 100000 in
set_option maxHeartbeats 2000000 in
theorem model_any (w : World) (b off len cap pos n : Nat) (D : Nat → Nat) (hD : ∀ i, D i < 256) (hDz : ∀ i, len ≤ i → D i = 0) (hl : len ≤ 1024) (hn : n ≤ 32) (hn0 : 0 < n) (hp : pos ≤ 8 * len)
    (hd : ∀ i, i < len → w.cell? ⟨b, off + i, none⟩ = some (.int .u8 (D i : Int))) :
    Calls Yba.prog 11 #[.slice (some ⟨b, off, none⟩) len cap, .int .i64 (pos : Int), .int .i64 (n : Int)] w fun e w' =>
      e = .returned (.int .u32 (bv (bitOf D) pos n : Int)) ∧ w' = w := by
  have HD : Hid (∀ i, i < len → w.cell? ⟨b, off + i, none⟩ = some (.int .u8 (D i : Int))) := hd
  clear hd
  have HZ : Hid (∀ i, len ≤ i → D i = 0) := hDz
  clear hDz
  go_enter Yba.func11, Yba.ntmps11
  go_wp2
  go_loop [7, 8] (fun a j => ∃ k : Nat, k ≤ 8 ∧ j = .int .i64 k ∧ a = .int .u64 (bv (bitOf D) (8 * (pos / 8)) (8 * k) : Int)) (fun _ j => 8 - (intOf j).toNat)
  case atStart => exact ⟨0, by omega, rfl, rfl⟩
  case round =>
    obtain ⟨k, hk, rfl, rfl⟩ := hrel
    by_cases hlt : k < 8
    · by_cases hin : pos / 8 + k < len
      · have hd := HD.out (pos / 8 + k) hin
        go_wp2
        have hX := bv_lt (bitOf D) (bitOf_lt D) (8 * (pos / 8)) (8 * k)
        have hp56 : 2 ^ (8 * k) ≤ 2 ^ 56 := Nat.pow_le_pow_right (by omega) (by omega)
        go_round
        case rel =>
          refine ⟨k + 1, by omega, by go_num, ?_⟩
          rw [or64 _ _ (by omega) (hD _), bv_step D _ _ (hD _)]
        case measure => simp [intOf]; omega
      · go_wp2
        have hX := bv_lt (bitOf D) (bitOf_lt D) (8 * (pos / 8)) (8 * k)
        have hp56 : 2 ^ (8 * k) ≤ 2 ^ 56 := Nat.pow_le_pow_right (by omega) (by omega)
        go_round
        case rel =>
          refine ⟨k + 1, by omega, by go_num, ?_⟩
          rw [wrap64_shl _ (by omega), bv_step D _ _ (hD _), HZ.out _ (by omega)]
          rfl
        case measure => simp [intOf]; omega
    · have h8 : k = 8 := by omega
      subst h8
      go_wp2
      go_ret
      refine ⟨?_, rfl⟩
      show Ending.returned (.int .u32 (IntKind.u64.wrap (↑(bv (bitOf D) (8 * (pos / 8)) 64) * 2 ^ (pos % 8)) / 2 ^ (64 - n) % 4294967296)) = _
      have hb := bv_lt (bitOf D) (bitOf_lt D) pos n
      have hp32 : 2 ^ n ≤ 2 ^ 32 := Nat.pow_le_pow_right (by omega) (by omega)
      rw [cut64, window (bitOf D) (bitOf_lt D) _ _ _ (by omega) hn, show 8 * (pos / 8) + pos % 8 = pos from by omega, Int.emod_eq_of_lt (by omega) (by omega)]
end Go.Proofs.Ybulksvy
