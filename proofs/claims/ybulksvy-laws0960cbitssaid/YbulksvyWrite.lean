import Derived.Test.YbulksvyBuild
namespace Go.Proofs.Ybulksvy
open Go.ChangeShapes Go.WideShapes Go.ChangeAt Go.RowKit Pk

theorem or_bit8 (B : Nat → Bool) (t v s : Nat) (hv : v < 4294967296) (h : B t = v.testBit s) :
    bits BinOp.or IntKind.u8 (pb B t (t / 8) : Int) (bits BinOp.and IntKind.u32 ((v : Int) / 2 ^ s) 1 % 256 * 2 ^ (7 - t % 8) % 256) = ((pb B t (t / 8) + (if B t = true then 2 ^ (7 - t % 8) else 0) : Nat) : Int) := by
  have hq : v / 2 ^ s < 4294967296 := Nat.lt_of_le_of_lt (Nat.div_le_self _ _) hv
  have e1 : ((v : Int) / 2 ^ s) = ((v / 2 ^ s : Nat) : Int) := by rw [Int.natCast_ediv, Int.natCast_pow]; rfl
  have e2 := u32_and_nat (v / 2 ^ s) 1 hq (by omega)
  rw [show ((1 : Nat) : Int) = 1 from rfl, Nat.and_one_is_mod] at e2
  have hp : 2 ^ (7 - t % 8) ≤ 2 ^ 7 := Nat.pow_le_pow_right (by omega) (by omega)
  have hb : v / 2 ^ s % 2 = (if B t = true then 1 else 0) := by
    rw [h, Nat.testBit_eq_decide_div_mod_eq]
    have := Nat.mod_lt (v / 2 ^ s) (show 0 < 2 by omega)
    by_cases h1 : v / 2 ^ s % 2 = 1
    · simp [h1]
    · simp [h1]; omega
  have ho := pb_or B t (B t)
  rw [e1, e2, hb]
  cases hBt : B t
  · rw [hBt] at ho
    simp only [Bool.false_eq_true, if_false] at ho ⊢
    have := u8_or_nat (pb B t (t / 8)) 0 (pb_lt B t _) (by omega)
    simpa using this
  · rw [hBt, if_pos rfl] at ho
    simp only [if_true]
    have e3 : (((1 : Nat) : Int) % 256 * 2 ^ (7 - t % 8) % 256) = ((2 ^ (7 - t % 8) : Nat) : Int) := by
      rw [show (2 : Int) ^ (7 - t % 8) = ((2 ^ (7 - t % 8) : Nat) : Int) from by rw [Int.natCast_pow]; rfl, show ((1 : Nat) : Int) % 256 = 1 from rfl, Int.one_mul]
      exact Int.emod_eq_of_lt (Int.natCast_nonneg _) (Int.ofNat_lt.2 (Nat.lt_of_le_of_lt hp (by decide)))
    rw [e3, u8_or_nat _ _ (pb_lt B t _) (by omega), ho]

theorem Wr.count {W : World} {p : Nat} {xs : List Nat} {c : Int} (h : Wr W p xs c) (c' : Int) : Wr (W.setCell ⟨p, 1, none⟩ (.int .i64 c')) p xs c' := by
  obtain ⟨d, h0, h1, f0, f1, own, hp⟩ := h
  refine ⟨d, ?_, ?_, ?_, ?_, ?_, by simpa using hp⟩
  · rw [World.cell?_setCell_other _ _ _ _ (by simp)]; exact h0
  · exact World.cell?_setCell_same _ _ _ h1
  · rw [World.frozen?_setCell]; exact f0
  · rw [World.frozen?_setCell]; exact f1
  · exact ownsRow_setCell_below own (by simp) _

theorem Wr.drew {W : World} {p : Nat} {xs : List Nat} {c : Int} (h : Wr W p xs c) : Wr W.drew p xs c := h

set_option maxRecDepth 100000 in
set_option maxHeartbeats 4000000 in
theorem write_any (w : World) (p v n len : Nat) (B : Nat → Bool) (hv32 : v < 4294967296) (hn32 : n ≤ 32) (hl : len ≤ 1024) (hB : ∀ k, k < n → B (len + k) = v.testBit (n - 1 - k)) (hW : Wr w p (row B len) (len : Int)) :
    Calls Yba.prog 13 #[.pointer (some ⟨p, 0, none⟩), .int .u32 (v : Int), .int .i64 (n : Int)] w fun e w' =>
      e = .returned (.tuple #[]) ∧ Below p w w' ∧ Wr w' p (row B (len + n)) ((len + n : Nat) : Int) := by
  obtain ⟨i0, hi, hz0, hz1, hz2⟩ := info_parts info5
  have HB : Hid (∀ k, k < n → B (len + k) = v.testBit (n - 1 - k)) := hB
  clear hB
  go_enter Yba.func13, Yba.ntmps13
  go_wp2
  go_loopw [6] (fun i W => ∃ k : Nat, k ≤ n ∧ i = .int .i64 ((n : Int) - 1 - (k : Int)) ∧ Below p w W ∧ Wr W p (row B (len + k)) ((len + k : Nat) : Int)) (fun i _ => (intOf i + 1).toNat)
  case atStart => exact ⟨0, Nat.zero_le _, by simp, Below.refl _ _, hW⟩
  case round =>
    obtain ⟨k, hk, rfl, hbel, d, hd, hn, hf0, hf1, hown, hp⟩ := hrel
    rw [row_len] at hown
    by_cases hlt : k < n
    · have hbit := HB.out k hlt
      have HBit : Hid (B (len + k) = v.testBit (n - 1 - k)) := hbit
      clear hbit
      by_cases h8 : (len + k) % 8 = 0
      · have h8' : (((len : Int) + (k : Int)) % 8 == 0) = true := by simp; omega
        rw [show (len + k + 7) / 8 = (len + k) / 8 from by omega] at hown
        go_wp2_with (at_builtin; refine wpList_append_own _ rfl _ _ 24 rfl (p + 1) 5 i0 (.int .u8 0) 1 1 Yba.underlying24 hi hz0 hz1 hz2 rfl (by decide) _ _ _ rfl (hown.alloc _) ⟨wr.heap.size, 0, none⟩ 1 1 [.int .u8 0] rfl rfl (cell_one_new _ _ _) (fun x hx => by simp at hx; subst hx; rfl) (by unfold maxLen; omega) (by omega) (by simp; omega) ?_; intro v' w3 hown' hgrow3 hnil3; rw [vals_new B (len + k) h8] at hown'; obtain ⟨g, cap', rfl, hg⟩ := own_shape hown'; obtain ⟨hb3, hc3, hf3⟩ := grow_facts hown hgrow3 hp; clear hgrow3 hnil3; have hgp : ¬ p = g := (by omega); obtain ⟨hcg, hfg⟩ := own_cur hown')
        go_region
        go_wp2
        have hval := or_bit8 B (len + k) v (n - 1 - k) hv32 HBit.out
        rw [show (2 : Int) ^ (7 - (len + k) % 8) = 128 from by rw [h8]; rfl] at hval
        have hW' := ((Wr.bit (W := w3.setCell ⟨p, 0, none⟩ (.slice (some ⟨g, 0, none⟩) ((len + k) / 8 + 1) cap')) (World.cell?_setCell_same _ _ _ ((hc3 _ _ (Nat.le_refl _)).trans hd))
          (by rw [World.cell?_setCell_other _ _ _ _ (by simp), hc3 _ _ (Nat.le_refl _)]; exact hn) (by rw [World.frozen?_setCell, hf3 _ _ (Nat.le_refl _)]; exact hf0) (by rw [World.frozen?_setCell, hf3 _ _ (Nat.le_refl _)]; exact hf1)
          (ownsRow_setCell_below hown' (by simp) _) hg (by have := hb3.size; simp; omega) _ hval).drew).count ((len : Int) + (k : Int) + 1)
        go_roundw
        case rel =>
          refine ⟨k + 1, by omega, ?_, ?_, ?_⟩
          · go_num
          · exact ((((hbel.trans (hb3.mono (by omega))).setCell (Nat.le_refl _) _).setCell (by show p ≤ g; omega) _).drew).setCell (Nat.le_refl _) _
          · exact hW'
        case measure => simp [intOf]; omega
      · have h8' : (((len : Int) + (k : Int)) % 8 == 0) = false := by simp; omega
        rw [show (len + k + 7) / 8 = (len + k) / 8 + 1 from by omega, row_old B (len + k) h8] at hown
        obtain ⟨g, cap', rfl, hg⟩ := own_shape hown
        have hgp : ¬ p = g := by omega
        obtain ⟨hcg, hfg⟩ := own_cur hown
        go_wp2
        go_region
        go_wp2
        have hW' := ((Wr.bit hd hn hf0 hf1 hown hg hp _ (or_bit8 B (len + k) v (n - 1 - k) hv32 HBit.out)).drew).count ((len : Int) + (k : Int) + 1)
        go_roundw
        case rel =>
          refine ⟨k + 1, by omega, ?_, ((hbel.setCell (by show p ≤ g; omega) _).drew).setCell (Nat.le_refl _) _, ?_⟩
          · go_num
          · exact hW'
        case measure => simp [intOf]; omega
    · have hkn : k = n := by omega
      subst hkn
      go_wp2
      go_end0
      exact ⟨rfl, hbel, d, hd, hn, hf0, hf1, by rw [row_len]; exact hown, hp⟩
end Go.Proofs.Ybulksvy
