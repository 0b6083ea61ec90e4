import Derived.Test.YbulksvyWrite
namespace Go.Proofs.Ybulksvy
open Go.ChangeShapes Go.WideShapes Go.ChangeAt Go.RowKit Pk

theorem and_pow (x s : Nat) : x &&& 2 ^ s = if x.testBit s = true then 2 ^ s else 0 := by
  refine Nat.eq_of_testBit_eq fun t => ?_
  rw [Nat.testBit_and, Nat.testBit_two_pow]
  by_cases h : s = t
  · subst h
    cases hx : x.testBit s <;> simp
  · split <;> simp [h]

theorem bit32 (d t : Nat) (hd : d < 4294967296) : (bits BinOp.and IntKind.u32 ((d : Int) / 2 ^ t) 1 == 1) = d.testBit t := by
  have hq : d / 2 ^ t < 4294967296 := Nat.lt_of_le_of_lt (Nat.div_le_self _ _) hd
  have e1 : ((d : Int) / 2 ^ t) = ((d / 2 ^ t : Nat) : Int) := by rw [Int.natCast_ediv, Int.natCast_pow]; rfl
  have e2 := u32_and_nat (d / 2 ^ t) 1 hq (by omega)
  rw [show ((1 : Nat) : Int) = 1 from rfl, Nat.and_one_is_mod] at e2
  rw [e1, e2, Nat.testBit_eq_decide_div_mod_eq, Bool.eq_iff_iff]
  simp
  omega

theorem and_top (x r : Nat) (hx : x < 256) (hr : r < 8) : (bits BinOp.and IntKind.u8 (x : Int) (128 / 2 ^ r) != 0) = x.testBit (7 - r) := by
  have e : (128 : Int) / 2 ^ r = ((2 ^ (7 - r) : Nat) : Int) := by
    have : ∀ r : Nat, r < 8 → (128 : Int) / 2 ^ r = ((2 ^ (7 - r) : Nat) : Int) := by decide
    exact this _ hr
  have hp : 2 ^ (7 - r) ≤ 2 ^ 7 := Nat.pow_le_pow_right (by omega) (by omega)
  rw [e, u8_and_nat _ _ hx (by omega), and_pow]
  cases x.testBit (7 - r)
  · simp
  · have := Nat.two_pow_pos (7 - r)
    rw [if_pos rfl, bne_iff_ne]
    omega

theorem cbit_any (w : World) (g k cap j x : Nat) (hk : k ≤ 200) (hj : j / 8 < k) (hx : x < 256) (hc : w.cell? ⟨g, j / 8, none⟩ = some (.int .u8 (x : Int))) :
    Calls Yba.prog 14 #[.slice (some ⟨g, 0, none⟩) k cap, .int .i64 (j : Int)] w fun e w' => e = .returned (.bool (x.testBit (7 - j % 8))) ∧ w' = w := by
  have ha := and_top x (j % 8) hx (by omega)
  go_enter Yba.func14, Yba.ntmps14
  go_wp2
  go_ret
  exact ⟨rfl, rfl⟩

theorem Wr.below {W W' : World} {p : Nat} {xs : List Nat} {c : Int} (h : Wr W p xs c) (hb : Below W.heap.size W W') : Wr W' p xs c := by
  obtain ⟨d, h0, h1, f0, f1, own, hp⟩ := h
  refine ⟨d, ?_, ?_, ?_, ?_, ?_, Nat.lt_of_lt_of_le hp hb.size⟩
  · rw [hb.cell (p := ⟨p, 0, none⟩) hp]; exact h0
  · rw [hb.cell (p := ⟨p, 1, none⟩) hp]; exact h1
  · rw [hb.frozen (p := ⟨p, 0, none⟩) hp]; exact f0
  · rw [hb.frozen (p := ⟨p, 1, none⟩) hp]; exact f1
  · refine ⟨own.1, ?_⟩
    rcases own.2 with h | ⟨g, cap, cur, rfl, hbg, hg, rest⟩
    · exact .inl h
    · refine .inr ⟨g, cap, cur, rfl, hbg, ?_, rest⟩
      have hlt : g < W.heap.size := by
        rcases Nat.lt_or_ge g W.heap.size with h | h
        · exact h
        · rw [Array.getElem?_eq_none h] at hg; cases hg
      rw [hb.block g hlt]; exact hg

set_option maxRecDepth 100000 in
set_option maxHeartbeats 4000000 in
theorem bits_any (a : Option Addr) (len cap v A2 n K : Nat) (B : Nat → Bool) (w : World) (hl : len ≤ 1024) (hv : v < 4294967296) (hA : A2 < 256) (hnn : 1 + (A2 : Int) % 32 = (n : Int))
    (hK : ((len : Int) + (n : Int) + 7) / 8 = (K : Int))
    (hpre : Hid (∀ i, i < len → ∃ b off, a = some ⟨b, off, none⟩ ∧ b < w.heap.size ∧ w.cell? ⟨b, off + i, none⟩ = some (.bool (B i))))
    (hB : ∀ k, k < n → B (len + k) = v.testBit (n - 1 - k))
    (hbuild : Hid (Calls Yba.prog 12 #[.slice a len cap] w fun e w' => e = .returned (.pointer (some ⟨w.heap.size, 0, none⟩)) ∧ Below w.heap.size w w' ∧ Wr w' w.heap.size (row B len) len)) :
    Calls Yba.prog 7 #[.slice a len cap, .int .u32 (v : Int), .int .u8 (A2 : Int)] w fun e w' => e = .returned (.bool true) ∧ Below w.heap.size w w' := by
  have hn1 : 1 ≤ n := by omega
  have hn32 : n ≤ 32 := by omega
  have HB : Hid (∀ k, k < n → B (len + k) = v.testBit (n - 1 - k)) := hB
  clear hB
  go_enter Yba.func7, Yba.ntmps7
  go_wp2_with fail
  refine hbuild.out.mono ?_
  rintro e w1 ⟨rfl, hb1, hW1⟩
  have HW1 : Hid (Wr w1 w.heap.size (row B len) len) := hW1
  clear hW1
  go_wp2_with fail
  refine (write_any _ w.heap.size v n len B hv hn32 hl HB.out HW1.out).mono ?_
  rintro e w2 ⟨rfl, hb2, hW2⟩
  have hbel : Below w.heap.size w w2 := hb1.trans hb2
  clear hb1 hb2 HW1
  have HW2 : Hid (Wr w2 w.heap.size (row B (len + n)) ((len + n : Nat) : Int)) := hW2
  rw [Int.natCast_add] at hW2
  obtain ⟨d, hd0, hd1, hf0, hf1, hown, hp⟩ := hW2
  rw [row_len, show (len + n + 7) / 8 = (K - 1) + 1 from by omega] at hown
  obtain ⟨g, cap', rfl, hg⟩ := own_shape hown
  rw [show K - 1 + 1 = K from by omega] at hd0 hown
  clear hf0 hf1
  go_wp2
  go_loopw [11] (fun i W => ∃ k : Nat, k ≤ 32 ∧ i = .int .i64 k ∧ Below w2.heap.size w2 W ∧ w2.heap.size < W.heap.size ∧ (∀ t, t < 32 → W.cell? ⟨w2.heap.size, t, none⟩ = some (.bool (decide (t < k) && v.testBit t))) ∧ ∀ t, W.frozen? ⟨w2.heap.size, t, none⟩ = false) (fun i _ => 32 - (intOf i).toNat)
  case atStart =>
    refine ⟨0, Nat.zero_le _, rfl, (Below.refl _ _).alloc (Nat.le_refl _) _, by simp, ?_, by simp⟩
    intro t ht
    rw [World.cell?_alloc_new]
    have : ∀ t : Nat, t < 32 → (#[Value.bool false, Value.bool false, Value.bool false, Value.bool false, Value.bool false, Value.bool false, Value.bool false, Value.bool false, Value.bool false, Value.bool false, Value.bool false, Value.bool false, Value.bool false, Value.bool false, Value.bool false, Value.bool false, Value.bool false, Value.bool false, Value.bool false, Value.bool false, Value.bool false, Value.bool false, Value.bool false, Value.bool false, Value.bool false, Value.bool false, Value.bool false, Value.bool false, Value.bool false, Value.bool false, Value.bool false, Value.bool false])[t]? = some (Value.bool false) := by
      intro t ht
      match t, ht with
      | 0, _ | 1, _ | 2, _ | 3, _ | 4, _ | 5, _ | 6, _ | 7, _ | 8, _ | 9, _ | 10, _ | 11, _ | 12, _ | 13, _ | 14, _ | 15, _ | 16, _ | 17, _ | 18, _ | 19, _ | 20, _ | 21, _ | 22, _ | 23, _ | 24, _ | 25, _ | 26, _ | 27, _ | 28, _ | 29, _ | 30, _ | 31, _ => rfl
      | n + 32, h => omega
    simpa using this t ht
  case round =>
    obtain ⟨k, hk, rfl, hbq, hqs, hcq, hfq⟩ := hrel
    by_cases hlt : k < 32
    · have hck := hcq k hlt
      have hfk := hfq k
      have hbit := bit32 v k hv
      have HCQ : Hid (∀ t, t < 32 → wr.cell? ⟨w2.heap.size, t, none⟩ = some (.bool (decide (t < k) && v.testBit t))) := hcq
      have HFQ : Hid (∀ t, wr.frozen? ⟨w2.heap.size, t, none⟩ = false) := hfq
      clear hcq hfq
      go_wp2
      refine ⟨⟨k + 1, by omega, by go_num, hbq.setCell (Nat.le_refl _) _, by simpa using hqs, ?_, ?_⟩, by simp [intOf]; omega⟩
      · intro t ht
        by_cases he : t = k
        · subst he
          rw [World.cell?_setCell_same _ _ _ hck]
          simp
        · rw [World.cell?_setCell_other _ _ _ _ (fun e => by have := congrArg Addr.off e; simp at this; omega), HCQ.out t ht]
          congr 3
          rw [decide_eq_decide]
          omega
      · intro t
        rw [World.frozen?_setCell]
        exact HFQ.out t
    · obtain rfl : k = 32 := by omega
      have hW3 : Hid (Wr wr w.heap.size (row B (len + n)) ((len + n : Nat) : Int)) := HW2.out.below hbq
      have hbel3 : Below w.heap.size w wr := hbel.trans (hbq.mono (by omega))
      have hg2 : g < w2.heap.size := (hown.lt g rfl).2
      have hd3 : wr.cell? ⟨w.heap.size, 0, none⟩ = some (.slice (some ⟨g, 0, none⟩) K cap') := by rw [hbq.cell (p := ⟨w.heap.size, 0, none⟩) hp]; exact hd0
      have hcell : Hid (∀ i, i < K → wr.cell? ⟨g, i, none⟩ = some (.int .u8 (pb B (len + n) i : Int))) := by
        intro i hi
        rw [hbq.cell (p := ⟨g, i, none⟩) hg2, hown.cellAt i (by omega)]
        simp [vals, row, show i < (len + n + 7) / 8 from by omega]
      have hbits : Hid (∀ t, t < 32 → wr.cell? ⟨w2.heap.size, t, none⟩ = some (.bool (v.testBit t))) := by
        intro t ht
        rw [hcq t ht]
        simp [ht]
      have HBel : Hid (Below w.heap.size w wr) := hbel3
      clear hcq hfq hbq hbel hbel3 hd0 hd1 hown HW2 hW3 hbuild
      go_wp2
      rw [hK, show ((32 : Nat) : Int) = 32 from rfl]
      go_loop [12] (fun i => ∃ j : Nat, j ≤ 8 * K ∧ i = .int .i64 j) (fun i => 8 * K - (intOf i).toNat)
      case atStart => exact ⟨0, Nat.zero_le _, rfl⟩
      case round =>
        obtain ⟨j, hj, rfl⟩ := hrel
        by_cases hjk : j < 8 * K
        · have hcg := hcell.out (j / 8) (by omega)
          have hpb := pb_bit B (len + n) j
          have hcb : Hid (∀ w3, w3.cell? ⟨g, j / 8, none⟩ = some (.int .u8 (pb B (len + n) (j / 8) : Int)) → Calls Yba.prog 14 #[.slice (some ⟨g, 0, none⟩) K cap', .int .i64 (j : Int)] w3 fun e w' => e = .returned (.bool (decide (j < len + n) && B j)) ∧ w' = w3) := by
            intro w3 h3
            have := cbit_any w3 g K cap' j (pb B (len + n) (j / 8)) (by omega) (by omega) (pb_lt B _ _) h3
            rw [hpb] at this
            exact this
          clear hpb
          by_cases h1 : j < len
          · obtain ⟨b, off, rfl, hb, hcp⟩ := hpre.out j h1
            have hcp' : wr.cell? ⟨b, off + j, none⟩ = some (.bool (B j)) := by rw [HBel.out.cell (p := ⟨b, off + j, none⟩) hb]; exact hcp
            clear hcp
            have hlt2 : j < len + n := by omega
            rw [decide_eq_true hlt2, Bool.true_and] at hcb
            go_wp2_with fail
            refine (hcb.out _ hcg).mono ?_
            rintro e w' ⟨rfl, hw⟩
            rw [hw]
            clear hw w'
            go_wp2
            go_round
            case rel => exact ⟨j + 1, by omega, by go_num⟩
            case measure => simp [intOf]; omega
          · by_cases h2 : j < len + n
            · have hbj := HB.out (j - len) (by omega)
              rw [show len + (j - len) = j from by omega] at hbj
              have hcp := hbits.out (n - 1 - (j - len)) (by omega)
              rw [← hbj] at hcp
              rw [decide_eq_true h2, Bool.true_and] at hcb
              clear hbj
              go_wp2_with fail
              refine (hcb.out _ hcg).mono ?_
              rintro e w' ⟨rfl, hw⟩
              rw [hw]
              clear hw w'
              go_wp2
              go_round
              case rel => exact ⟨j + 1, by omega, by go_num⟩
              case measure => simp [intOf]; omega
            · rw [decide_eq_false h2, Bool.false_and] at hcb
              go_wp2_with fail
              refine (hcb.out _ hcg).mono ?_
              rintro e w' ⟨rfl, hw⟩
              rw [hw]
              clear hw w'
              go_wp2
              go_round
              case rel => exact ⟨j + 1, by omega, by go_num⟩
              case measure => simp [intOf]; omega
        · go_wp2
          go_ret
          exact ⟨rfl, HBel.out⟩
end Go.Proofs.Ybulksvy
