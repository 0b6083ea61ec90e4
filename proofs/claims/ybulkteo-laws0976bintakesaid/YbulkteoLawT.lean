import Derived.Test.YbulkteoLoop
import Derived.Test.YbulkteoNote
namespace Go.Proofs.Ybulkteo
open Go.ChangeShapes Go.WideShapes Go.ChangeAt Go.RowKit

theorem keepT {X W : World} {q : Nat} {v0 v1 v2 v3 : Value} (hb : Below X.heap.size X W) (hq : q < X.heap.size)
    (h : X.cell? ⟨q, 0, none⟩ = some v0 ∧ X.cell? ⟨q, 1, none⟩ = some v1 ∧ X.cell? ⟨q, 2, none⟩ = some v2 ∧ X.cell? ⟨q, 3, none⟩ = some v3) :
    W.cell? ⟨q, 0, none⟩ = some v0 ∧ W.cell? ⟨q, 1, none⟩ = some v1 ∧ W.cell? ⟨q, 2, none⟩ = some v2 ∧ W.cell? ⟨q, 3, none⟩ = some v3 :=
  ⟨(hb.cell (p := ⟨q, 0, none⟩) hq).trans h.1, (hb.cell (p := ⟨q, 1, none⟩) hq).trans h.2.1, (hb.cell (p := ⟨q, 2, none⟩) hq).trans h.2.2.1, (hb.cell (p := ⟨q, 3, none⟩) hq).trans h.2.2.2⟩

theorem keepS {X W : World} {q b0 off : Nat} {v0 v1 v2 v3 va : Value} (hb : Below X.heap.size X W) (hq : q < X.heap.size) (hb0 : b0 < X.heap.size)
    (h : X.cell? ⟨q, 0, none⟩ = some v0 ∧ X.cell? ⟨q, 1, none⟩ = some v1 ∧ X.cell? ⟨q, 2, none⟩ = some v2 ∧ X.cell? ⟨q, 3, none⟩ = some v3 ∧ X.cell? ⟨b0, off, none⟩ = some va) :
    W.cell? ⟨q, 0, none⟩ = some v0 ∧ W.cell? ⟨q, 1, none⟩ = some v1 ∧ W.cell? ⟨q, 2, none⟩ = some v2 ∧ W.cell? ⟨q, 3, none⟩ = some v3 ∧ W.cell? ⟨b0, off, none⟩ = some va :=
  ⟨(hb.cell (p := ⟨q, 0, none⟩) hq).trans h.1, (hb.cell (p := ⟨q, 1, none⟩) hq).trans h.2.1, (hb.cell (p := ⟨q, 2, none⟩) hq).trans h.2.2.1, (hb.cell (p := ⟨q, 3, none⟩) hq).trans h.2.2.2.1, (hb.cell (p := ⟨b0, off, none⟩) hb0).trans h.2.2.2.2⟩

set_option maxRecDepth 100000 in
set_option maxHeartbeats 8000000 in
theorem law_pt (w : World) (x0 x1 : Option Addr) (b0 o0 b1 o1 n c0 l1 c1 K m : Nat) (A Z L : Nat → Int) (now within w8 len : Int) (add : Bool) (hAE : add = true) (hPos : 0 < m)
    (hn : n ≤ 1024) (hKm : n = K + m) (hl1 : l1 ≤ 9223372036854775807)
    (hx0 : 0 < n → x0 = some ⟨b0, o0, none⟩) (hx1 : 0 < l1 → x1 = some ⟨b1, o1, none⟩)
    (hA : ∀ i, i < n → w.cell? ⟨b0, o0 + i, none⟩ = some (.int .i32 (A i))) (hb0 : 0 < n → b0 < w.heap.size)
    (hZ : ∀ i, i < l1 → w.cell? ⟨b1, o1 + i, none⟩ = some (.int .i64 (Z i))) (hb1 : 0 < l1 → b1 < w.heap.size)
    (hAb : ∀ i, i < n → -2147483648 ≤ A i ∧ A i ≤ 2147483647) (hL : ∀ i, L i = if i < l1 then Z i else (i : Int))
    (hnow : -2147483648 ≤ now ∧ now ≤ 2147483647) (hwit : -2147483648 ≤ within ∧ within ≤ 2147483647)
    (h1 : ∀ i, i < K → within ≤ now - A i) (h2 : 0 < m → ¬ within ≤ now - A K) (h8 : within.tdiv 8 = w8) (hw8 : wrap64 w8 = w8) (hw32 : wrap32 w8 = w8) (hadd : 0 < m → decide (w8 ≤ now - A (K + (m - 1))) = add) (hadd0 : m = 0 → add = true) :
    Calls Yba.prog 3 #[.slice x0 n c0, .slice x1 l1 c1, .int .i32 now, .int .i32 within, .int .i64 len] w fun e w' => e = .returned (.bool true) ∧ Below w.heap.size w w' := by
  obtain ⟨i0, hi, hz0, hz1, hz2⟩ := info_parts info31
  have hmk : ∀ w : World, (Instr.makeSlice 24 (.int .i64 (n : Int)) (.int .i64 (n : Int))).run Yba.prog w = .ok (.slice (some ⟨w.heap.size, 0, none⟩) n n) (w.alloc (.cells (madeCells (Value.agg #[.int .i64 0, .int .u64 0, .int .i64 0, .pointer none]).cells (n * 4)) 31)) := by
    intro w
    have := run_make (P := Yba.prog) w 24 31 i0 (.agg #[.int .i64 0, .int .u64 0, .int .i64 0, .pointer none]) Yba.underlying24 hi hz0 .i64 .i64 n n (by omega) (by omega) (by rw [hz2]; omega) (by omega)
    rw [hz1] at this
    simpa using this
  have HX0 : Hid (0 < n → x0 = some ⟨b0, o0, none⟩) := hx0
  have HX1 : Hid (0 < l1 → x1 = some ⟨b1, o1, none⟩) := hx1
  have HA : Hid (∀ i, i < n → w.cell? ⟨b0, o0 + i, none⟩ = some (.int .i32 (A i))) := hA
  have HB0 : Hid (0 < n → b0 < w.heap.size) := hb0
  have HZ : Hid (∀ i, i < l1 → w.cell? ⟨b1, o1 + i, none⟩ = some (.int .i64 (Z i))) := hZ
  have HB1 : Hid (0 < l1 → b1 < w.heap.size) := hb1
  have HAb : Hid (∀ i, i < n → -2147483648 ≤ A i ∧ A i ≤ 2147483647) := hAb
  have HL : Hid (∀ i, L i = if i < l1 then Z i else (i : Int)) := hL
  have HNow : Hid (-2147483648 ≤ now ∧ now ≤ 2147483647) := hnow
  have HWit : Hid (-2147483648 ≤ within ∧ within ≤ 2147483647) := hwit
  have H1 : Hid (∀ i, i < K → within ≤ now - A i) := h1
  have H2 : Hid (0 < m → now - A K < within) := fun h => Int.not_le.mp (h2 h)
  have H8 : Hid (within.tdiv 8 = w8) := h8
  have HW8 : Hid (wrap64 w8 = w8) := hw8
  have HW32 : Hid (wrap32 w8 = w8) := hw32
  have HAdd : Hid (0 < m → decide (w8 ≤ now - A (K + (m - 1))) = add) := hadd
  have HAdd0 : Hid (m = 0 → add = true) := hadd0
  have HKm : Hid (n = K + m) := hKm
  clear hx0 hx1 hA hb0 hZ hb1 hAb hL hnow hwit h1 h2 h8 hw8 hw32 hadd hadd0 hKm hi hz0 hz1 hz2
  go_enter Yba.func3, Yba.ntmps3
  go_wp2
  go_loopw [13] (fun s W => ∃ i : Nat, i ≤ n ∧ s = .int .i64 i ∧ Below w.heap.size w W ∧ w.heap.size < W.heap.size ∧ Lp W w.heap.size n i L A) (fun s _ => n - (intOf s).toNat)
  case atStart => exact ⟨0, Nat.zero_le _, rfl, (Below.refl _ _).alloc (Nat.le_refl _) _, by simp, Lp.made _ _ _ _⟩
  case round =>
    obtain ⟨i, hi, rfl, hbel, hsz, hlp⟩ := hrel
    have HBel : Hid (Below w.heap.size w wr) := hbel
    have HLp : Hid (Lp wr w.heap.size n i L A) := hlp
    clear hbel hlp hmk
    by_cases hin : i < n
    · have hx : x0 = some ⟨b0, o0, none⟩ := HX0.out (by omega)
      subst hx
      have ha : wr.cell? ⟨b0, o0 + i, none⟩ = some (.int .i32 (A i)) := by rw [HBel.out.cell (p := ⟨b0, o0 + i, none⟩) (HB0.out (by omega))]; exact HA.out i hin
      have HAt : Hid (∀ w, Calls Yba.prog 4 #[.int .i32 (A i)] w fun e w' => e = .returned (.agg #[.int .u64 (nanOf (A i) : Int), .int .i64 (secOf (A i)), .pointer none]) ∧ Below w.heap.size w w') := fun w => at_any w (A i) (HAb.out i hin).1 (HAb.out i hin).2
      by_cases hil : i < l1
      · have hx1 : x1 = some ⟨b1, o1, none⟩ := HX1.out (by omega)
        subst hx1
        have hz : wr.cell? ⟨b1, o1 + i, none⟩ = some (.int .i64 (Z i)) := by rw [HBel.out.cell (p := ⟨b1, o1 + i, none⟩) (HB1.out (by omega))]; exact HZ.out i hil
        have hLi : L i = Z i := by rw [HL.out, if_pos hil]
        rw [← hLi] at hz
        go_wp2_with (first | (go_at_call 4; refine (HAt.out _).mono ?_; rintro e w2 ⟨rfl, hb2⟩; have hlp2 := HLp.out.below hb2 hsz; have hs2 := hlp2.store hin; have HS2 : Hid _ := hs2; obtain ⟨v0, d0⟩ := hlp2.some_ (i * 4) (by omega); obtain ⟨v1, d1⟩ := hlp2.some_ (i * 4 + 1) (by omega); obtain ⟨v2, d2⟩ := hlp2.some_ (i * 4 + 2) (by omega); obtain ⟨v3, d3⟩ := hlp2.some_ (i * 4 + 3) (by omega); have f0 := hlp2.froz (i * 4); have f1 := hlp2.froz (i * 4 + 1); have f2 := hlp2.froz (i * 4 + 2); have f3 := hlp2.froz (i * 4 + 3); have HB2 : Hid (Below w.heap.size w w2) := HBel.out.trans (hb2.mono (by omega)); have HZ2 : Hid (w.heap.size < w2.heap.size) := Nat.lt_of_lt_of_le hsz hb2.size; clear hlp2 hs2 hb2))
        refine ⟨⟨i + 1, by omega, by go_num, set4_below HB2.out (Nat.le_refl _), by simpa using HZ2.out, ?_⟩, by simp [intOf]; omega⟩
        have h := HS2.out
        rw [hLi] at h
        exact h
      · have hLi : L i = i := by rw [HL.out, if_neg hil]
        go_wp2_with (first | (go_at_call 4; refine (HAt.out _).mono ?_; rintro e w2 ⟨rfl, hb2⟩; have hlp2 := HLp.out.below hb2 hsz; have hs2 := hlp2.store hin; have HS2 : Hid _ := hs2; obtain ⟨v0, d0⟩ := hlp2.some_ (i * 4) (by omega); obtain ⟨v1, d1⟩ := hlp2.some_ (i * 4 + 1) (by omega); obtain ⟨v2, d2⟩ := hlp2.some_ (i * 4 + 2) (by omega); obtain ⟨v3, d3⟩ := hlp2.some_ (i * 4 + 3) (by omega); have f0 := hlp2.froz (i * 4); have f1 := hlp2.froz (i * 4 + 1); have f2 := hlp2.froz (i * 4 + 2); have f3 := hlp2.froz (i * 4 + 3); have HB2 : Hid (Below w.heap.size w w2) := HBel.out.trans (hb2.mono (by omega)); have HZ2 : Hid (w.heap.size < w2.heap.size) := Nat.lt_of_lt_of_le hsz hb2.size; clear hlp2 hs2 hb2))
        refine ⟨⟨i + 1, by omega, by go_num, set4_below HB2.out (Nat.le_refl _), by simpa using HZ2.out, ?_⟩, by simp [intOf]; omega⟩
        have h := HS2.out
        rw [hLi] at h
        exact h
    · obtain rfl : n = i := by omega
      have HAt : Hid (∀ w, Calls Yba.prog 4 #[.int .i32 now] w fun e w' => e = .returned (.agg #[.int .u64 (nanOf now : Int), .int .i64 (secOf now), .pointer none]) ∧ Below w.heap.size w w') := fun w => at_any w now HNow.out.1 HNow.out.2
      have hww : IntKind.i64.wrap within = within := (IntWalk.i64_left _).trans (w64 _ (by have := HWit.out; omega) (by have := HWit.out; omega))
      go_wp2_with (first | (go_at_call 4; refine (HAt.out _).mono ?_; rintro e w2 ⟨rfl, hb2⟩))
      have hsz2 : wr.heap.size < w2.heap.size := by have := hb2.size; simp at this; omega
      have hpc : w2.cell? ⟨wr.heap.size, 20, none⟩ = some (.slice (some ⟨w.heap.size, 0, none⟩) n n) := by rw [hb2.cell (p := ⟨wr.heap.size, 20, none⟩) (by simp)]; simp
      have hpf : w2.frozen? ⟨wr.heap.size, 20, none⟩ = false := by rw [hb2.frozen (p := ⟨wr.heap.size, 20, none⟩) (by simp)]; simp
      have hbw : Below wr.heap.size wr w2 := ((Below.refl _ _).alloc (Nat.le_refl _) _).trans (hb2.mono (by simp))
      have hM : ∀ r, r < K + m → Mk w2 w.heap.size (r * 4) (L r) (A r) := fun r hr => (HLp.out.marks r (by rw [HKm.out]; exact hr)).below hbw hsz
      have HAll : Hid (Below w.heap.size w w2) := HBel.out.trans (hbw.mono (by omega))
      clear hb2 HBel HLp
      go_at_call 5
      refine (note_any w2 wr.heap.size w.heap.size K m L A len now within w8 add (by rw [← HKm.out]; exact hn) hsz hsz2 HNow.out (fun r hr => HAb.out r (by rw [HKm.out]; exact hr)) H1.out (fun h => Int.not_le.mpr (H2.out h)) H8.out HW8.out HAdd.out HAdd0.out (by rw [← HKm.out]; exact hpc) hpf hM).mono ?_
      rintro e w3 ⟨rfl, hb3, hIn⟩
      have HAll3 : Hid (Below w.heap.size w w3) := HAll.out.trans (hb3.mono (by omega))
      have hsz3 : wr.heap.size < w3.heap.size := by have := hb3.size; omega
      generalize wr.heap.size = p at hsz hsz2 hpc hpf hbw hb3 hIn hsz3 ⊢
      clear hpc hpf hbw hM HAll hb3 hsz2
      obtain ⟨g, o, cap, hcp, hMk⟩ := hIn
      subst hAE
      have hcp : w3.cell? ⟨p, 20, none⟩ = some (.slice (some ⟨g, o, none⟩) (m + 1) cap) := hcp
      have HMk : Hid (∀ r, r < m + 1 → Mk w3 g (o + r * 4) (if r < m then L (K + r) else len) (if r < m then A (K + r) else now)) := hMk
      have HAt : Hid (∀ w, Calls Yba.prog 4 #[.int .i32 now] w fun e w' => e = .returned (.agg #[.int .u64 (nanOf now : Int), .int .i64 (secOf now), .pointer none]) ∧ Below w.heap.size w w') := HAt
      clear hMk
      go_wp2_with fail
      go_loop [16] (fun s => ∃ k : Nat, k ≤ K ∧ s = .int .i64 k) (fun s => K - (intOf s).toNat)
      case atStart => exact ⟨0, Nat.zero_le _, rfl⟩
      case round =>
        obtain ⟨k, hk, rfl⟩ := hrel
        have hKm := HKm.out
        have hkn : k < n := by omega
        have hx : x0 = some ⟨b0, o0, none⟩ := HX0.out (by omega)
        subst hx
        have ha : w3.cell? ⟨b0, o0 + k, none⟩ = some (.int .i32 (A k)) := by rw [HAll3.out.cell (p := ⟨b0, o0 + k, none⟩) (HB0.out (by omega))]; exact HA.out k hkn
        have hw1 : IntKind.i64.wrap now = now := (IntWalk.i64_left _).trans (w64 _ (by have := HNow.out; omega) (by have := HNow.out; omega))
        have hw2 : IntKind.i64.wrap (A k) = A k := (IntWalk.i64_left _).trans (w64 _ (by have := HAb.out k hkn; omega) (by have := HAb.out k hkn; omega))
        have hw3 : IntKind.i64.wrap (now - A k) = now - A k := (IntWalk.i64_left _).trans (w64 _ (by have := HAb.out k hkn; have := HNow.out; omega) (by have := HAb.out k hkn; have := HNow.out; omega))
        clear hKm
        by_cases hkK : k < K
        · have hd : within ≤ now - A k := H1.out k hkK
          go_wp2_with fail
          exact ⟨⟨k + 1, by omega, by go_num⟩, by simp [intOf]; omega⟩
        · obtain rfl : K = k := by omega
          have hd : ¬ within ≤ now - A K := Int.not_le.mpr (H2.out hPos)
          obtain ⟨n', hn'⟩ : ∃ n', n = n' + 1 := ⟨n - 1, by omega⟩
          subst hn'
          have hKm := HKm.out
          have ha' : w3.cell? ⟨b0, o0 + n', none⟩ = some (.int .i32 (A n')) := by rw [HAll3.out.cell (p := ⟨b0, o0 + n', none⟩) (HB0.out (by omega))]; exact HA.out n' (by omega)
          have hv2 : IntKind.i64.wrap (A n') = A n' := (IntWalk.i64_left _).trans (w64 _ (by have := HAb.out n' (by omega); omega) (by have := HAb.out n' (by omega); omega))
          have hv3 : IntKind.i64.wrap (now - A n') = now - A n' := (IntWalk.i64_left _).trans (w64 _ (by have := HAb.out n' (by omega); have := HNow.out; omega) (by have := HAb.out n' (by omega); have := HNow.out; omega))
          have hv4 : IntKind.i64.wrap (n' : Int) = (n' : Int) := (IntWalk.i64_left _).trans (w64 _ (by omega) (by omega))
          have h8 := H8.out
          have hv5 : IntKind.i64.wrap w8 = w8 := (IntWalk.i64_left _).trans HW8.out
          have hv6 : IntKind.i32.wrap w8 = w8 := (IntWalk.i32_left _).trans HW32.out
          have hv7 : decide (w8 ≤ now - A n') = true := by have h := HAdd.out hPos; rw [show K + (m - 1) = n' from by omega] at h; exact h
          have hne : ((K : Int) == (n' : Int) + 1) = false := by simp; omega
          have hnk : (n' : Int) + 1 - (K : Int) = (m : Int) := by omega
          clear hKm
          go_wp2_with fail
          clear ha ha' hw1 hw2 hw3 hv2 hv3 hv4 hv5 hv6 hv7 h8 hd hkK hk hkn hne hww
          go_loopw [19] (fun s W => ∃ r : Nat, r ≤ m ∧ s = .int .i64 r ∧ Below w3.heap.size w3 W) (fun s _ => m - (intOf s).toNat)
          case atStart => exact ⟨0, Nat.zero_le _, rfl, Below.refl _ _⟩
          case round =>
            obtain ⟨r, hr, rfl, hbr⟩ := hrel
            have hcr : wr.cell? ⟨p, 20, none⟩ = some (.slice (some ⟨g, o, none⟩) (m + 1) cap) := (hbr.cell (p := ⟨p, 20, none⟩) hsz3).trans hcp
            by_cases hrm : r < m
            · have hMr : Mk wr g (o + r * 4) (L (K + r)) (A (K + r)) := by
                have h := HMk.out r (by omega)
                rw [if_pos hrm, if_pos hrm] at h
                exact h.below hbr (World.block_lt_of_cell? _ _ h.c0)
              have hKm := HKm.out
              have k0 := hMr.c0
              have k1 := hMr.c1
              have k2 := hMr.c2
              have k3 := hMr.c3
              have hsw : w.heap.size < wr.heap.size := by have := hbr.size; omega
              have hBr : Hid (Below w.heap.size w wr) := HAll3.out.trans (hbr.mono (by omega))
              have ha : wr.cell? ⟨b0, o0 + (K + r), none⟩ = some (.int .i32 (A (K + r))) := by rw [hBr.out.cell (p := ⟨b0, o0 + (K + r), none⟩) (HB0.out (by omega))]; exact HA.out (K + r) (by omega)
              have HAtr : Hid (∀ w, Calls Yba.prog 4 #[.int .i32 (A (K + r))] w fun e w' => e = .returned (.agg #[.int .u64 (nanOf (A (K + r)) : Int), .int .i64 (secOf (A (K + r))), .pointer none]) ∧ Below w.heap.size w w') := fun w => at_any w (A (K + r)) (HAb.out (K + r) (by omega)).1 (HAb.out (K + r) (by omega)).2
              have HEq : Hid (∀ w, Calls Yba.prog 6 #[.agg #[.int .u64 (nanOf (A (K + r)) : Int), .int .i64 (secOf (A (K + r))), .pointer none], .agg #[.int .u64 (nanOf (A (K + r)) : Int), .int .i64 (secOf (A (K + r))), .pointer none]] w fun e w' => e = .returned (.bool true) ∧ Below w.heap.size w w') := fun w => equal_any w (A (K + r))
              have HBr : Hid (Below w3.heap.size w3 wr) := hbr
              have hn0 : b0 < wr.heap.size := by have := HB0.out (by omega); omega
              have he0 : ¬ b0 = wr.heap.size := by omega
              clear hKm hMr hbr
              by_cases hl : K + r < l1
              · have hx1 : x1 = some ⟨b1, o1, none⟩ := HX1.out (by omega)
                subst hx1
                have hz : wr.cell? ⟨b1, o1 + (K + r), none⟩ = some (.int .i64 (L (K + r))) := by rw [hBr.out.cell (p := ⟨b1, o1 + (K + r), none⟩) (HB1.out (by omega)), HL.out, if_pos hl]; exact HZ.out (K + r) hl
                have hn1 : b1 < wr.heap.size := by have := HB1.out (by omega); omega
                have he1 : ¬ b1 = wr.heap.size := by omega
                go_wp2_with fail
                generalize hX : wr.alloc (.cells #[.int .i64 (L (K + r)), .int .u64 (nanOf (A (K + r)) : Int), .int .i64 (secOf (A (K + r))), .pointer none] 31) = X
                have y0 : X.cell? ⟨wr.heap.size, 0, none⟩ = some (.int .i64 (L (K + r))) := by rw [← hX]; simp
                have y1 : X.cell? ⟨wr.heap.size, 1, none⟩ = some (.int .u64 (nanOf (A (K + r)) : Int)) := by rw [← hX]; simp
                have y2 : X.cell? ⟨wr.heap.size, 2, none⟩ = some (.int .i64 (secOf (A (K + r)))) := by rw [← hX]; simp
                have y3 : X.cell? ⟨wr.heap.size, 3, none⟩ = some (.pointer none) := by rw [← hX]; simp
                have ya : X.cell? ⟨b0, o0 + (K + r), none⟩ = some (.int .i32 (A (K + r))) := by rw [← hX, World.cell?_alloc_lt _ _ _ hn0]; exact ha
                have hzX : wr.heap.size < X.heap.size := by rw [← hX]; simp
                have hzB : b0 < X.heap.size := by omega
                have hXb : Hid (Below w3.heap.size w3 X) := by rw [← hX]; exact HBr.out.alloc HBr.out.size _
                go_cut [158] (fun b W => b = .bool false ∧ Below w3.heap.size w3 W)
                case first =>
                  have hKm := HKm.out
                  have hw3X : w3.heap.size ≤ X.heap.size := by have := HBr.out.size; omega
                  have hi1 : (0 : Int) ≤ (K : Int) + (r : Int) := by omega
                  have hi2 : (K : Int) + (r : Int) < (n' : Int) + 1 := by omega
                  have hi4 : IntKind.i64.wrap ((K : Int) + (r : Int)) = (K : Int) + (r : Int) := (IntWalk.i64_left _).trans (w64 _ (by omega) (by omega))
                  have hi5 : ((K : Int) + (r : Int)).toNat = K + r := by omega
                  have hg : ((L (K + r)) != (L (K + r))) = false := by simp
                  clear hKm hX hz hn1 he1 hcr k0 k1 k2 k3 ha hBr HBr hnk hcp HMk HAdd HAdd0 HA HB0 HAb HNow HWit H1 H2 H8 HW8 HW32 HL HZ HB1 HAll3 hPos HX1 HX0 HAt hrm hl hr he0 hsz hsz3 hl1
                  go_region_held (fun w' => w'.cell? ⟨wr.heap.size, 0, none⟩ = some (.int .i64 (L (K + r))) ∧ w'.cell? ⟨wr.heap.size, 1, none⟩ = some (.int .u64 (nanOf (A (K + r)) : Int)) ∧ w'.cell? ⟨wr.heap.size, 2, none⟩ = some (.int .i64 (secOf (A (K + r)))) ∧ w'.cell? ⟨wr.heap.size, 3, none⟩ = some (.pointer none) ∧ w'.cell? ⟨b0, o0 + (K + r), none⟩ = some (.int .i32 (A (K + r))))
                    (first | exact ⟨y0, y1, y2, y3, ya⟩ | exact keepS hb4 hzX hzB ⟨y0, y1, y2, y3, ya⟩ | exact keepS (hb4.trans (hb5.mono hb4.size)) hzX hzB ⟨y0, y1, y2, y3, ya⟩)
                    (first | (go_at_call 4; refine (HAtr.out _).mono ?_; rintro e w4 ⟨rfl, hb4⟩) | (go_at_call 6; refine (HEq.out _).mono ?_; rintro e w5 ⟨rfl, hb5⟩))
                  all_goals (go_wp2_with fail; go_meet; exact ⟨rfl, hXb.out.drew.trans ((hb4.trans (hb5.mono hb4.size)).mono hw3X)⟩)
                case rest =>
                  obtain ⟨rfl, hbc⟩ := hcut
                  go_wp2_with fail
                  exact ⟨⟨r + 1, by omega, by go_num, hbc⟩, by simp [intOf]; omega⟩
              · have hLr : L (K + r) = (K : Int) + (r : Int) := by rw [HL.out, if_neg hl]; exact Int.natCast_add K r
                rw [hLr] at k0
                clear hLr
                go_wp2_with fail
                generalize hX : wr.alloc (.cells #[.int .i64 ((K : Int) + (r : Int)), .int .u64 (nanOf (A (K + r)) : Int), .int .i64 (secOf (A (K + r))), .pointer none] 31) = X
                have y0 : X.cell? ⟨wr.heap.size, 0, none⟩ = some (.int .i64 ((K : Int) + (r : Int))) := by rw [← hX]; simp
                have y1 : X.cell? ⟨wr.heap.size, 1, none⟩ = some (.int .u64 (nanOf (A (K + r)) : Int)) := by rw [← hX]; simp
                have y2 : X.cell? ⟨wr.heap.size, 2, none⟩ = some (.int .i64 (secOf (A (K + r)))) := by rw [← hX]; simp
                have y3 : X.cell? ⟨wr.heap.size, 3, none⟩ = some (.pointer none) := by rw [← hX]; simp
                have ya : X.cell? ⟨b0, o0 + (K + r), none⟩ = some (.int .i32 (A (K + r))) := by rw [← hX, World.cell?_alloc_lt _ _ _ hn0]; exact ha
                have hzX : wr.heap.size < X.heap.size := by rw [← hX]; simp
                have hzB : b0 < X.heap.size := by omega
                have hXb : Hid (Below w3.heap.size w3 X) := by rw [← hX]; exact HBr.out.alloc HBr.out.size _
                go_cut [158] (fun b W => b = .bool false ∧ Below w3.heap.size w3 W)
                case first =>
                  have hKm := HKm.out
                  have hw3X : w3.heap.size ≤ X.heap.size := by have := HBr.out.size; omega
                  have hi1 : (0 : Int) ≤ (K : Int) + (r : Int) := by omega
                  have hi2 : (K : Int) + (r : Int) < (n' : Int) + 1 := by omega
                  have hi4 : IntKind.i64.wrap ((K : Int) + (r : Int)) = (K : Int) + (r : Int) := (IntWalk.i64_left _).trans (w64 _ (by omega) (by omega))
                  have hi5 : ((K : Int) + (r : Int)).toNat = K + r := by omega
                  have hg : (((K : Int) + (r : Int)) != ((K : Int) + (r : Int))) = false := by simp
                  clear hKm hX hcr k0 k1 k2 k3 ha hBr HBr hnk hcp HMk HAdd HAdd0 HA HB0 HAb HNow HWit H1 H2 H8 HW8 HW32 HL HZ HB1 HAll3 hPos HX1 HX0 HAt hrm hl hr he0 hsz hsz3 hl1
                  go_region_held (fun w' => w'.cell? ⟨wr.heap.size, 0, none⟩ = some (.int .i64 ((K : Int) + (r : Int))) ∧ w'.cell? ⟨wr.heap.size, 1, none⟩ = some (.int .u64 (nanOf (A (K + r)) : Int)) ∧ w'.cell? ⟨wr.heap.size, 2, none⟩ = some (.int .i64 (secOf (A (K + r)))) ∧ w'.cell? ⟨wr.heap.size, 3, none⟩ = some (.pointer none) ∧ w'.cell? ⟨b0, o0 + (K + r), none⟩ = some (.int .i32 (A (K + r))))
                    (first | exact ⟨y0, y1, y2, y3, ya⟩ | exact keepS hb4 hzX hzB ⟨y0, y1, y2, y3, ya⟩ | exact keepS (hb4.trans (hb5.mono hb4.size)) hzX hzB ⟨y0, y1, y2, y3, ya⟩)
                    (first | (go_at_call 4; refine (HAtr.out _).mono ?_; rintro e w4 ⟨rfl, hb4⟩) | (go_at_call 6; refine (HEq.out _).mono ?_; rintro e w5 ⟨rfl, hb5⟩))
                  all_goals (go_wp2_with fail; go_meet; exact ⟨rfl, hXb.out.drew.trans ((hb4.trans (hb5.mono hb4.size)).mono hw3X)⟩)
                case rest =>
                  obtain ⟨rfl, hbc⟩ := hcut
                  go_wp2_with fail
                  exact ⟨⟨r + 1, by omega, by go_num, hbc⟩, by simp [intOf]; omega⟩
            · obtain rfl : m = r := by omega
              have hMr : Mk wr g (o + m * 4) len now := by
                have h := HMk.out m (by omega)
                rw [if_neg (by omega), if_neg (by omega)] at h
                exact h.below hbr (World.block_lt_of_cell? _ _ h.c0)
              have k0 := hMr.c0
              have k1 := hMr.c1
              have k2 := hMr.c2
              have k3 := hMr.c3
              have hKm := HKm.out
              have hi4 : IntKind.i64.wrap (m : Int) = (m : Int) := (IntWalk.i64_left _).trans (w64 _ (by omega) (by omega))
              have hBr : Hid (Below w.heap.size w wr) := HAll3.out.trans (hbr.mono (by omega))
              have hsw : w.heap.size ≤ wr.heap.size := hBr.out.size
              have HEq : Hid (∀ w, Calls Yba.prog 6 #[.agg #[.int .u64 (nanOf now : Int), .int .i64 (secOf now), .pointer none], .agg #[.int .u64 (nanOf now : Int), .int .i64 (secOf now), .pointer none]] w fun e w' => e = .returned (.bool true) ∧ Below w.heap.size w w') := fun w => equal_any w now
              clear hMr hbr hKm
              go_wp2_with fail
              generalize hX : wr.alloc (.cells #[.int .i64 len, .int .u64 (nanOf now : Int), .int .i64 (secOf now), .pointer none] 31) = X
              have y0 : X.cell? ⟨wr.heap.size, 0, none⟩ = some (.int .i64 len) := by rw [← hX]; simp
              have y1 : X.cell? ⟨wr.heap.size, 1, none⟩ = some (.int .u64 (nanOf now : Int)) := by rw [← hX]; simp
              have y2 : X.cell? ⟨wr.heap.size, 2, none⟩ = some (.int .i64 (secOf now)) := by rw [← hX]; simp
              have y3 : X.cell? ⟨wr.heap.size, 3, none⟩ = some (.pointer none) := by rw [← hX]; simp
              have hzX : wr.heap.size < X.heap.size := by rw [← hX]; simp
              have hXb : Hid (Below w.heap.size w X) := by rw [← hX]; exact hBr.out.alloc hBr.out.size _
              have hw3X : w.heap.size ≤ X.heap.size := by omega
              have hg : (len != len) = false := by simp
              clear hX hcr k0 k1 k2 k3 hBr hnk hcp HMk HAdd HAdd0 HA HB0 HAb HNow HWit H1 H2 H8 HW8 HW32 HL HZ HB1 HAll3 hPos HX1 HX0 hrm hr hsz hsz3 hl1
              go_region_held (fun w' => w'.cell? ⟨wr.heap.size, 0, none⟩ = some (.int .i64 len) ∧ w'.cell? ⟨wr.heap.size, 1, none⟩ = some (.int .u64 (nanOf now : Int)) ∧ w'.cell? ⟨wr.heap.size, 2, none⟩ = some (.int .i64 (secOf now)) ∧ w'.cell? ⟨wr.heap.size, 3, none⟩ = some (.pointer none))
                (first | exact ⟨y0, y1, y2, y3⟩ | exact keepT hb4 hzX ⟨y0, y1, y2, y3⟩ | exact keepT (hb4.trans (hb5.mono hb4.size)) hzX ⟨y0, y1, y2, y3⟩)
                (first | (go_at_call 4; refine (HAt.out _).mono ?_; rintro e w4 ⟨rfl, hb4⟩) | (go_at_call 6; refine (HEq.out _).mono ?_; rintro e w5 ⟨rfl, hb5⟩))
              all_goals (go_wp2_with fail; go_ret; exact ⟨rfl, hXb.out.drew.trans ((hb4.trans (hb5.mono hb4.size)).mono hw3X)⟩)
end Go.Proofs.Ybulkteo
