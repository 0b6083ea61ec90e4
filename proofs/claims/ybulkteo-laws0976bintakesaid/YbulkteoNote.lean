import Derived.Test.YbulkteoMark
import Derived.RangeFuncBox
import Derived.Deep.RegionHeld
namespace Go.Proofs.Ybulkteo
open Go.ChangeShapes Go.WideShapes Go.ChangeAt Go.RowKit

theorem new_cells (W : World) (l a : Int) : ∀ j u, [mc l a 0, mc l a 1, mc l a 2, mc l a 3][j]? = some u → (W.alloc (.cells #[.int .i64 l, .int .u64 (nanOf a : Int), .int .i64 (secOf a), .pointer none] 31)).drew.cell? ((⟨W.heap.size, 0, none⟩ : Addr).add j) = some u := by
  intro j u h
  match j, h with
  | 0, h => cases h; simp [mc, Go.WideShapes.add_plain]
  | 1, h => cases h; simp [mc, Go.WideShapes.add_plain]
  | 2, h => cases h; simp [mc, Go.WideShapes.add_plain]
  | 3, h => cases h; simp [mc, Go.WideShapes.add_plain]
  | j + 4, h => simp at h

theorem one_cells (l a : Int) : ∀ u ∈ [mc l a 0, mc l a 1, mc l a 2, mc l a 3], u.oneCell' = true := by
  intro u hu
  simp at hu
  rcases hu with rfl | rfl | rfl | rfl <;> rfl

theorem len_ok (n : Nat) (h : n ≤ 4096) : n ≤ maxLen := by unfold maxLen; omega

set_option maxRecDepth 100000 in
set_option maxHeartbeats 8000000 in
theorem note_any (w : World) (p q K m : Nat) (L A : Nat → Int) (len now within w8 : Int) (add : Bool) (hn : K + m ≤ 1024) (hqp : q < p) (hpw : p < w.heap.size)
    (hnow : -2147483648 ≤ now ∧ now ≤ 2147483647) (hA : ∀ i, i < K + m → -2147483648 ≤ A i ∧ A i ≤ 2147483647)
    (h1 : ∀ i, i < K → within ≤ now - A i) (h2 : 0 < m → ¬ within ≤ now - A K) (h8 : within.tdiv 8 = w8) (hw8' : wrap64 w8 = w8) (hadd : 0 < m → decide (w8 ≤ now - A (K + (m - 1))) = add) (hadd0 : m = 0 → add = true)
    (hc : w.cell? ⟨p, 20, none⟩ = some (.slice (some ⟨q, 0, none⟩) (K + m) (K + m))) (hf : w.frozen? ⟨p, 20, none⟩ = false)
    (hM : ∀ i, i < K + m → Mk w q (i * 4) (L i) (A i)) :
    Calls Yba.prog 5 #[.pointer (some ⟨p, 0, none⟩), .int .i64 len, T now, .int .i64 within] w fun e w' => e = .returned (.tuple #[]) ∧ Below p w w' ∧ In w' p (m + add.toNat) (fun r => if r < m then L (K + r) else len) (fun r => if r < m then A (K + r) else now) := by
  obtain ⟨i0, hi, hz0, hz1, hz2⟩ := info_parts info31
  have HS : Hid (∀ i, i < K + m → ∀ w, Calls Yba.prog 8 #[T now, T (A i)] w fun e w' => e = .returned (.int .i64 (now - A i)) ∧ Below w.heap.size w w') :=
    fun i hi w => by
      have := hA i hi
      exact sub_any w now (A i) (by omega) (by omega) (by omega) (by omega)
  have HM : Hid (∀ i, i < K + m → Mk w q (i * 4) (L i) (A i)) := hM
  have H1 : Hid (∀ i, i < K → within ≤ now - A i) := h1
  have H2 : Hid (0 < m → now - A K < within) := fun h => Int.not_le.mp (h2 h)
  have HAdd : Hid (0 < m → decide (w8 ≤ now - A (K + (m - 1))) = add) := hadd
  have HAdd0 : Hid (m = 0 → add = true) := hadd0
  have HI : Hid (Yba.prog.info? 31 = some i0 ∧ i0.zero = some (.agg #[.int .i64 0, .int .u64 0, .int .i64 0, .pointer none]) ∧ i0.size = 4 ∧ i0.bytes = 32) := ⟨hi, hz0, hz1, hz2⟩
  have hw8 : Hid (wrap64 w8 = w8) := hw8'
  clear hM hw8' h1 h2 hA hadd hadd0 hnow hi hz0 hz1 hz2
  rw [T_of]
  go_enter Yba.func5, Yba.ntmps5
  go_wp2
  go_loopw [8] (fun s W => ∃ i : Nat, i ≤ K ∧ s = .int .i64 i ∧ Below (w.heap.size + 1) (w.alloc (.cells #[.int .u64 (nanOf now : Int), .int .i64 (secOf now), .pointer none] 28)) W) (fun s _ => K - (intOf s).toNat)
  case atStart => exact ⟨0, Nat.zero_le _, rfl, Below.refl _ _⟩
  case round =>
    obtain ⟨i, hi, rfl, hbel⟩ := hrel
    have hzr : w.heap.size + 1 ≤ wr.heap.size := by have := hbel.size; simp at this; omega
    have hcp : wr.cell? ⟨p, 20, none⟩ = some (.slice (some ⟨q, 0, none⟩) (K + m) (K + m)) := by rw [hbel.cell (p := ⟨p, 20, none⟩) (by show p < _; omega), World.cell?_alloc_lt _ _ _ hpw]; exact hc
    go_wp2_with fail
    go_cut [30] (fun b W => b = .bool (decide (i < K)) ∧ Below (w.heap.size + 1) (w.alloc (.cells #[.int .u64 (nanOf now : Int), .int .i64 (secOf now), .pointer none] 28)) W)
    case first =>
      have hb0 : wr.cell? ⟨w.heap.size, 0, none⟩ = some (.int .u64 (nanOf now : Int)) := by rw [hbel.cell (p := ⟨w.heap.size, 0, none⟩) (by simp)]; simp
      have hb1 : wr.cell? ⟨w.heap.size, 1, none⟩ = some (.int .i64 (secOf now)) := by rw [hbel.cell (p := ⟨w.heap.size, 1, none⟩) (by simp)]; simp
      have hb2 : wr.cell? ⟨w.heap.size, 2, none⟩ = some (.pointer none) := by rw [hbel.cell (p := ⟨w.heap.size, 2, none⟩) (by simp)]; simp
      by_cases him : i < K + m
      · have hMk : Mk wr q (i * 4) (L i) (A i) := ((HM.out i him).below ((Below.refl _ _).alloc (Nat.le_refl _) _) (by omega)).below hbel (by omega)
        have hm1 := hMk.c1
        have hm2 := hMk.c2
        have hm3 := hMk.c3
        have hg : decide ((i : Int) < (K : Int) + (m : Int)) = true := decide_eq_true (by omega)
        have hd : decide (within ≤ now - A i) = decide (i < K) := by
          by_cases hiK : i < K
          · rw [decide_eq_true hiK, decide_eq_true (H1.out i hiK)]
          · obtain rfl : i = K := by omega
            rw [decide_eq_false hiK, decide_eq_false (Int.not_le.mpr (H2.out (by omega)))]
        have HSub : Hid (∀ w, Calls Yba.prog 8 #[.agg #[.int .u64 (nanOf now : Int), .int .i64 (secOf now), .pointer none], .agg #[.int .u64 (nanOf (A i) : Int), .int .i64 (secOf (A i)), .pointer none]] w fun e w' => e = .returned (.int .i64 (now - A i)) ∧ Below w.heap.size w w') := fun w => HS.out i him w
        have hd2 : Hid (decide (within ≤ now - A i) = decide (i < K)) := hd
        have hbelH : Hid (Below (w.heap.size + 1) (w.alloc (.cells #[.int .u64 (nanOf now : Int), .int .i64 (secOf now), .pointer none] 28)) wr) := hbel
        clear hMk hd hbel hc hf hi
        go_region_with (go_at_call 8; refine (HSub.out _).mono ?_; rintro e w2 ⟨rfl, hb2'⟩)
        all_goals (go_wp2_with fail; go_meet; exact ⟨congrArg Value.bool hd2.out, (hbelH.out.drew).trans (hb2'.mono hzr)⟩)
      · have hiK : ¬ i < K := by omega
        have hg : decide ((i : Int) < (K : Int) + (m : Int)) = false := decide_eq_false (by omega)
        go_quiet (fail)
        go_wp2_with fail
        go_meet
        exact ⟨by rw [decide_eq_false hiK], hbel.trans ⟨rfl, rfl, rfl, Nat.le_refl _, fun _ _ => rfl⟩⟩
    case rest =>
      obtain ⟨rfl, hbc⟩ := hcut
      clear hcp hbel hzr
      by_cases hiK : i < K
      · rw [decide_eq_true hiK]
        go_wp2
        exact ⟨⟨i + 1, by omega, by go_num, hbc⟩, by simp [intOf]; omega⟩
      · rw [decide_eq_false hiK]
        obtain rfl : i = K := by omega
        have hzc : w.heap.size + 1 ≤ wc.heap.size := by have := hbc.size; simp at this; omega
        have hcp : wc.cell? ⟨p, 20, none⟩ = some (.slice (some ⟨q, 0, none⟩) (i + m) (i + m)) := by rw [hbc.cell (p := ⟨p, 20, none⟩) (by show p < _; omega), World.cell?_alloc_lt _ _ _ hpw]; exact hc
        have hfp : wc.frozen? ⟨p, 20, none⟩ = false := by rw [hbc.frozen (p := ⟨p, 20, none⟩) (by show p < _; omega), World.frozen?_alloc_old _ _ _ (by show p ≠ _; omega)]; exact hf
        have hall : Hid (Below p w wc) := ((Below.refl _ _).alloc (by omega) _).trans (hbc.mono (by omega))
        have HMc : Hid (∀ r, r < i + m → Mk wc q (r * 4) (L r) (A r)) := fun r hr => ((HM.out r hr).below ((Below.refl _ _).alloc (Nat.le_refl _) _) (by omega)).below hbc (by omega)
        have hb0 : wc.cell? ⟨w.heap.size, 0, none⟩ = some (.int .u64 (nanOf now : Int)) := by rw [hbc.cell (p := ⟨w.heap.size, 0, none⟩) (by simp)]; simp
        have hb1 : wc.cell? ⟨w.heap.size, 1, none⟩ = some (.int .i64 (secOf now)) := by rw [hbc.cell (p := ⟨w.heap.size, 1, none⟩) (by simp)]; simp
        have hb2 : wc.cell? ⟨w.heap.size, 2, none⟩ = some (.pointer none) := by rw [hbc.cell (p := ⟨w.heap.size, 2, none⟩) (by simp)]; simp
        clear hc hf HM H1 H2 hbc hiK hi
        have hpn : ¬ p = w.heap.size := by omega
        have hpq : ¬ p = q := by omega
        obtain ⟨W0, rfl⟩ : ∃ W0, W0 = wc := ⟨wc, rfl⟩
        have hcp0 := hcp
        have hfp0 := hfp
        have hb00 := hb0
        have hb10 := hb1
        have hb20 := hb2
        cases m with
        | zero =>
          have hadd := HAdd0.out rfl
          subst hadd
          go_wp2
          go_cut [64] (fun b W => b = .bool true ∧ Below (w.heap.size + 1) (W0.setCell ⟨p, 20, none⟩ (.slice (some ⟨q, 0, none⟩) 0 0)) W)
          case first =>
            go_quiet (fail)
            go_wp2_with fail
            go_meet
            exact ⟨rfl, ⟨rfl, rfl, rfl, Nat.le_refl _, fun _ _ => rfl⟩⟩
          case rest =>
            clear hcp hfp hb0 hb1 hb2
            obtain ⟨rfl, hbW⟩ := hcut
            have hzW : w.heap.size + 1 ≤ wc.heap.size := by have := hbW.size; simp at this; omega
            have hcp : wc.cell? ⟨p, 20, none⟩ = some (.slice (some ⟨q, 0, none⟩) 0 0) := by rw [hbW.cell (p := ⟨p, 20, none⟩) (by show p < _; omega)]; simp [World.cell?_setCell_same, hcp0]
            have hfp : wc.frozen? ⟨p, 20, none⟩ = false := by rw [hbW.frozen (p := ⟨p, 20, none⟩) (by show p < _; omega)]; simpa using hfp0
            have hb0 : wc.cell? ⟨w.heap.size, 0, none⟩ = some (.int .u64 (nanOf now : Int)) := by rw [hbW.cell (p := ⟨w.heap.size, 0, none⟩) (by simp)]; rw [World.cell?_setCell_far _ _ _ _ hpn]; exact hb00
            have hb1 : wc.cell? ⟨w.heap.size, 1, none⟩ = some (.int .i64 (secOf now)) := by rw [hbW.cell (p := ⟨w.heap.size, 1, none⟩) (by simp)]; rw [World.cell?_setCell_far _ _ _ _ hpn]; exact hb10
            have hb2 : wc.cell? ⟨w.heap.size, 2, none⟩ = some (.pointer none) := by rw [hbW.cell (p := ⟨w.heap.size, 2, none⟩) (by simp)]; rw [World.cell?_setCell_far _ _ _ _ hpn]; exact hb20
            have hallW : Hid (Below p w wc) := (hall.out.setCell (by show p ≤ p; omega) _).trans (hbW.mono (by omega))
            have HMW : Hid (∀ r, r < 0 → Mk wc q (0 + r * 4) (L (i + r)) (A (i + r))) := fun r hr => absurd hr (by omega)
            clear HMc hbW hall hcp0 hfp0 hb00 hb10 hb20
            go_wp2
            have hpW : p < wc.heap.size := by omega
            go_region_law (refine step_append_grows rfl (.tmp 69) (.tmp 73) 24 rfl 31 i0 (.agg #[.int .i64 0, .int .u64 0, .int .i64 0, .pointer none]) 4 32 Yba.underlying24 HI.out.1 HI.out.2.1 HI.out.2.2.1 HI.out.2.2.2 rfl (by decide) (some ⟨q, 0, none⟩) 0 0 (cellsOf (fun r => L (i + r)) (fun r => A (i + r)) 0) (by simp [Act.eval]) (by intro h; cases h) (cellsOf_len _ _ _) (by intro b hb j u hj; cases hb; exact cells_of_marks (fun r hr => (HMW.out r hr).below (B := wc.heap.size) (((Below.refl _ _).alloc (Nat.le_refl _) _).drew) (by omega)) j u hj) ⟨wc.heap.size, 0, none⟩ 1 1 [mc len now 0, mc len now 1, mc len now 2, mc len now 3] (by simp [Act.eval]) rfl (by exact new_cells _ _ _) (by exact one_cells _ _) (by omega) (by exact len_ok _ (by omega)) (by omega) ?_; intro v' w' hown hgrow; obtain ⟨g, cap, rfl⟩ := ownsRow_succ hown; have hbN : Below wc.heap.size wc w' := (((Below.refl _ _).alloc (Nat.le_refl _) _).drew).grown hgrow (by simp) (by intro k hk; cases hk); have hcN := (hbN.cell (p := ⟨p, 20, none⟩) hpW).trans hcp; have hfN := (hbN.frozen (p := ⟨p, 20, none⟩) hpW).trans hfp)
            all_goals
              go_end0
              refine ⟨rfl, ((hallW.out.trans (hbN.mono (by omega))).setCell (by show p ≤ p; omega) _), g, 0, cap, by simp [World.cell?_setCell_same, hcN], ?_⟩
              exact marks_of_own (ownsRow_setCell_below hown (a := ⟨p, 20, none⟩) (by show p < _; simp; omega) (.slice (some ⟨g, 0, none⟩) (0 + 1) cap))

        | succ t =>
          have hadd : decide (w8 ≤ now - A (i + t)) = add := HAdd.out (by omega)
          go_wp2
          go_cut [64] (fun b W => b = .bool add ∧ Below (w.heap.size + 1) (W0.setCell ⟨p, 20, none⟩ (.slice (some ⟨q, i * 4, none⟩) (t + 1) (t + 1))) W)
          case first =>
            have hMk := HMc.out (i + t) (by omega)
            have hm1 : W0.cell? ⟨q, i * 4 + t * 4 + 1, none⟩ = some (.int .u64 (nanOf (A (i + t)) : Int)) := by rw [← Nat.add_mul]; exact hMk.c1
            have hm2 : W0.cell? ⟨q, i * 4 + t * 4 + 2, none⟩ = some (.int .i64 (secOf (A (i + t)))) := by rw [← Nat.add_mul]; exact hMk.c2
            have hm3 : W0.cell? ⟨q, i * 4 + t * 4 + 3, none⟩ = some (.pointer none) := by rw [← Nat.add_mul]; exact hMk.c3
            have HSub : Hid (∀ w, Calls Yba.prog 8 #[.agg #[.int .u64 (nanOf now : Int), .int .i64 (secOf now), .pointer none], .agg #[.int .u64 (nanOf (A (i + t)) : Int), .int .i64 (secOf (A (i + t))), .pointer none]] w fun e w' => e = .returned (.int .i64 (now - A (i + t))) ∧ Below w.heap.size w w') := fun w => HS.out (i + t) (by omega) w
            have haddH : Hid (decide (w8 ≤ now - A (i + t)) = add) := hadd
            have hg : decide ((t : Int) + 1 = 0) = false := decide_eq_false (by omega)
            generalize hX : W0.setCell ⟨p, 20, none⟩ (.slice (some ⟨q, i * 4, none⟩) (t + 1) (t + 1)) = X
            have x0 : X.cell? ⟨p, 20, none⟩ = some (.slice (some ⟨q, i * 4, none⟩) (t + 1) (t + 1)) := by rw [← hX]; simp [World.cell?_setCell_same, hcp0]
            have x1 : X.cell? ⟨w.heap.size, 0, none⟩ = some (.int .u64 (nanOf now : Int)) := by rw [← hX, World.cell?_setCell_far _ _ _ _ hpn]; exact hb00
            have x2 : X.cell? ⟨w.heap.size, 1, none⟩ = some (.int .i64 (secOf now)) := by rw [← hX, World.cell?_setCell_far _ _ _ _ hpn]; exact hb10
            have x3 : X.cell? ⟨w.heap.size, 2, none⟩ = some (.pointer none) := by rw [← hX, World.cell?_setCell_far _ _ _ _ hpn]; exact hb20
            have x4 : X.cell? ⟨q, i * 4 + t * 4 + 1, none⟩ = some (.int .u64 (nanOf (A (i + t)) : Int)) := by rw [← hX, World.cell?_setCell_far _ _ _ _ hpq]; exact hm1
            have x5 : X.cell? ⟨q, i * 4 + t * 4 + 2, none⟩ = some (.int .i64 (secOf (A (i + t)))) := by rw [← hX, World.cell?_setCell_far _ _ _ _ hpq]; exact hm2
            have x6 : X.cell? ⟨q, i * 4 + t * 4 + 3, none⟩ = some (.pointer none) := by rw [← hX, World.cell?_setCell_far _ _ _ _ hpq]; exact hm3
            have hzX : w.heap.size + 1 ≤ X.heap.size := by rw [← hX]; simpa using hzc
            have HQ : Hid (q < w.heap.size + 1) := by show q < _; omega
            have HP : Hid (p < w.heap.size + 1) := by show p < _; omega
            have HX : Hid (W0.setCell ⟨p, 20, none⟩ (.slice (some ⟨q, i * 4, none⟩) (t + 1) (t + 1)) = X) := hX
            have hfin : Hid (((t : Int) + 1 == 0 || decide (IntKind.i64.wrap w8 ≤ now - A (i + t))) = add) := by
              show _ = _
              rw [show IntKind.i64.wrap w8 = w8 from (IntWalk.i64_left _).trans hw8.out, haddH.out, show ((t : Int) + 1 == 0) = false from by simp; omega]
              rfl
            clear hX hMk hm1 hm2 hm3 hadd HAdd HAdd0 HS HMc HI hfp hfp0 hcp hcp0 hb0 hb1 hb2 hb00 hb10 hb20 hall hzc hpn hpq hqp hpw
            have hqX : q < w.heap.size + 1 := HQ.out
            have hpX : p < w.heap.size + 1 := HP.out
            have hi1 : (0 : Int) ≤ (t : Int) := by omega
            have hi2 : (t : Int) < (t : Int) + 1 := by omega
            have hi3 : (t : Int) + 1 - 1 = (t : Int) := by omega
            have hi4 : IntKind.i64.wrap (t : Int) = (t : Int) := (IntWalk.i64_left _).trans (w64 _ (by omega) (by omega))
            go_region_held (fun w' => w'.cell? ⟨p, 20, none⟩ = some (.slice (some ⟨q, i * 4, none⟩) (t + 1) (t + 1)) ∧ w'.cell? ⟨w.heap.size, 0, none⟩ = some (.int .u64 (nanOf now : Int)) ∧ w'.cell? ⟨w.heap.size, 1, none⟩ = some (.int .i64 (secOf now)) ∧ w'.cell? ⟨w.heap.size, 2, none⟩ = some (.pointer none) ∧ w'.cell? ⟨q, i * 4 + t * 4 + 1, none⟩ = some (.int .u64 (nanOf (A (i + t)) : Int)) ∧ w'.cell? ⟨q, i * 4 + t * 4 + 2, none⟩ = some (.int .i64 (secOf (A (i + t)))) ∧ w'.cell? ⟨q, i * 4 + t * 4 + 3, none⟩ = some (.pointer none))
              (first | exact ⟨x0, x1, x2, x3, x4, x5, x6⟩ | exact ⟨(hb2'.cell (p := ⟨p, 20, none⟩) (Nat.lt_of_lt_of_le hpX hzX)).trans x0, (hb2'.cell (p := ⟨w.heap.size, 0, none⟩) hzX).trans x1, (hb2'.cell (p := ⟨w.heap.size, 1, none⟩) hzX).trans x2, (hb2'.cell (p := ⟨w.heap.size, 2, none⟩) hzX).trans x3, (hb2'.cell (p := ⟨q, i * 4 + t * 4 + 1, none⟩) (Nat.lt_of_lt_of_le hqX hzX)).trans x4, (hb2'.cell (p := ⟨q, i * 4 + t * 4 + 2, none⟩) (Nat.lt_of_lt_of_le hqX hzX)).trans x5, (hb2'.cell (p := ⟨q, i * 4 + t * 4 + 3, none⟩) (Nat.lt_of_lt_of_le hqX hzX)).trans x6⟩)
              (first | (go_at_call 8; refine (HSub.out _).mono ?_; rintro e w2 ⟨rfl, hb2'⟩))
            all_goals (go_wp2_with fail; go_meet; exact ⟨congrArg Value.bool hfin.out, by rw [HX.out]; exact ((Below.refl _ _).drew).trans (hb2'.mono hzX)⟩)
          case rest =>
            clear hcp hfp hb0 hb1 hb2
            obtain ⟨rfl, hbW⟩ := hcut
            have hzW : w.heap.size + 1 ≤ wc.heap.size := by have := hbW.size; simp at this; omega
            have hcp : wc.cell? ⟨p, 20, none⟩ = some (.slice (some ⟨q, i * 4, none⟩) (t + 1) (t + 1)) := by rw [hbW.cell (p := ⟨p, 20, none⟩) (by show p < _; omega)]; simp [World.cell?_setCell_same, hcp0]
            have hfp : wc.frozen? ⟨p, 20, none⟩ = false := by rw [hbW.frozen (p := ⟨p, 20, none⟩) (by show p < _; omega)]; simpa using hfp0
            have hb0 : wc.cell? ⟨w.heap.size, 0, none⟩ = some (.int .u64 (nanOf now : Int)) := by rw [hbW.cell (p := ⟨w.heap.size, 0, none⟩) (by simp)]; rw [World.cell?_setCell_far _ _ _ _ hpn]; exact hb00
            have hb1 : wc.cell? ⟨w.heap.size, 1, none⟩ = some (.int .i64 (secOf now)) := by rw [hbW.cell (p := ⟨w.heap.size, 1, none⟩) (by simp)]; rw [World.cell?_setCell_far _ _ _ _ hpn]; exact hb10
            have hb2 : wc.cell? ⟨w.heap.size, 2, none⟩ = some (.pointer none) := by rw [hbW.cell (p := ⟨w.heap.size, 2, none⟩) (by simp)]; rw [World.cell?_setCell_far _ _ _ _ hpn]; exact hb20
            have hallW : Hid (Below p w wc) := (hall.out.setCell (by show p ≤ p; omega) _).trans (hbW.mono (by omega))
            have HMW : Hid (∀ r, r < (t + 1) → Mk wc q (i * 4 + r * 4) (L (i + r)) (A (i + r))) := fun r hr => by
              have h := (((HMc.out (i + r) (by omega)).below (B := p) ((Below.refl _ _).setCell (p := ⟨p, 20, none⟩) (by show p ≤ p; omega) (.slice (some ⟨q, i * 4, none⟩) (t + 1) (t + 1))) (by omega)).below hbW (by omega))
              rw [Nat.add_mul] at h
              exact h
            clear HMc hbW hall hcp0 hfp0 hb00 hb10 hb20
            cases add with
            | false =>
              go_wp2
              go_end0
              exact ⟨rfl, hallW.out, q, i * 4, t + 1, hcp, fun r hr => by
                have hr : r < t + 1 := hr
                show Mk _ _ _ (if r < t + 1 then _ else _) (if r < t + 1 then _ else _)
                rw [if_pos hr, if_pos hr]
                exact HMW.out r hr⟩
            | true =>
              go_wp2
              have hpW : p < wc.heap.size := by omega
              go_region_law (refine step_append_grows rfl (.tmp 69) (.tmp 73) 24 rfl 31 i0 (.agg #[.int .i64 0, .int .u64 0, .int .i64 0, .pointer none]) 4 32 Yba.underlying24 HI.out.1 HI.out.2.1 HI.out.2.2.1 HI.out.2.2.2 rfl (by decide) (some ⟨q, i * 4, none⟩) (t + 1) (t + 1) (cellsOf (fun r => L (i + r)) (fun r => A (i + r)) (t + 1)) (by simp [Act.eval]) (by intro h; cases h) (cellsOf_len _ _ _) (by intro b hb j u hj; cases hb; exact cells_of_marks (fun r hr => (HMW.out r hr).below (B := wc.heap.size) (((Below.refl _ _).alloc (Nat.le_refl _) _).drew) (by omega)) j u hj) ⟨wc.heap.size, 0, none⟩ 1 1 [mc len now 0, mc len now 1, mc len now 2, mc len now 3] (by simp [Act.eval]) rfl (by exact new_cells _ _ _) (by exact one_cells _ _) (by omega) (by exact len_ok _ (by omega)) (by omega) ?_; intro v' w' hown hgrow; obtain ⟨g, cap, rfl⟩ := ownsRow_succ hown; have hbN : Below wc.heap.size wc w' := (((Below.refl _ _).alloc (Nat.le_refl _) _).drew).grown hgrow (by simp) (by intro k hk; cases hk); have hcN := (hbN.cell (p := ⟨p, 20, none⟩) hpW).trans hcp; have hfN := (hbN.frozen (p := ⟨p, 20, none⟩) hpW).trans hfp)
              all_goals
                go_end0
                refine ⟨rfl, ((hallW.out.trans (hbN.mono (by omega))).setCell (by show p ≤ p; omega) _), g, 0, cap, by simp [World.cell?_setCell_same, hcN], ?_⟩
                exact marks_of_own (ownsRow_setCell_below hown (a := ⟨p, 20, none⟩) (by show p < _; simp; omega) (.slice (some ⟨g, 0, none⟩) ((t + 1) + 1) cap))

end Go.Proofs.Ybulkteo
