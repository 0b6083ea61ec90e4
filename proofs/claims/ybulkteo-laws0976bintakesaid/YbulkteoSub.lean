import Derived.Test.YbulkteoAdd
import Derived.Deep.RegionHeld
namespace Go.Proofs.Ybulkteo
open Go.ChangeShapes Go.WideShapes Go.ChangeAt Go.RowKit

theorem add_zero (w : World) (d : Int) (hd1 : -20000000000 ≤ d) (hd2 : d ≤ 20000000000) :
    Calls Yba.prog 7 #[.agg #[.int .u64 0, .int .i64 0, .pointer none], .int .i64 d] w fun e w' => e = .returned (T d) ∧ Below w.heap.size w w' := by
  have h := add_any w 0 d (by omega) (by omega) hd1 hd2
  rw [Int.zero_add] at h
  exact h

theorem T_form (a : Int) : ∃ n : Nat, (n : Int) = a % 1000000000 ∧ n < 1000000000 ∧ T a = tm (a / 1000000000) n :=
  ⟨(a % 1000000000).toNat, by omega, by omega, rfl⟩

set_option maxRecDepth 100000 in
set_option maxHeartbeats 2000000 in
theorem at_any (w : World) (x : Int) (h1 : -2147483648 ≤ x) (h2 : x ≤ 2147483647) :
    Calls Yba.prog 4 #[.int .i32 x] w fun e w' => e = .returned (T x) ∧ Below w.heap.size w w' := by
  have HA : Hid (∀ w, Calls Yba.prog 7 #[.agg #[.int .u64 0, .int .i64 0, .pointer none], .int .i64 x] w fun e w' => e = .returned (T x) ∧ Below w.heap.size w w') := fun w => add_zero w x (by omega) (by omega)
  obtain ⟨n, hn1, hn2, hT⟩ := T_form x
  clear hn1 hn2
  rw [hT] at HA ⊢
  generalize x / 1000000000 = s at *
  clear hT
  unfold tm at *
  go_enter Yba.func4, Yba.ntmps4
  go_wp2_with fail
  refine (HA.out _).mono ?_
  rintro e w1 ⟨rfl, hb⟩
  have hz : w.heap.size < w1.heap.size := by have := hb.size; simp at this; omega
  have hc : ∀ o, w1.cell? ⟨w.heap.size, o, none⟩ = _ := fun o => hb.cell (p := ⟨w.heap.size, o, none⟩) (by simp)
  have hf : ∀ o, w1.frozen? ⟨w.heap.size, o, none⟩ = _ := fun o => hb.frozen (p := ⟨w.heap.size, o, none⟩) (by simp)
  go_wp2
  refine bodyPost_ret (v := .agg #[.int .u64 (n : Int), .int .i64 s, .pointer none]) (by simp [results, Yba.results4, go_sem, hc]) rfl ⟨rfl, ?_⟩
  exact ((((((Below.refl _ _).alloc (Nat.le_refl _) _).trans (hb.mono (by simp))).setCell (Nat.le_refl _) _).setCell (Nat.le_refl _) _).setCell (Nat.le_refl _) _)

theorem and_self64 (n : Nat) (h : n < 1000000000) : bits BinOp.and IntKind.u64 (n : Int) (n : Int) = (n : Int) := by
  rw [u64_and_nat n n (by omega) (by omega), Nat.and_self]

theorem and_mono (n m : Nat) (h : n < 1000000000) (h' : m < 1000000000) : (bits BinOp.and IntKind.u64 (bits BinOp.and IntKind.u64 (n : Int) (m : Int)) 9223372036854775808 != 0) = false := by
  rw [u64_and_nat n m (by omega) (by omega)]
  exact mono_off _ (Nat.lt_of_le_of_lt Nat.and_le_left h)

theorem bcell {W w1 : World} (hb : Below W.heap.size W w1) : (∀ b o, b < W.heap.size → w1.cell? ⟨b, o, none⟩ = W.cell? ⟨b, o, none⟩) ∧ (∀ b o, b < W.heap.size → w1.frozen? ⟨b, o, none⟩ = W.frozen? ⟨b, o, none⟩) :=
  ⟨fun b o h => hb.cell (p := ⟨b, o, none⟩) h, fun b o h => hb.frozen (p := ⟨b, o, none⟩) h⟩

set_option maxRecDepth 100000 in
set_option maxHeartbeats 2000000 in
theorem equal_same (w : World) (s : Int) (n : Nat) (hn : n < 1000000000) :
    Calls Yba.prog 6 #[tm s n, tm s n] w fun e w' => e = .returned (.bool true) ∧ Below w.heap.size w w' := by
  have HN : Hid (n < 1000000000) := hn
  have hm := and_mono n n hn hn
  clear hn
  unfold tm
  go_enter Yba.func6, Yba.ntmps6
  go_wp2_with fail
  refine (sec_any _ _ s n HN.out ?_ ?_).mono ?_
  · simp
  · simp
  rintro e w1 ⟨rfl, rfl⟩
  go_wp2_with fail
  refine (sec_any _ _ s n HN.out ?_ ?_).mono ?_
  · simp
  · simp
  rintro e w1 ⟨rfl, rfl⟩
  go_wp2_with fail
  refine (nsec_any _ _ n HN.out ?_).mono ?_
  · simp
  rintro e w1 ⟨rfl, rfl⟩
  go_wp2_with fail
  refine (nsec_any _ _ n HN.out ?_).mono ?_
  · simp
  rintro e w1 ⟨rfl, rfl⟩
  go_wp2
  go_ret
  exact ⟨by simp, ((Below.refl _ _).alloc (Nat.le_refl _) _).alloc (by simp) _⟩

set_option maxRecDepth 100000 in
set_option maxHeartbeats 2000000 in
theorem sub_core (w : World) (s1 s2 D e32 : Int) (n1 n2 : Nat) (HN1 : Hid (n1 < 1000000000)) (HN2 : Hid (n2 < 1000000000)) (hs1 : -100 ≤ s1) (hs1' : s1 ≤ 100) (hs2 : -100 ≤ s2) (hs2' : s2 ≤ 100)
    (he : wrap32 ((n1 : Int) - (n2 : Int)) = e32) (he2 : wrap64 e32 = e32) (hD : wrap64 ((s1 - s2) * 1000000000 + e32) = D)
    (HA : Hid (∀ w, Calls Yba.prog 7 #[tm s2 n2, .int .i64 D] w fun e w' => e = .returned (tm s1 n1) ∧ Below w.heap.size w w')) :
    Calls Yba.prog 8 #[tm s1 n1, tm s2 n2] w fun e w' => e = .returned (.int .i64 D) ∧ Below w.heap.size w w' := by
  have hm := and_mono n1 n2 HN1.out HN2.out
  have HE : Hid (∀ w, Calls Yba.prog 6 #[tm s1 n1, tm s1 n1] w fun e w' => e = .returned (.bool true) ∧ Below w.heap.size w w') := fun w => equal_same w s1 n1 HN1.out
  unfold tm at *
  go_enter Yba.func8, Yba.ntmps8
  go_wp2_with fail
  refine (sec_any _ _ s1 n1 HN1.out ?_ ?_).mono ?_
  · simp
  · simp
  rintro e w1 ⟨rfl, rfl⟩
  go_wp2_with fail
  refine (sec_any _ _ s2 n2 HN2.out ?_ ?_).mono ?_
  · simp
  · simp
  rintro e w1 ⟨rfl, rfl⟩
  go_wp2_with fail
  refine (nsec_any _ _ n1 HN1.out ?_).mono ?_
  · simp
  rintro e w1 ⟨rfl, rfl⟩
  go_wp2_with fail
  refine (nsec_any _ _ n2 HN2.out ?_).mono ?_
  · simp
  rintro e w1 ⟨rfl, rfl⟩
  go_wp2_with fail
  go_region_with (first
    | (go_at_call 7; refine (HA.out _).mono ?_; rintro e w2 ⟨rfl, hb2⟩; obtain ⟨hc2, hf2⟩ := bcell hb2; have hz2 : w.heap.size + 2 ≤ w2.heap.size := (by have := hb2.size; simp at this; omega); simp only [World.size_drew, World.size_alloc] at hc2 hf2)
    | (go_at_call 6; refine (HE.out _).mono ?_; rintro e w3 ⟨rfl, hb3⟩))
  all_goals
    go_wp2
    go_ret
    exact ⟨rfl, (((((Below.refl _ w).alloc (Nat.le_refl _) _).alloc (by simp) _).drew).trans (hb2.mono (by simp; omega))).trans (hb3.mono (by omega))⟩

theorem sub_num (a b s1 s2 n1 n2 : Int) (h1 : a = 1000000000 * s1 + n1) (h2 : b = 1000000000 * s2 + n2) : (s1 - s2) * 1000000000 + (n1 - n2) = a - b := by omega

theorem w64 (r : Int) (h1 : -9000000000000 < r) (h2 : r < 9000000000000) : wrap64 r = r := by unfold wrap64; omega

theorem sub_any (w : World) (a b : Int) (ha1 : -5000000000 ≤ a) (ha2 : a ≤ 5000000000) (hb1 : -5000000000 ≤ b) (hb2 : b ≤ 5000000000) :
    Calls Yba.prog 8 #[T a, T b] w fun e w' => e = .returned (.int .i64 (a - b)) ∧ Below w.heap.size w w' := by
  have hA : ∀ w, Calls Yba.prog 7 #[T b, .int .i64 (a - b)] w fun e w' => e = .returned (T a) ∧ Below w.heap.size w w' := by
    intro w
    have h := add_any w b (a - b) (by omega) (by omega) (by omega) (by omega)
    rw [show b + (a - b) = a from by omega] at h
    exact h
  obtain ⟨n1, hn1, l1, hT1⟩ := T_form a
  obtain ⟨n2, hn2, l2, hT2⟩ := T_form b
  rw [hT1, hT2] at hA ⊢
  have e1 : a = 1000000000 * (a / 1000000000) + n1 := by omega
  have e2 : b = 1000000000 * (b / 1000000000) + n2 := by omega
  have hnum := sub_num a b _ _ _ _ e1 e2
  refine sub_core w _ _ (a - b) ((n1 : Int) - n2) n1 n2 l1 l2 (by omega) (by omega) (by omega) (by omega) (w32 _ (by omega) (by omega)) (w64 _ (by omega) (by omega)) ?_ hA
  rw [hnum]
  exact w64 _ (by omega) (by omega)

theorem equal_any (w : World) (a : Int) : Calls Yba.prog 6 #[T a, T a] w fun e w' => e = .returned (.bool true) ∧ Below w.heap.size w w' := by
  obtain ⟨n, hn, l, hT⟩ := T_form a
  rw [hT]
  exact equal_same w _ n l
end Go.Proofs.Ybulkteo
