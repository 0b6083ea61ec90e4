import Derived.Test.YbulksuiWd
import Derived.Deep.RegionWith
namespace Go.Proofs.Ybulksui
open Go.ChangeShapes Go.WideShapes Go.ChangeAt Go.RowKit

attribute [local go_sem] run_store_float

theorem run_bits (x : Nat) (w : World) : (callFunc 9 #[.float .f64 x]).run Yba.prog w = .ok (.value (.int .u64 (x : Int))) w := by
  rw [run_callFunc_extern Yba.func9 (by kernel_rfl) (by kernel_rfl) (by kernel_rfl) (e := Extern.MathFloatBits.float64bits) (by kernel_rfl)]
  rfl

theorem same_any (x : Nat) (w : World) :
    Calls Yba.prog 8 #[.float .f64 x, .float .f64 x] w fun e w' => e = .returned (.bool true) ∧ w' = w := by
  have hr := run_bits
  go_enter Yba.func8, Yba.ntmps8
  go_wp2
  go_ret
  exact ⟨rfl, rfl⟩

set_option maxRecDepth 100000 in
set_option maxHeartbeats 4000000 in
theorem ceq_any (a b c d : Nat) (p : Bool) (w : World) :
    Calls Yba.prog 7 #[.agg #[.float .f64 a, .float .f64 b, .float .f64 c, .float .f64 d, .bool p], .agg #[.float .f64 a, .float .f64 b, .float .f64 c, .float .f64 d, .bool p]] w fun e w' =>
      e = .returned (.bool true) ∧ Below w.heap.size w w' := by
  go_enter Yba.func7, Yba.ntmps7
  go_wp2_with (go_at_call 8; refine (same_any _ _).mono ?_; rintro e w' ⟨rfl, rfl⟩)
  go_ret
  refine ⟨by simp, ?_⟩
  go_grown

theorem bcell {W w1 : World} (hb : Below W.heap.size W w1) : (∀ b o, b < W.heap.size → w1.cell? ⟨b, o, none⟩ = W.cell? ⟨b, o, none⟩) ∧ (∀ b o, b < W.heap.size → w1.frozen? ⟨b, o, none⟩ = W.frozen? ⟨b, o, none⟩) :=
  ⟨fun b o h => hb.cell (p := ⟨b, o, none⟩) h, fun b o h => hb.frozen (p := ⟨b, o, none⟩) h⟩

set_option maxRecDepth 100000 in
set_option maxHeartbeats 4000000 in
theorem fields (a b c d : Nat) (p : Bool) (w : World) :
    Calls Yba.prog 3 #[.float .f64 a, .float .f64 b, .float .f64 c, .float .f64 d, .bool p] w fun e w' =>
      e = .returned (.bool true) ∧ Below w.heap.size w w' := by
  go_enter Yba.func3, Yba.ntmps3
  go_wp2_with fail
  refine (wd _ _ _ _ _ _).mono ?_
  rintro e w1 ⟨rfl, hb1⟩
  obtain ⟨hc1, hf1⟩ := bcell hb1
  have hz1 : w.heap.size < w1.heap.size := by have := hb1.size; simp at this; omega
  have hn1 : ¬ w.heap.size = w1.heap.size := by omega
  have hb := (((Below.refl _ w).alloc (Nat.le_refl _) _).trans (hb1.mono (by simp)))
  clear hb1
  go_wp2_with (go_at_call 6; refine (pick_any _ _ _).mono ?_; rintro e w' ⟨rfl, rfl⟩)
  refine (ceq_any _ _ _ _ _ _).mono ?_
  rintro e w2 ⟨rfl, hb2⟩
  obtain ⟨hc2, hf2⟩ := bcell hb2
  have hz2 : w.heap.size < w1.heap.size + 1 + 1 := by omega
  simp only [World.size_alloc] at hc2 hf2
  go_wp2_with (go_at_call 8; refine (same_any _ _).mono ?_; rintro e w' ⟨rfl, rfl⟩)
  go_ret
  exact ⟨rfl, ((hb.alloc hb.size _).alloc (by simp; omega) _).trans (hb2.mono (by simp; omega))⟩

theorem pick_nz (x d : Nat) (h : (FloatKind.f64.format.order d 0 == some .eq) = false) : (FloatKind.f64.format.order (pick x d) 0 == some .eq) = false := by
  cases hx : (FloatKind.f64.format.order x 0 == some .eq)
  · rw [pick_f _ hx]; exact hx
  · rw [pick_t _ hx]; exact h

theorem wd_nz (a b c d : Nat) (p : Bool) (w : World) :
    Calls Yba.prog 5 #[.agg #[.float .f64 a, .float .f64 b, .float .f64 c, .float .f64 d, .bool p]] w fun e w' =>
      ∃ a' b' c' d', e = .returned (.agg #[.float .f64 a', .float .f64 b', .float .f64 c', .float .f64 d', .bool p]) ∧
        (FloatKind.f64.format.order a' 0 == some .eq) = false ∧ (FloatKind.f64.format.order b' 0 == some .eq) = false ∧ (FloatKind.f64.format.order c' 0 == some .eq) = false ∧ (FloatKind.f64.format.order d' 0 == some .eq) = false ∧ Below w.heap.size w w' :=
  (wd a b c d p w).mono fun _ _ ⟨he, hb⟩ => ⟨_, _, _, _, he, pick_nz _ _ (by decide +kernel), pick_nz _ _ (by decide +kernel), pick_nz _ _ (by decide +kernel), pick_nz _ _ (by decide +kernel), hb⟩

theorem wd_same (a b c d : Nat) (p : Bool) (w : World) (ha : (FloatKind.f64.format.order a 0 == some .eq) = false) (hb : (FloatKind.f64.format.order b 0 == some .eq) = false) (hc : (FloatKind.f64.format.order c 0 == some .eq) = false) (hd : (FloatKind.f64.format.order d 0 == some .eq) = false) :
    Calls Yba.prog 5 #[.agg #[.float .f64 a, .float .f64 b, .float .f64 c, .float .f64 d, .bool p]] w fun e w' =>
      e = .returned (.agg #[.float .f64 a, .float .f64 b, .float .f64 c, .float .f64 d, .bool p]) ∧ Below w.heap.size w w' := by
  have h := wd a b c d p w
  rw [pick_f _ ha, pick_f _ hb, pick_f _ hc, pick_f _ hd] at h
  exact h

set_option maxRecDepth 100000 in
set_option maxHeartbeats 4000000 in
theorem idem (a b c d : Nat) (p : Bool) (w : World) :
    Calls Yba.prog 4 #[.float .f64 a, .float .f64 b, .float .f64 c, .float .f64 d, .bool p] w fun e w' =>
      e = .returned (.bool true) ∧ Below w.heap.size w w' := by
  go_enter Yba.func4, Yba.ntmps4
  go_wp2_with fail
  refine (wd_nz _ _ _ _ _ _).mono ?_
  rintro e w1 ⟨a', b', c', d', rfl, ha, hb', hc, hd, hb1⟩
  have hz1 : w.heap.size < w1.heap.size := by have := hb1.size; simp at this; omega
  have hb := (((Below.refl _ w).alloc (Nat.le_refl _) _).trans (hb1.mono (by simp)))
  clear hb1
  go_wp2_with fail
  go_region_with (first
    | (go_at_call 5; refine (wd_same _ _ _ _ _ _ ha hb' hc hd).mono ?_; rintro e w2 ⟨rfl, hb2⟩; obtain ⟨hc2, hf2⟩ := bcell hb2; have hz2 : w1.heap.size + 1 ≤ w2.heap.size := (by have := hb2.size; simp at this; omega); simp only [World.size_drew, World.size_alloc] at hc2 hf2)
    | (go_at_call 7; refine (ceq_any _ _ _ _ _ _).mono ?_; rintro e w3 ⟨rfl, hb3⟩))
  all_goals
    go_wp2
    go_ret
    exact ⟨rfl, (((hb.alloc hb.size _).drew.trans (hb2.mono (by simp; omega))).trans (hb3.mono (by omega)))⟩
end Go.Proofs.Ybulksui
