import Derived.Test.YbulksvyRows
import Derived.Test.YbulksvyPack
import Derived.WalkKit
import Derived.ProofKit
import Derived.OpenShut
import Derived.Handy
import Derived.WalkSmall
import Derived.BigQuiet
import Derived.Deep.QuietTactic
import Derived.Laws.BitsAllLaws
import Derived.OwnWalk
import Derived.Maps.AppendAt
import Derived.Below
namespace Go.Proofs.Ybulksvy
open Go.ChangeShapes Go.WideShapes Go.ChangeAt Go.RowKit Pk

def vals (xs : List Nat) : List Value := xs.map fun (x : Nat) => Value.int .u8 (x : Int)

/-- What a world holds of the writer at block p: its bytes, in a row of the call's own, and its count. -/
def Wr (W : World) (p : Nat) (xs : List Nat) (c : Int) : Prop :=
  ∃ v, W.cell? ⟨p, 0, none⟩ = some v ∧ W.cell? ⟨p, 1, none⟩ = some (.int .i64 c) ∧ W.frozen? ⟨p, 0, none⟩ = false ∧ W.frozen? ⟨p, 1, none⟩ = false ∧
    W.ownsRow (p + 1) 5 1 v xs.length (vals xs) ∧ p < W.heap.size

theorem info5 : (Yba.prog.info? 5).map (fun i => (i.zero, i.size, i.bytes)) = some (some (.int .u8 0), 1, 1) := by kernel_rfl

theorem row_len (B : Nat → Bool) (t : Nat) : (row B t).length = (t + 7) / 8 := by simp [row]
theorem rowX_len (B : Nat → Bool) (t : Nat) : (rowX B t).length = t / 8 + 1 := by simp [rowX]

theorem own_shape {W : World} {base : Nat} {v : Value} {k : Nat} {xs : List Value} (h : W.ownsRow base 5 1 v (k + 1) xs) :
    ∃ g cap, v = .slice (some ⟨g, 0, none⟩) (k + 1) cap ∧ base ≤ g := by
  rcases h.2 with ⟨_, h0⟩ | ⟨g, cap, cur, rfl, hb, _⟩
  · omega
  · exact ⟨g, cap, rfl, hb⟩

theorem grow_keep {W w3 : World} {p : Nat} {v : Value} {n : Nat} {xs : List Value} (hown : W.ownsRow (p + 1) 5 1 v n xs) (hg : W.grownBy w3 v.ownBlock) (hlt : p < W.heap.size) : Below (p + 1) W w3 :=
  ⟨hg.os, hg.tape, hg.output, hg.size, fun k hk => hg.block k (by omega) (fun e => by have := hown.lt k e.symm; omega)⟩

/-- Behind the append of one byte, and the laying of its literal. -/
theorem grow_facts {wr w3 : World} {p : Nat} {v : Value} {n : Nat} {xs : List Value} {o : Obj} (hown : wr.ownsRow (p + 1) 5 1 v n xs) (hg : (wr.alloc o).grownBy w3 v.ownBlock) (hlt : p < wr.heap.size) :
    Below (p + 1) wr w3 ∧ (∀ k i, k ≤ p → w3.cell? ⟨k, i, none⟩ = wr.cell? ⟨k, i, none⟩) ∧ (∀ k i, k ≤ p → w3.frozen? ⟨k, i, none⟩ = wr.frozen? ⟨k, i, none⟩) := by
  have h := ((Below.refl (p + 1) wr).alloc (by omega) o).trans (grow_keep (hown.alloc o) hg (by simp; omega))
  exact ⟨h, fun k i hk => h.cell (p := ⟨k, i, none⟩) (by show k < p + 1; omega), fun k i hk => h.frozen (p := ⟨k, i, none⟩) (by show k < p + 1; omega)⟩

theorem vals_new (B : Nat → Bool) (t : Nat) (h : t % 8 = 0) : vals (row B t) ++ [.int .u8 0] = vals (rowX B t) := by
  rw [← row_new B t h]; simp [vals]

theorem own_cur {W : World} {base g cap t : Nat} {B : Nat → Bool} (h : W.ownsRow base 5 1 (.slice (some ⟨g, 0, none⟩) (t / 8 + 1) cap) (t / 8 + 1) (vals (rowX B t))) :
    W.cell? ⟨g, t / 8, none⟩ = some (.int .u8 (pb B t (t / 8) : Int)) ∧ W.frozen? ⟨g, t / 8, none⟩ = false := by
  refine ⟨?_, h.frozenAt _⟩
  rw [h.cellAt _ (by omega)]
  simp [vals, rowX]

theorem vals_set (xs : List Nat) (i x : Nat) : (vals xs).set i (.int .u8 (x : Int)) = vals (xs.set i x) := by
  unfold vals; rw [List.map_set]

/-- The writer behind its pointer's store. -/
theorem Wr.of {W : World} {p g cap k : Nat} {xs : List Nat} {c : Int} (h0 : W.cell? ⟨p, 0, none⟩ = some (.slice (some ⟨g, 0, none⟩) k cap)) (h1 : W.cell? ⟨p, 1, none⟩ = some (.int .i64 c))
    (f0 : W.frozen? ⟨p, 0, none⟩ = false) (f1 : W.frozen? ⟨p, 1, none⟩ = false) (own : W.ownsRow (p + 1) 5 1 (.slice (some ⟨g, 0, none⟩) k cap) k (vals xs)) (hk : k = xs.length) (hp : p < W.heap.size) : Wr W p xs c := by
  subst hk
  exact ⟨_, h0, h1, f0, f1, own, hp⟩

/-- The writer behind the next bit's store. -/
theorem Wr.bit {W : World} {p g cap t : Nat} {B : Nat → Bool} {c : Int} (h0 : W.cell? ⟨p, 0, none⟩ = some (.slice (some ⟨g, 0, none⟩) (t / 8 + 1) cap)) (h1 : W.cell? ⟨p, 1, none⟩ = some (.int .i64 c))
    (f0 : W.frozen? ⟨p, 0, none⟩ = false) (f1 : W.frozen? ⟨p, 1, none⟩ = false) (own : W.ownsRow (p + 1) 5 1 (.slice (some ⟨g, 0, none⟩) (t / 8 + 1) cap) (t / 8 + 1) (vals (rowX B t))) (hg : p + 1 ≤ g) (hp : p < W.heap.size)
    (x : Int) (hx : x = ((pb B t (t / 8) + (if B t = true then 2 ^ (7 - t % 8) else 0) : Nat) : Int)) : Wr (W.setCell ⟨g, t / 8, none⟩ (.int .u8 x)) p (row B (t + 1)) c := by
  subst hx
  have hne : ∀ i, (⟨g, t / 8, none⟩ : Addr) ≠ ⟨p, i, none⟩ := fun i e => by have := congrArg Addr.block e; simp at this; omega
  refine Wr.of (g := g) (cap := cap) (k := t / 8 + 1) ?_ ?_ ?_ ?_ ?_ ?_ ?_
  · rw [World.cell?_setCell_other _ _ _ _ (hne 0)]; exact h0
  · rw [World.cell?_setCell_other _ _ _ _ (hne 1)]; exact h1
  · rw [World.frozen?_setCell]; exact f0
  · rw [World.frozen?_setCell]; exact f1
  · have := (own.stored (t / 8) (.int .u8 ((pb B t (t / 8) + (if B t = true then 2 ^ (7 - t % 8) else 0) : Nat) : Int))).1
    rw [vals_set, row_set] at this
    exact this
  · rw [row_len]; omega
  · simpa using hp

theorem or_top (B : Nat → Bool) (t : Nat) (h : B t = true) : bits BinOp.or IntKind.u8 (pb B t (t / 8) : Int) (128 / 2 ^ (t % 8)) = ((pb B t (t / 8) + (if B t = true then 2 ^ (7 - t % 8) else 0) : Nat) : Int) := by
  have e : (128 : Int) / 2 ^ (t % 8) = ((2 ^ (7 - t % 8) : Nat) : Int) := by
    have : ∀ r : Nat, r < 8 → (128 : Int) / 2 ^ r = ((2 ^ (7 - r) : Nat) : Int) := by decide
    exact this _ (by omega)
  have hp : 2 ^ (7 - t % 8) ≤ 2 ^ 7 := Nat.pow_le_pow_right (by omega) (by omega)
  have ho := pb_or B t true
  rw [if_pos rfl] at ho
  rw [e, u8_or_nat _ _ (pb_lt B t _) (by omega), ho, if_pos h]

set_option maxRecDepth 100000 in
set_option maxHeartbeats 4000000 in
theorem build_any (w : World) (b off len cap : Nat) (B : Nat → Bool) (hl : len ≤ 1024) (hb : b < w.heap.size) (hd : ∀ i, i < len → w.cell? ⟨b, off + i, none⟩ = some (.bool (B i))) :
    Calls Yba.prog 12 #[.slice (some ⟨b, off, none⟩) len cap] w fun e w' =>
      e = .returned (.pointer (some ⟨w.heap.size, 0, none⟩)) ∧ Below w.heap.size w w' ∧ Wr w' w.heap.size (row B len) len := by
  obtain ⟨i0, hi, hz0, hz1, hz2⟩ := info_parts info5
  have HD : Hid (∀ i, i < len → w.cell? ⟨b, off + i, none⟩ = some (.bool (B i))) := hd
  clear hd
  go_enter Yba.func12, Yba.ntmps12
  go_wp2
  go_loopw [4] (fun i W => ∃ j : Nat, j ≤ len ∧ i = .int .i64 j ∧ Below w.heap.size w W ∧ Wr W w.heap.size (row B j) 0) (fun i _ => len - (intOf i).toNat)
  case atStart =>
    refine ⟨0, Nat.zero_le _, rfl, (Below.refl _ _).alloc (Nat.le_refl _) _, .slice none 0 0, by simp, by simp, by simp, by simp, ?_, by simp⟩
    simpa [row, vals] using World.ownsRow_nil (w.alloc (Obj.cells #[Value.slice none 0 0, Value.int IntKind.i64 0] 40)) (w.heap.size + 1) 5 1
  case round =>
    obtain ⟨j, hj, rfl, hbel, v, hv, hn, hf0, hf1, hown, hp⟩ := hrel
    rw [row_len] at hown
    by_cases hlt : j < len
    · have hc : wr.cell? ⟨b, off + j, none⟩ = some (.bool (B j)) := by rw [hbel.cell (p := ⟨b, off + j, none⟩) hb]; exact HD.out j hlt
      by_cases h8 : j % 8 = 0
      · have h8' : ((j : Int) % 8 == 0) = true := by simp; omega
        rw [show (j + 7) / 8 = j / 8 from by omega] at hown
        cases hB : B j
        · rw [hB] at hc
          go_wp2_with (at_builtin; refine wpList_append_own _ rfl _ _ 24 rfl (w.heap.size + 1) 5 i0 (.int .u8 0) 1 1 Yba.underlying24 hi hz0 hz1 hz2 rfl (by decide) _ _ _ rfl (hown.alloc _) ⟨wr.heap.size, 0, none⟩ 1 1 [.int .u8 0] rfl rfl (cell_one_new _ _ _) (fun x hx => by simp at hx; subst hx; rfl) (by unfold maxLen; omega) (by omega) (by simp; omega) ?_; intro v' w3 hown' hgrow3 hnil3; rw [vals_new B j h8] at hown'; obtain ⟨g, cap', rfl, hg⟩ := own_shape hown'; obtain ⟨hb3, hc3, hf3⟩ := grow_facts hown hgrow3 hp; clear hgrow3 hnil3; have hbp : b ≤ w.heap.size := (by omega); have hgp : ¬ w.heap.size = g := (by omega); have hgb : ¬ b = w.heap.size := (by omega))
          refine ⟨⟨j + 1, by omega, by go_num, ?_, ?_⟩, by simp [intOf]; omega⟩
          · exact (hbel.trans (hb3.mono (by omega))).setCell (Nat.le_refl _) _
          · rw [← row_skip B j hB]
            refine Wr.of (g := g) (cap := cap') (k := j / 8 + 1) ?_ ?_ ?_ ?_ ?_ (rowX_len B j).symm ?_
            · exact World.cell?_setCell_same _ _ _ ((hc3 _ _ (Nat.le_refl _)).trans hv)
            · rw [World.cell?_setCell_other _ _ _ _ (by simp), hc3 _ _ (Nat.le_refl _)]; exact hn
            · rw [World.frozen?_setCell, hf3 _ _ (Nat.le_refl _)]; exact hf0
            · rw [World.frozen?_setCell, hf3 _ _ (Nat.le_refl _)]; exact hf1
            · exact ownsRow_setCell_below hown' (by simp) _
            · have := hb3.size; simp; omega
        · rw [hB] at hc
          go_wp2_with (at_builtin; refine wpList_append_own _ rfl _ _ 24 rfl (w.heap.size + 1) 5 i0 (.int .u8 0) 1 1 Yba.underlying24 hi hz0 hz1 hz2 rfl (by decide) _ _ _ rfl (hown.alloc _) ⟨wr.heap.size, 0, none⟩ 1 1 [.int .u8 0] rfl rfl (cell_one_new _ _ _) (fun x hx => by simp at hx; subst hx; rfl) (by unfold maxLen; omega) (by omega) (by simp; omega) ?_; intro v' w3 hown' hgrow3 hnil3; rw [vals_new B j h8] at hown'; obtain ⟨g, cap', rfl, hg⟩ := own_shape hown'; obtain ⟨hb3, hc3, hf3⟩ := grow_facts hown hgrow3 hp; clear hgrow3 hnil3; have hbp : b ≤ w.heap.size := (by omega); have hgp : ¬ w.heap.size = g := (by omega); have hgb : ¬ b = w.heap.size := (by omega); obtain ⟨hcg, hfg⟩ := own_cur hown')
          refine ⟨⟨j + 1, by omega, by go_num, ?_, ?_⟩, by simp [intOf]; omega⟩
          · exact ((hbel.trans (hb3.mono (by omega))).setCell (Nat.le_refl _) _).setCell (by show w.heap.size ≤ g; omega) _
          · refine Wr.bit (t := j) (cap := cap') ?_ ?_ ?_ ?_ ?_ hg ?_ _ ?_
            · exact World.cell?_setCell_same _ _ _ ((hc3 _ _ (Nat.le_refl _)).trans hv)
            · rw [World.cell?_setCell_other _ _ _ _ (by simp), hc3 _ _ (Nat.le_refl _)]; exact hn
            · rw [World.frozen?_setCell, hf3 _ _ (Nat.le_refl _)]; exact hf0
            · rw [World.frozen?_setCell, hf3 _ _ (Nat.le_refl _)]; exact hf1
            · exact ownsRow_setCell_below hown' (by simp) _
            · have := hb3.size; simp; omega
            · have e := or_top B j hB
              rw [h8] at e ⊢
              exact e
      · have h8' : ((j : Int) % 8 == 0) = false := by simp; omega
        rw [show (j + 7) / 8 = j / 8 + 1 from by omega, row_old B j h8] at hown
        obtain ⟨g, cap', rfl, hg⟩ := own_shape hown
        have hgp : ¬ w.heap.size = g := by omega
        obtain ⟨hcg, hfg⟩ := own_cur hown
        cases hB : B j
        · rw [hB] at hc
          go_wp2
          refine ⟨⟨j + 1, by omega, by go_num, hbel, ?_⟩, by simp [intOf]; omega⟩
          rw [← row_skip B j hB]
          exact Wr.of hv hn hf0 hf1 hown (rowX_len B j).symm hp
        · rw [hB] at hc
          go_wp2
          refine ⟨⟨j + 1, by omega, by go_num, hbel.setCell (by show w.heap.size ≤ g; omega) _, ?_⟩, by simp [intOf]; omega⟩
          exact Wr.bit hv hn hf0 hf1 hown hg hp _ (or_top B j hB)
    · have hjl : j = len := by omega
      subst hjl
      go_wp2
      go_ret
      refine ⟨rfl, hbel.setCell (Nat.le_refl _) _, v, ?_, ?_, ?_, ?_, ?_, by simpa using hp⟩
      · rw [World.cell?_setCell_other _ _ _ _ (by simp)]; exact hv
      · exact World.cell?_setCell_same _ _ _ hn
      · rw [World.frozen?_setCell]; exact hf0
      · rw [World.frozen?_setCell]; exact hf1
      · rw [row_len]; exact ownsRow_setCell_below hown (by simp) _

set_option maxRecDepth 100000 in
set_option maxHeartbeats 4000000 in
theorem build_zero (w : World) (a : Option Addr) (cap : Nat) (B : Nat → Bool) :
    Calls Yba.prog 12 #[.slice a 0 cap] w fun e w' =>
      e = .returned (.pointer (some ⟨w.heap.size, 0, none⟩)) ∧ Below w.heap.size w w' ∧ Wr w' w.heap.size (row B 0) 0 := by
  go_enter Yba.func12, Yba.ntmps12
  go_wp2
  go_rounds 1
  go_ret
  refine ⟨rfl, ?_, .slice none 0 0, by simp, by simp, by simp, by simp, ?_, by simp⟩
  · go_grown
  · simpa [row, vals] using World.ownsRow_nil (w.alloc (Obj.cells #[Value.slice none 0 0, Value.int IntKind.i64 0] 40)) (w.heap.size + 1) 5 1
end Go.Proofs.Ybulksvy
