import Derived.Test.YbulkteoMark
import Derived.Deep.RegionHeld
import Derived.Laws.MakeOwn
namespace Go.Proofs.Ybulkteo
open Go.ChangeShapes Go.WideShapes Go.ChangeAt Go.RowKit

/-- The first loop's memory: n marks at block q, the first i of them written. -/
structure Lp (W : World) (q n i : Nat) (L A : Nat → Int) : Prop where
  marks : ∀ r, r < i → Mk W q (r * 4) (L r) (A r)
  some_ : ∀ c, c < n * 4 → ∃ v, W.cell? ⟨q, c, none⟩ = some v
  froz : ∀ c, W.frozen? ⟨q, c, none⟩ = false

theorem Lp.below {W W' : World} {B q n i : Nat} {L A : Nat → Int} (h : Lp W q n i L A) (hb : Below B W W') (hq : q < B) : Lp W' q n i L A :=
  ⟨fun r hr => (h.marks r hr).below hb hq, fun c hc => by rw [hb.cell (p := ⟨q, c, none⟩) hq]; exact h.some_ c hc, fun c => by rw [hb.frozen (p := ⟨q, c, none⟩) hq]; exact h.froz c⟩

theorem Lp.made (w : World) (n : Nat) (L A : Nat → Int) : Lp (w.alloc (.cells (madeCells (Value.agg #[.int .i64 0, .int .u64 0, .int .i64 0, .pointer none]).cells (n * 4)) 31)) w.heap.size n 0 L A :=
  ⟨fun r hr => by omega, fun c hc => by
    rw [World.cell?_alloc_new]
    generalize hz : (Value.agg #[.int .i64 0, .int .u64 0, .int .i64 0, .pointer none]).cells = z
    exact ⟨z[c % z.size]!, by simp [madeCells, hc]⟩, fun c => by simp⟩

theorem off_ne (q : Nat) {a b : Nat} (h : a ≠ b) : (⟨q, a, none⟩ : Addr) ≠ ⟨q, b, none⟩ := fun e => h (congrArg Addr.off e)

theorem soff {W : World} {q a b : Nat} {v : Value} (h : a ≠ b) : (W.setCell ⟨q, a, none⟩ v).cell? ⟨q, b, none⟩ = W.cell? ⟨q, b, none⟩ := World.cell?_setCell_other _ _ _ _ (off_ne q h)
theorem ssame {W : World} {q a : Nat} {u v : Value} (h : W.cell? ⟨q, a, none⟩ = some u) : (W.setCell ⟨q, a, none⟩ v).cell? ⟨q, a, none⟩ = some v := by simp [World.cell?_setCell_same, h]

/-- Four cells are written in a row. -/
def set4 (W : World) (q o : Nat) (v0 v1 v2 v3 : Value) : World := (((W.setCell ⟨q, o, none⟩ v0).setCell ⟨q, o + 1, none⟩ v1).setCell ⟨q, o + 2, none⟩ v2).setCell ⟨q, o + 3, none⟩ v3

theorem set4_out (W : World) (q o c : Nat) (v0 v1 v2 v3 : Value) (h : c < o ∨ o + 4 ≤ c) : (set4 W q o v0 v1 v2 v3).cell? ⟨q, c, none⟩ = W.cell? ⟨q, c, none⟩ := by
  unfold set4
  rw [soff (by omega), soff (by omega), soff (by omega), soff (by omega)]

theorem set4_in (W : World) (q o : Nat) (v0 v1 v2 v3 u0 u1 u2 u3 : Value) (h0 : W.cell? ⟨q, o, none⟩ = some u0) (h1 : W.cell? ⟨q, o + 1, none⟩ = some u1) (h2 : W.cell? ⟨q, o + 2, none⟩ = some u2) (h3 : W.cell? ⟨q, o + 3, none⟩ = some u3) :
    (set4 W q o v0 v1 v2 v3).cell? ⟨q, o, none⟩ = some v0 ∧ (set4 W q o v0 v1 v2 v3).cell? ⟨q, o + 1, none⟩ = some v1 ∧ (set4 W q o v0 v1 v2 v3).cell? ⟨q, o + 2, none⟩ = some v2 ∧ (set4 W q o v0 v1 v2 v3).cell? ⟨q, o + 3, none⟩ = some v3 := by
  unfold set4
  refine ⟨?_, ?_, ?_, ?_⟩
  · rw [soff (by omega), soff (by omega), soff (by omega), ssame h0]
  · rw [soff (by omega), soff (by omega)]
    exact ssame (by rw [soff (by omega)]; exact h1)
  · rw [soff (by omega)]
    exact ssame (by rw [soff (by omega), soff (by omega)]; exact h2)
  · exact ssame (by rw [soff (by omega), soff (by omega), soff (by omega)]; exact h3)

theorem Lp.store {W : World} {q n i : Nat} {L A : Nat → Int} (h : Lp W q n i L A) (hi : i < n) :
    Lp (set4 W q (i * 4) (.int .i64 (L i)) (.int .u64 (nanOf (A i) : Int)) (.int .i64 (secOf (A i))) (.pointer none)) q n (i + 1) L A := by
  obtain ⟨v0, h0⟩ := h.some_ (i * 4) (by omega)
  obtain ⟨v1, h1⟩ := h.some_ (i * 4 + 1) (by omega)
  obtain ⟨v2, h2⟩ := h.some_ (i * 4 + 2) (by omega)
  obtain ⟨v3, h3⟩ := h.some_ (i * 4 + 3) (by omega)
  obtain ⟨g0, g1, g2, g3⟩ := set4_in W q (i * 4) (.int .i64 (L i)) (.int .u64 (nanOf (A i) : Int)) (.int .i64 (secOf (A i))) (.pointer none) v0 v1 v2 v3 h0 h1 h2 h3
  refine ⟨fun r hr => ?_, fun c hc => ?_, fun c => ?_⟩
  · by_cases hri : r = i
    · subst hri
      exact ⟨g0, g1, g2, g3⟩
    · have hm := h.marks r (by omega)
      exact ⟨by rw [set4_out _ _ _ _ _ _ _ _ (by omega)]; exact hm.c0, by rw [set4_out _ _ _ _ _ _ _ _ (by omega)]; exact hm.c1, by rw [set4_out _ _ _ _ _ _ _ _ (by omega)]; exact hm.c2, by rw [set4_out _ _ _ _ _ _ _ _ (by omega)]; exact hm.c3⟩
  · by_cases h4 : c < i * 4 ∨ i * 4 + 4 ≤ c
    · rw [set4_out _ _ _ _ _ _ _ _ h4]; exact h.some_ c hc
    · obtain rfl | rfl | rfl | rfl : c = i * 4 ∨ c = i * 4 + 1 ∨ c = i * 4 + 2 ∨ c = i * 4 + 3 := by omega
      · exact ⟨_, g0⟩
      · exact ⟨_, g1⟩
      · exact ⟨_, g2⟩
      · exact ⟨_, g3⟩
  · simpa [set4] using h.froz c

theorem set4_below {W0 W : World} {B q o : Nat} {v0 v1 v2 v3 : Value} (h : Below B W0 W) (hq : B ≤ q) : Below B W0 (set4 W q o v0 v1 v2 v3) :=
  (((h.setCell (p := ⟨q, o, none⟩) hq _).setCell (p := ⟨q, o + 1, none⟩) hq _).setCell (p := ⟨q, o + 2, none⟩) hq _).setCell (p := ⟨q, o + 3, none⟩) hq _
end Go.Proofs.Ybulkteo
