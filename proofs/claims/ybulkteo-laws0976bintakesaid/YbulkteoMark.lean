import Derived.Test.YbulkteoSub
import Derived.Deep.RegionLawGrows
import Derived.Deep.DeepCutAuto
import Derived.OwnWalk
import Derived.BigQuiet
import Derived.Deep.QuietTactic
namespace Go.Proofs.Ybulkteo
open Go.ChangeShapes Go.WideShapes Go.ChangeAt Go.RowKit

def secOf (a : Int) : Int := a / 1000000000
def nanOf (a : Int) : Nat := (a % 1000000000).toNat
theorem T_of (a : Int) : T a = .agg #[.int .u64 (nanOf a : Int), .int .i64 (secOf a), .pointer none] := rfl

/-- A mark's four cells at block g from o on. -/
structure Mk (W : World) (g o : Nat) (l a : Int) : Prop where
  c0 : W.cell? ⟨g, o, none⟩ = some (.int .i64 l)
  c1 : W.cell? ⟨g, o + 1, none⟩ = some (.int .u64 (nanOf a : Int))
  c2 : W.cell? ⟨g, o + 2, none⟩ = some (.int .i64 (secOf a))
  c3 : W.cell? ⟨g, o + 3, none⟩ = some (.pointer none)

theorem Mk.below {W W' : World} {B g o : Nat} {l a : Int} (h : Mk W g o l a) (hb : Below B W W') (hg : g < B) : Mk W' g o l a :=
  ⟨by rw [hb.cell (p := ⟨g, o, none⟩) hg]; exact h.c0, by rw [hb.cell (p := ⟨g, o + 1, none⟩) hg]; exact h.c1, by rw [hb.cell (p := ⟨g, o + 2, none⟩) hg]; exact h.c2, by rw [hb.cell (p := ⟨g, o + 3, none⟩) hg]; exact h.c3⟩

/-- The first index, below n, at which P fails; n where none does. -/
theorem first_fail (P : Nat → Bool) (n : Nat) : ∃ K, K ≤ n ∧ (∀ i, i < K → P i = true) ∧ (K < n → P K = false) := by
  induction n with
  | zero => exact ⟨0, Nat.le_refl _, fun i h => by omega, fun h => by omega⟩
  | succ n ih =>
    obtain ⟨K, h1, h2, h3⟩ := ih
    by_cases hK : K = n
    · subst hK
      cases hp : P K
      · exact ⟨K, by omega, h2, fun _ => hp⟩
      · refine ⟨K + 1, by omega, fun i hi => ?_, fun h => by omega⟩
        by_cases he : i = K
        · subst he; exact hp
        · exact h2 i (by omega)
    · exact ⟨K, by omega, h2, fun _ => h3 (by omega)⟩

/-- What the leader's struct at block p holds of marks: cnt of them. -/
def In (W : World) (p cnt : Nat) (ml ma : Nat → Int) : Prop :=
  ∃ g o cap, W.cell? ⟨p, 20, none⟩ = some (.slice (some ⟨g, o, none⟩) cnt cap) ∧ ∀ r, r < cnt → Mk W g (o + r * 4) (ml r) (ma r)

theorem info31 : (Yba.prog.info? 31).map (fun i => (i.zero, i.size, i.bytes)) = some (some (.agg #[.int .i64 0, .int .u64 0, .int .i64 0, .pointer none]), 4, 32) := by kernel_rfl

/-- Cell c of a mark. -/
def mc (l a : Int) (c : Nat) : Value := match c with
  | 0 => .int .i64 l
  | 1 => .int .u64 (nanOf a : Int)
  | 2 => .int .i64 (secOf a)
  | _ => .pointer none

/-- The cells of m marks. -/
def cellsOf (ml ma : Nat → Int) (m : Nat) : List Value := (List.range (m * 4)).map fun j => mc (ml (j / 4)) (ma (j / 4)) (j % 4)

theorem cellsOf_len (ml ma : Nat → Int) (m : Nat) : (cellsOf ml ma m).length = m * 4 := by simp [cellsOf]

theorem cellsOf_get {ml ma : Nat → Int} {m j : Nat} {u : Value} (h : (cellsOf ml ma m)[j]? = some u) : j < m * 4 ∧ u = mc (ml (j / 4)) (ma (j / 4)) (j % 4) := by
  unfold cellsOf at h
  rw [List.getElem?_map] at h
  by_cases hj : j < m * 4
  · rw [List.getElem?_range hj] at h
    exact ⟨hj, by simpa using h.symm⟩
  · rw [List.getElem?_eq_none (by simpa using hj)] at h
    simp at h

theorem Mk.cell {W : World} {g o : Nat} {l a : Int} (h : Mk W g o l a) (c : Nat) (hc : c < 4) : W.cell? ⟨g, o + c, none⟩ = some (mc l a c) := by
  match c, hc with
  | 0, _ => exact h.c0
  | 1, _ => exact h.c1
  | 2, _ => exact h.c2
  | 3, _ => exact h.c3

theorem cells_of_marks {W : World} {g o m : Nat} {ml ma : Nat → Int} (h : ∀ r, r < m → Mk W g (o + r * 4) (ml r) (ma r)) :
    ∀ j u, (cellsOf ml ma m)[j]? = some u → W.cell? ((⟨g, o, none⟩ : Addr).add j) = some u := by
  intro j u hj
  obtain ⟨h1, rfl⟩ := cellsOf_get hj
  rw [Go.WideShapes.add_plain]
  have := (h (j / 4) (by omega)).cell (j % 4) (by omega)
  rw [show o + j / 4 * 4 + j % 4 = o + j from by omega] at this
  exact this

/-- The marks of a row that the call owns: m old ones and one more. -/
theorem marks_of_own {W : World} {base g cap m : Nat} {ml ma : Nat → Int} {l a : Int}
    (h : W.ownsRow base 31 4 (.slice (some ⟨g, 0, none⟩) (m + 1) cap) (m + 1) (cellsOf ml ma m ++ [mc l a 0, mc l a 1, mc l a 2, mc l a 3])) :
    ∀ r, r < m + 1 → Mk W g (0 + r * 4) (if r < m then ml r else l) (if r < m then ma r else a) := by
  intro r hr
  have key : ∀ c, c < 4 → W.cell? ⟨g, r * 4 + c, none⟩ = some (mc (if r < m then ml r else l) (if r < m then ma r else a) c) := by
    intro c hc
    rw [h.cellAt _ (by omega)]
    by_cases hrm : r < m
    · rw [List.getElem?_append_left (by rw [cellsOf_len]; omega), if_pos hrm, if_pos hrm]
      unfold cellsOf
      rw [List.getElem?_map, List.getElem?_range (by omega)]
      simp only [Option.map_some]
      rw [show (r * 4 + c) / 4 = r from by omega, show (r * 4 + c) % 4 = c from by omega]
    · obtain rfl : r = m := by omega
      rw [List.getElem?_append_right (by rw [cellsOf_len]; omega), cellsOf_len, if_neg hrm, if_neg hrm, show r * 4 + c - r * 4 = c from by omega]
      match c, hc with
      | 0, _ => rfl
      | 1, _ => rfl
      | 2, _ => rfl
      | 3, _ => rfl
  rw [Nat.zero_add]
  exact ⟨key 0 (by omega), key 1 (by omega), key 2 (by omega), key 3 (by omega)⟩

end Go.Proofs.Ybulkteo
