/-
  The proof of 'Rows.LawS0960BReadSaid' (the frame: by the guide's tool).
-/
import Derived.Test.YbulksvyModel
import Derived.WalkKit
import Derived.ProofKit
import Derived.OpenShut
import Derived.ShutString
import Derived.ChangeOld
import Derived.Below
namespace Go.Proofs.Ybulksvy.lawS0960BRead
open Go.ChangeShapes Go.WideShapes Go.ChangeAt Go.RowKit Go.Proofs.Ybulksvy.Bv
open Go.ChangeMaps (open_string shut_string)
set_option linter.unusedVariables false

theorem own : ownKnob Yba.prog.godebug = none := by kernel_rfl
theorem laidOut : laidOutB Yba.prog = true := by kernel_rfl

/-- WHAT THE WALK IS TOLD OF A SLICE OF INTEGERS THAT CAME IN: it is nil; or it leads to a row of 'cap' cells, the numbers 'zs' (the first 'len' are its elements, the rest its spare room), each fitting its kind. -/
def IsRow (k : IntKind) (w : World) (a : Option Addr) (len cap : Nat) (zs : List Int) : Prop :=
  (a = none ∧ len = 0 ∧ cap = 0 ∧ zs = []) ∨
  ∃ x, a = some x ∧ len ≤ cap ∧ cap ≤ maxLen ∧ zs.length = cap ∧ (∀ i, i < zs.length → w.cell? (x.add i) = some (.int k (zs.getD i 0))) ∧ ∀ n ∈ zs, (Lit.int k n).wf = true

/-! ### THE WALK -/
set_option maxRecDepth 100000 in
set_option maxHeartbeats 2000000 in
theorem walk_no (a0 : Option Addr) (len0 cap0 : Nat) (a1 : Nat) (a2 : Nat) (w : World) (hl : len0 ≤ 1024) (h1 : a1 < 65536) (h2 : a2 < 256) (pos n : Nat)
    (hpos : (a1 : Int) % ((len0 : Int) * 8 + 1) = (pos : Int)) (hn : (a2 : Int) % 33 = (n : Int)) (hp : pos ≤ 8 * len0) (hn32 : n ≤ 32)
    (hlt : (len0 : Int) * 8 - (pos : Int) < (n : Int)) :
    Calls Yba.prog 5 #[.slice a0 len0 cap0, .int .u16 (a1 : Int), .int .u8 (a2 : Int)] w fun e w' => e = .returned (.bool true) ∧ Below w.heap.size w w' := by
  go_enter Yba.func5, Yba.ntmps5
  go_wp2_with fail
  refine (read_no _ _ a0 len0 cap0 pos n hl hp hn32 (by simp) (by simp) hlt).mono ?_
  rintro e w1 ⟨rfl, m, rfl⟩
  go_wp2
  go_ret
  exact ⟨rfl, below_drewN ((Below.refl _ _).alloc (Nat.le_refl _) _) _⟩

set_option maxRecDepth 100000 in
set_option maxHeartbeats 2000000 in
theorem walk_zero (a0 : Option Addr) (len0 cap0 : Nat) (a1 : Nat) (a2 : Nat) (w : World) (hl : len0 ≤ 1024) (h1 : a1 < 65536) (h2 : a2 < 256) (pos : Nat)
    (hpos : (a1 : Int) % ((len0 : Int) * 8 + 1) = (pos : Int)) (hn : (a2 : Int) % 33 = 0) (hp : pos ≤ 8 * len0) :
    Calls Yba.prog 5 #[.slice a0 len0 cap0, .int .u16 (a1 : Int), .int .u8 (a2 : Int)] w fun e w' => e = .returned (.bool true) ∧ Below w.heap.size w w' := by
  have hge : ¬ (len0 : Int) * 8 - (pos : Int) < 0 := by omega
  go_enter Yba.func5, Yba.ntmps5
  go_wp2_with fail
  refine (read_zero _ _ a0 len0 cap0 pos hl hp (by simp) (by simp)).mono ?_
  rintro e w1 ⟨rfl, m, rfl⟩
  go_wp2
  go_ret
  exact ⟨rfl, below_drewN ((Below.refl _ _).alloc (Nat.le_refl _) _) _⟩

set_option maxRecDepth 100000 in
set_option maxHeartbeats 2000000 in
theorem walk_yes (b off : Nat) (len0 cap0 : Nat) (a1 : Nat) (a2 : Nat) (D : Nat → Nat) (w : World) (hl : len0 ≤ 1024) (h1 : a1 < 65536) (h2 : a2 < 256) (pos n : Nat)
    (hpos : (a1 : Int) % ((len0 : Int) * 8 + 1) = (pos : Int)) (hn : (a2 : Int) % 33 = (n : Int)) (hle : pos + n ≤ 8 * len0) (hn32 : n ≤ 32) (hn0 : 0 < n)
    (hD : ∀ i, D i < 256) (hDz : ∀ i, len0 ≤ i → D i = 0) (hd : ∀ i, i < len0 → w.cell? ⟨b, off + i, none⟩ = some (.int .u8 (D i : Int))) :
    Calls Yba.prog 5 #[.slice (some ⟨b, off, none⟩) len0 cap0, .int .u16 (a1 : Int), .int .u8 (a2 : Int)] w fun e w' => e = .returned (.bool true) ∧ Below w.heap.size w w' := by
  have hb : b < w.heap.size := World.block_lt_of_cell? _ _ (hd 0 (by omega))
  have hge : ¬ (len0 : Int) * 8 - (pos : Int) < n := by omega
  have HD : Hid (∀ i, i < len0 → w.cell? ⟨b, off + i, none⟩ = some (.int .u8 (D i : Int))) := hd
  clear hd
  have HZ : Hid (∀ i, len0 ≤ i → D i = 0) := hDz
  clear hDz
  have HB : Hid (∀ i, D i < 256) := hD
  clear hD
  go_enter Yba.func5, Yba.ntmps5
  go_wp2_with fail
  refine (read_yes _ w.heap.size b off len0 cap0 pos n D HB.out hl hb hn32 ⟨by simp, by simp, by simp, ?_, by simp⟩ hle).mono ?_
  · intro i hi
    rw [World.cell?_alloc_lt _ _ _ hb]; exact HD.out i hi
  rintro e w1 ⟨rfl, hbel, hR⟩
  have hq := hR.q
  have HR : Hid (Rd w1 w.heap.size b off len0 cap0 D (pos + n)) := hR
  clear hR
  have hne : (((pos + n : Nat) : Int) != (pos : Int) + n) = false := by simp
  go_wp2_with fail
  refine (model_any _ b off len0 cap0 pos n D HB.out HZ.out hl hn32 hn0 (by omega) HR.out.d).mono ?_
  rintro e w2 ⟨rfl, rfl⟩
  go_wp2
  go_ret
  refine ⟨by simp, (((Below.refl _ w).alloc (Nat.le_refl _) _).trans hbel)⟩

theorem walk (a0 : Option Addr) (len0 cap0 : Nat) (z0 : List Int) (a1 : Int) (a2 : Int) (w : World) (w0 : IsRow .u8 w a0 len0 cap0 z0) (w1 : (Lit.int .u16 a1).wf = true) (w2 : (Lit.int .u8 a2).wf = true) :
    Calls Yba.prog 5 #[.slice a0 len0 cap0, .int .u16 a1, .int .u8 a2] w fun e w' => e = .returned (.bool true) ∧ Below w.heap.size w w' := by
  have b1 := bounds_u16 w1
  have b2 := bounds_u8 w2
  obtain ⟨A1, rfl⟩ := Int.eq_ofNat_of_zero_le b1.1
  obtain ⟨A2, rfl⟩ := Int.eq_ofNat_of_zero_le b2.1
  have hlc : len0 ≤ maxLen := by
    rcases w0 with ⟨_, rfl, _⟩ | ⟨x, _, h1, h2, _⟩ <;> omega
  unfold maxLen at hlc
  by_cases hl : len0 ≤ 1024
  · obtain ⟨pos, hpos⟩ : ∃ pos : Nat, (A1 : Int) % ((len0 : Int) * 8 + 1) = (pos : Int) := ⟨((A1 : Int) % ((len0 : Int) * 8 + 1)).toNat, by have := Int.emod_nonneg (A1 : Int) (show ((len0 : Int) * 8 + 1) ≠ 0 by omega); omega⟩
    obtain ⟨n, hn⟩ : ∃ n : Nat, (A2 : Int) % 33 = (n : Int) := ⟨A2 % 33, by omega⟩
    have hp : pos ≤ 8 * len0 := by
      have := Int.emod_lt_of_pos (A1 : Int) (show (0 : Int) < (len0 : Int) * 8 + 1 by omega)
      omega
    have hn32 : n ≤ 32 := by omega
    by_cases hlt : (len0 : Int) * 8 - (pos : Int) < (n : Int)
    · exact walk_no a0 len0 cap0 A1 A2 w hl (by omega) (by omega) pos n hpos hn hp hn32 hlt
    · by_cases hn0 : n = 0
      · subst hn0
        exact walk_zero a0 len0 cap0 A1 A2 w hl (by omega) (by omega) pos hpos (by simpa using hn) hp
      · rcases w0 with ⟨rfl, rfl, rfl, rfl⟩ | ⟨x, rfl, hlen, hm, hz, hcell, hwz⟩
        · omega
        · obtain ⟨b, off, spot⟩ := x
          have hc := hcell 0 (by omega)
          have hspot : spot = none := by simpa [Addr.add] using World.cell?_spot hc
          subst hspot
          have hr := range_u8 hwz
          refine walk_yes b off len0 cap0 A1 A2 (fun i => if i < len0 then (z0.getD i 0).toNat else 0) w hl (by omega) (by omega) pos n hpos hn (by omega) hn32 (by omega) ?_ ?_ ?_
          · intro i
            have := hr i
            simp only [List.getD_eq_getElem?_getD]
            split <;> omega
          · intro i hi
            simp only [if_neg (Nat.not_lt.2 hi)]
          · intro i hi
            have := hcell i (by omega)
            have hri := hr i
            simp only [if_pos hi]
            rw [show ((z0.getD i 0).toNat : Int) = z0.getD i 0 from by simp only [List.getD_eq_getElem?_getD]; omega]
            by_cases hi0 : i = 0
            · subst hi0; simpa [Addr.add] using this
            · simpa [Addr.add, hi0] using this
  · have hgt : (1024 : Int) < len0 := by omega
    go_enter Yba.func5, Yba.ntmps5
    go_wp2
    go_ret
    exact ⟨rfl, Below.refl _ _⟩

/-! ### THE ROW's STEP: WRITTEN OUT: LEAVE IT -/
set_option maxRecDepth 100000 in
theorem lifted (os : Os) (started : os.Started) (H : Type) (enc : TypeId × Value → H) :
    ReturnsInHanded {} Yba.checked os 5 .any (Rows.lawS0960BReadSpec.pre6 enc Yba.prog Yba.f5 Rows.lawS0960BReadRow.domain false) (Rows.lawS0960BReadSpec.post enc Yba.prog Yba.f5 false true false false) := by
  refine returnsInHanded_of_change (C := Yba.checked) own started (by kernel_rfl) Yba.func5
    (ChangeSpec.witness6 (enc := enc) (C := Yba.checked) false ⟨#[], #[.slice none 0 0, .int .u16 0, .int .u8 0], []⟩ 8 (by kernel_rfl) (by kernel_rfl) (by kernel_rfl) (by kernel_rfl)) ?_
  intro W base args ds gs before hval0 hW hcnd _
  have hval : ∀ (j : Nat) t v, Yba.f5.params[j]? = some t → args[j]? = some v → Value.okWide Yba.prog W .any base t v := hval0
  have hW' := hW
  obtain ⟨p, q, hA0, hV, rfl, hfz, hnd⟩ := hW
  have hA : DataW.TrodAll enc Yba.prog W 0 (fun _ => true) true Yba.f5.params.toList args.toList ds p := hA0
  rw [Yba.params5] at hA hval
  obtain ⟨v0, vs0, d0, ds0, p0, q0, hargs, rfl, rfl, h0, r0⟩ := trodAll_cons hA
  obtain ⟨v1, vs1, d1, ds1, p1, q1, rfl, rfl, rfl, h1, r1⟩ := trodAll_cons r0
  obtain ⟨v2, vs2, d2, ds2, p2, q2, rfl, rfl, rfl, h2, r2⟩ := trodAll_cons r1
  obtain ⟨rfl, rfl, rfl⟩ := trodAll_nil r2
  obtain rfl : args = #[v0, v1, v2] := by cases args; simp_all
  obtain ⟨rfl, rfl⟩ := trodVars_none hV
  obtain ⟨a0, len0, cap0, rfl⟩ := okWide_slice Yba.underlying24 (hval 0 24 v0 rfl rfl)
  have k0 := h0
  have lt0 : ∀ x ∈ p0, x.block < W.heap.size := by obtain ⟨m, hm⟩ := k0; exact DataW.trod_lt m _ _ _ hm
  obtain ⟨z0, w0⟩ : ∃ zs, IsRow .u8 W a0 len0 cap0 zs := by
    obtain ⟨fuel, hf⟩ := h0
    rcases open_ints Yba.underlying24 Yba.underlying5 (by kernel_rfl) hf with ⟨hcs, _⟩ | ⟨x, l, c, zs, hcs, _, hl, hm, hz, _, hcell, hwz⟩
    · simp [Value.cells] at hcs
      obtain ⟨rfl, rfl, rfl⟩ := hcs
      exact ⟨[], .inl ⟨rfl, rfl, rfl, rfl⟩⟩
    · simp [Value.cells] at hcs
      obtain ⟨rfl, rfl, rfl⟩ := hcs
      exact ⟨zs, .inr ⟨_, rfl, hl, hm, by simpa using hz, hcell, hwz⟩⟩
  obtain ⟨a1, rfl, rfl, rfl, w1⟩ := open_int Yba.underlying25 (hval 1 25 v1 rfl rfl) h1
  obtain ⟨a2, rfl, rfl, rfl, w2⟩ := open_int Yba.underlying5 (hval 2 5 v2 rfl rfl) h2
  clear hA0 hval0
  refine (walk a0 len0 cap0 z0 a1 a2 W w0 w1 w2).mono fun e W' ⟨he, bel⟩ => ?_
  subst he
  exact ⟨_, rfl, _, _, _, [], _, [], hW', trodAll_mk1 (shut_bool Yba.underlying4 _), (trodAll_cons_mk (Below.trod laidOut (by kernel_rfl) (of_decide_eq_true (by kernel_rfl)) k0 bel lt0) (trodAll_cons_mk (shut_int Yba.underlying25 w1) (trodAll_cons_mk (shut_int Yba.underlying5 w2) trodAll_mk0))), rfl, bel.frame _, fun h => by cases h⟩

theorem over : Rows.lawS0960BReadRow.holds Yba.pinned (OpenSpec.ofChange Rows.lawS0960BReadSpec) :=
  OpenClaim.holds_of_wide 5 Yba.f5 rfl rfl rfl rfl rfl rfl rfl ⟨rfl, rfl, rfl, rfl, rfl⟩ rfl rfl rfl rfl rfl (by kernel_rfl) Yba.func5 (by kernel_rfl)
    (of_decide_eq_true (by kernel_rfl)) (by unfold Func.isWrapper; first | (rw [if_pos (by decide +kernel)]; kernel_rfl) | (rw [if_neg (by decide +kernel)]; exact ⟨rfl, rfl⟩))
    (fun os started H enc _ => lifted os started H enc)

/-- ████ THE STATEMENT ████ -/
theorem proved : Rows.LawS0960BReadSaid := over
end Go.Proofs.Ybulksvy.lawS0960BRead
