import Derived.Test.YbulkteoRows
import Derived.Test.YbulkteoLawT
import Derived.Test.YbulkteoLawF
import Derived.Test.YbulkteoLawZ
import Derived.WalkKit
import Derived.ProofKit
import Derived.OpenShut
import Derived.ShutString
import Derived.ChangeOld
import Derived.Below
namespace Go.Proofs.Ybulkteo.lawS0976BIntake
open Go.ChangeShapes Go.WideShapes Go.ChangeAt Go.RowKit
open Go.ChangeMaps (open_string shut_string)
set_option linter.unusedVariables false

theorem own : ownKnob Yba.prog.godebug = none := by kernel_rfl
theorem laidOut : laidOutB Yba.prog = true := by kernel_rfl

/-- WHAT THE WALK IS TOLD OF A SLICE OF INTEGERS THAT CAME IN: it is nil; or it leads to a row of 'cap' cells, the numbers 'zs' (the first 'len' are its elements, the rest its spare room), each fitting its kind. -/
def IsRow (k : IntKind) (w : World) (a : Option Addr) (len cap : Nat) (zs : List Int) : Prop :=
  (a = none ∧ len = 0 ∧ cap = 0 ∧ zs = []) ∨
  ∃ x, a = some x ∧ len ≤ cap ∧ cap ≤ maxLen ∧ zs.length = cap ∧ (∀ i, i < zs.length → w.cell? (x.add i) = some (.int k (zs.getD i 0))) ∧ ∀ n ∈ zs, (Lit.int k n).wf = true

theorem quo8 (a : Int) (h1 : -2147483648 ≤ a) (h2 : a ≤ 2147483647) : -268435456 ≤ a.tdiv 8 ∧ a.tdiv 8 ≤ 268435456 := by
  by_cases h : 0 ≤ a
  · rw [Int.tdiv_eq_ediv_of_nonneg h]; omega
  · have e : a.tdiv 8 = -((-a).tdiv 8) := by rw [Int.neg_tdiv]; omega
    rw [e, Int.tdiv_eq_ediv_of_nonneg (by omega)]; omega

theorem at_any_row {k : IntKind} {w : World} {a : Option Addr} {len cap : Nat} {zs : List Int} (h : IsRow k w a len cap zs) :
    ∃ b o, (0 < len → a = some ⟨b, o, none⟩) ∧ (∀ i, i < len → w.cell? ⟨b, o + i, none⟩ = some (.int k (zs.getD i 0))) ∧ (0 < len → b < w.heap.size) ∧ ∀ i, i < len → (Lit.int k (zs.getD i 0)).wf = true := by
  rcases h with ⟨rfl, rfl, rfl, rfl⟩ | ⟨x, rfl, hlen, hm, hz, hcell, hwz⟩
  · exact ⟨0, 0, fun h => by omega, fun i h => by omega, fun h => by omega, fun i h => by omega⟩
  · by_cases hc0 : zs.length = 0
    · exact ⟨0, 0, fun h => by omega, fun i h => by omega, fun h => by omega, fun i h => by omega⟩
    · obtain ⟨b, off, rfl, hc⟩ := ints_at hcell (by omega)
      refine ⟨b, off, fun _ => rfl, fun i hi => ?_, fun _ => World.block_lt_of_cell? _ _ (hc 0 (by omega)), fun i hi => ?_⟩
      · have := hc i (by omega)
        exact this
      · refine hwz _ ?_
        rw [List.getD_eq_getElem?_getD, List.getElem?_eq_getElem (by omega)]
        exact List.getElem_mem _

theorem at_row {w : World} {a : Option Addr} {len cap : Nat} {zs : List Int} (h : IsRow .i32 w a len cap zs) :
    ∃ b o, (0 < len → a = some ⟨b, o, none⟩) ∧ (∀ i, i < len → w.cell? ⟨b, o + i, none⟩ = some (.int .i32 (zs.getD i 0))) ∧ (0 < len → b < w.heap.size) ∧ ∀ i, i < len → -2147483648 ≤ zs.getD i 0 ∧ zs.getD i 0 ≤ 2147483647 := by
  obtain ⟨b, o, h1, h2, h3, h4⟩ := at_any_row h
  exact ⟨b, o, h1, h2, h3, fun i hi => bounds_i32 (h4 i hi)⟩

theorem at_row64 {w : World} {a : Option Addr} {len cap : Nat} {zs : List Int} (h : IsRow .i64 w a len cap zs) :
    ∃ b o, (0 < len → a = some ⟨b, o, none⟩) ∧ (∀ i, i < len → w.cell? ⟨b, o + i, none⟩ = some (.int .i64 (zs.getD i 0))) ∧ (0 < len → b < w.heap.size) := by
  obtain ⟨b, o, h1, h2, h3, _⟩ := at_any_row h
  exact ⟨b, o, h1, h2, h3⟩

/-! ### The walk: the Go text returns true, and writes nothing that was there. -/
set_option maxRecDepth 100000 in
theorem walk (a0 : Option Addr) (len0 cap0 : Nat) (z0 : List Int) (a1 : Option Addr) (len1 cap1 : Nat) (z1 : List Int) (a2 : Int) (a3 : Int) (a4 : Int) (w : World) (w0 : IsRow .i32 w a0 len0 cap0 z0) (w1 : IsRow .i64 w a1 len1 cap1 z1) (w2 : (Lit.int .i32 a2).wf = true) (w3 : (Lit.int .i32 a3).wf = true) (w4 : (Lit.int .i64 a4).wf = true) :
    Calls Yba.prog 3 #[.slice a0 len0 cap0, .slice a1 len1 cap1, .int .i32 a2, .int .i32 a3, .int .i64 a4] w fun e w' => e = .returned (.bool true) ∧ Below w.heap.size w w' := by
  have n2 := bounds_i32 w2
  have n3 := bounds_i32 w3
  have hlc : len0 ≤ maxLen := by
    rcases w0 with ⟨_, rfl, _⟩ | ⟨x, _, h1, h2, _⟩ <;> omega
  have hlc1 : len1 ≤ maxLen := by
    rcases w1 with ⟨_, rfl, _⟩ | ⟨x, _, h1, h2, _⟩ <;> omega
  unfold maxLen at hlc hlc1
  by_cases hl : len0 ≤ 1024
  · obtain ⟨b0, o0, hx0, hA, hb0, hAb⟩ := at_row w0
    obtain ⟨b1, o1, hx1, hZ, hb1⟩ := at_row64 w1
    obtain ⟨K, hK, h1, h2⟩ := first_fail (fun i => decide (a3 ≤ a2 - z0.getD i 0)) len0
    obtain ⟨m, hm⟩ : ∃ m, len0 = K + m := ⟨len0 - K, by omega⟩
    obtain ⟨w8, h8⟩ : ∃ w8, a3.tdiv 8 = w8 := ⟨_, rfl⟩
    have hq := quo8 a3 n3.1 n3.2
    rw [h8] at hq
    have h64 : wrap64 w8 = w8 := w64 _ (by omega) (by omega)
    have h32 : wrap32 w8 = w8 := w32 _ (by omega) (by omega)
    have h1' : ∀ i, i < K → a3 ≤ a2 - z0.getD i 0 := fun i hi => of_decide_eq_true (h1 i hi)
    have h2' : 0 < m → ¬ a3 ≤ a2 - z0.getD K 0 := fun h => of_decide_eq_false (h2 (by omega))
    by_cases hm0 : m = 0
    · exact law_z w a0 a1 b0 o0 b1 o1 len0 cap0 len1 cap1 K m (fun i => z0.getD i 0) (fun i => z1.getD i 0) (fun i => if i < len1 then z1.getD i 0 else (i : Int)) a2 a3 w8 a4 true rfl hm0 hl hm hlc1 hx0 hx1 hA hb0 hZ hb1 hAb (fun _ => rfl) n2 n3 h1' h2' h8 h64 h32 (fun h => absurd hm0 (by omega)) (fun _ => rfl)
    · cases hadd : decide (w8 ≤ a2 - z0.getD (K + (m - 1)) 0) with
      | true => exact law_pt w a0 a1 b0 o0 b1 o1 len0 cap0 len1 cap1 K m (fun i => z0.getD i 0) (fun i => z1.getD i 0) (fun i => if i < len1 then z1.getD i 0 else (i : Int)) a2 a3 w8 a4 true rfl (by omega) hl hm hlc1 hx0 hx1 hA hb0 hZ hb1 hAb (fun _ => rfl) n2 n3 h1' h2' h8 h64 h32 (fun _ => hadd) (fun h => absurd h hm0)
      | false => exact law_pf w a0 a1 b0 o0 b1 o1 len0 cap0 len1 cap1 K m (fun i => z0.getD i 0) (fun i => z1.getD i 0) (fun i => if i < len1 then z1.getD i 0 else (i : Int)) a2 a3 w8 a4 false rfl (by omega) hl hm hlc1 hx0 hx1 hA hb0 hZ hb1 hAb (fun _ => rfl) n2 n3 h1' h2' h8 h64 h32 (fun _ => hadd) (fun h => absurd h hm0)
  · have hgt : (1024 : Int) < len0 := by omega
    clear n2 n3 hlc hlc1 w0 w1 w2 w3 w4 hl
    go_enter Yba.func3, Yba.ntmps3
    go_wp2
    go_ret
    exact ⟨rfl, Below.refl _ _⟩

/-! ### THE ROW's STEP: WRITTEN OUT: LEAVE IT -/
set_option maxRecDepth 100000 in
theorem lifted (os : Os) (started : os.Started) (H : Type) (enc : TypeId × Value → H) :
    ReturnsInHanded {} Yba.checked os 3 .any (Rows.lawS0976BIntakeSpec.pre6 enc Yba.prog Yba.f3 Rows.lawS0976BIntakeRow.domain false) (Rows.lawS0976BIntakeSpec.post enc Yba.prog Yba.f3 false true false false) := by
  refine returnsInHanded_of_change (C := Yba.checked) own started (by kernel_rfl) Yba.func3
    (ChangeSpec.witness6 (enc := enc) (C := Yba.checked) false ⟨#[], #[.slice none 0 0, .slice none 0 0, .int .i32 0, .int .i32 0, .int .i64 0], []⟩ 8 (by kernel_rfl) (by kernel_rfl) (by kernel_rfl) (by kernel_rfl)) ?_
  intro W base args ds gs before hval0 hW hcnd _
  have hval : ∀ (j : Nat) t v, Yba.f3.params[j]? = some t → args[j]? = some v → Value.okWide Yba.prog W .any base t v := hval0
  have hW' := hW
  obtain ⟨p, q, hA0, hV, rfl, hfz, hnd⟩ := hW
  have hA : DataW.TrodAll enc Yba.prog W 0 (fun _ => true) true Yba.f3.params.toList args.toList ds p := hA0
  rw [Yba.params3] at hA hval
  obtain ⟨v0, vs0, d0, ds0, p0, q0, hargs, rfl, rfl, h0, r0⟩ := trodAll_cons hA
  obtain ⟨v1, vs1, d1, ds1, p1, q1, rfl, rfl, rfl, h1, r1⟩ := trodAll_cons r0
  obtain ⟨v2, vs2, d2, ds2, p2, q2, rfl, rfl, rfl, h2, r2⟩ := trodAll_cons r1
  obtain ⟨v3, vs3, d3, ds3, p3, q3, rfl, rfl, rfl, h3, r3⟩ := trodAll_cons r2
  obtain ⟨v4, vs4, d4, ds4, p4, q4, rfl, rfl, rfl, h4, r4⟩ := trodAll_cons r3
  obtain ⟨rfl, rfl, rfl⟩ := trodAll_nil r4
  obtain rfl : args = #[v0, v1, v2, v3, v4] := by cases args; simp_all
  obtain ⟨rfl, rfl⟩ := trodVars_none hV
  obtain ⟨a0, len0, cap0, rfl⟩ := okWide_slice Yba.underlying22 (hval 0 22 v0 rfl rfl)
  have k0 := h0
  have lt0 : ∀ x ∈ p0, x.block < W.heap.size := by obtain ⟨m, hm⟩ := k0; exact DataW.trod_lt m _ _ _ hm
  obtain ⟨z0, w0⟩ : ∃ zs, IsRow .i32 W a0 len0 cap0 zs := by
    obtain ⟨fuel, hf⟩ := h0
    rcases open_ints Yba.underlying22 Yba.underlying21 (by kernel_rfl) hf with ⟨hcs, _⟩ | ⟨x, l, c, zs, hcs, _, hl, hm, hz, _, hcell, hwz⟩
    · simp [Value.cells] at hcs
      obtain ⟨rfl, rfl, rfl⟩ := hcs
      exact ⟨[], .inl ⟨rfl, rfl, rfl, rfl⟩⟩
    · simp [Value.cells] at hcs
      obtain ⟨rfl, rfl, rfl⟩ := hcs
      exact ⟨zs, .inr ⟨_, rfl, hl, hm, by simpa using hz, hcell, hwz⟩⟩
  obtain ⟨a1, len1, cap1, rfl⟩ := okWide_slice Yba.underlying23 (hval 1 23 v1 rfl rfl)
  have k1 := h1
  have lt1 : ∀ x ∈ p1, x.block < W.heap.size := by obtain ⟨m, hm⟩ := k1; exact DataW.trod_lt m _ _ _ hm
  obtain ⟨z1, w1⟩ : ∃ zs, IsRow .i64 W a1 len1 cap1 zs := by
    obtain ⟨fuel, hf⟩ := h1
    rcases open_ints Yba.underlying23 Yba.underlying3 (by kernel_rfl) hf with ⟨hcs, _⟩ | ⟨x, l, c, zs, hcs, _, hl, hm, hz, _, hcell, hwz⟩
    · simp [Value.cells] at hcs
      obtain ⟨rfl, rfl, rfl⟩ := hcs
      exact ⟨[], .inl ⟨rfl, rfl, rfl, rfl⟩⟩
    · simp [Value.cells] at hcs
      obtain ⟨rfl, rfl, rfl⟩ := hcs
      exact ⟨zs, .inr ⟨_, rfl, hl, hm, by simpa using hz, hcell, hwz⟩⟩
  obtain ⟨a2, rfl, rfl, rfl, w2⟩ := open_int Yba.underlying21 (hval 2 21 v2 rfl rfl) h2
  obtain ⟨a3, rfl, rfl, rfl, w3⟩ := open_int Yba.underlying21 (hval 3 21 v3 rfl rfl) h3
  obtain ⟨a4, rfl, rfl, rfl, w4⟩ := open_int Yba.underlying3 (hval 4 3 v4 rfl rfl) h4
  clear hA0 hval0
  refine (walk a0 len0 cap0 z0 a1 len1 cap1 z1 a2 a3 a4 W w0 w1 w2 w3 w4).mono fun e W' ⟨he, bel⟩ => ?_
  subst he
  exact ⟨_, rfl, _, _, _, [], _, [], hW', trodAll_mk1 (shut_bool Yba.underlying4 _), (trodAll_cons_mk (Below.trod laidOut (by kernel_rfl) (of_decide_eq_true (by kernel_rfl)) k0 bel lt0) (trodAll_cons_mk (Below.trod laidOut (by kernel_rfl) (of_decide_eq_true (by kernel_rfl)) k1 bel lt1) (trodAll_cons_mk (shut_int Yba.underlying21 w2) (trodAll_cons_mk (shut_int Yba.underlying21 w3) (trodAll_cons_mk (shut_int Yba.underlying3 w4) trodAll_mk0))))), rfl, bel.frame _, fun h => by cases h⟩

theorem over : Rows.lawS0976BIntakeRow.holds Yba.pinned (OpenSpec.ofChange Rows.lawS0976BIntakeSpec) :=
  OpenClaim.holds_of_wide 3 Yba.f3 rfl rfl rfl rfl rfl rfl rfl ⟨rfl, rfl, rfl, rfl, rfl⟩ rfl rfl rfl rfl rfl (by kernel_rfl) Yba.func3 (by kernel_rfl)
    (of_decide_eq_true (by kernel_rfl)) (by unfold Func.isWrapper; first | (rw [if_pos (by decide +kernel)]; kernel_rfl) | (rw [if_neg (by decide +kernel)]; exact ⟨rfl, rfl⟩))
    (fun os started H enc _ => lifted os started H enc)

/-- ████ THE STATEMENT ████ -/
theorem proved : Rows.LawS0976BIntakeSaid := over
end Go.Proofs.Ybulkteo.lawS0976BIntake
