/-
  The proof of 'Rows.LawS0960CBitsSaid' (the frame: after the guide's tool, for a slice of bools).
-/
import Derived.Test.YbulksvyBits
import Derived.WalkKit
import Derived.ProofKit
import Derived.OpenShut
import Derived.ChangeOld
import Derived.Below
import Derived.Deep.Grids
namespace Go.Proofs.Ybulksvy.lawS0960CBits
open Go.ChangeShapes Go.WideShapes Go.ChangeAt Go.RowKit Go.Proofs.Ybulksvy.Pk
set_option linter.unusedVariables false

theorem own : ownKnob Yba.prog.godebug = none := by kernel_rfl
theorem laidOut : laidOutB Yba.prog = true := by kernel_rfl

/-- What the walk is told of a slice of bools that came in. -/
def IsBools (w : World) (a : Option Addr) (len cap : Nat) (B : Nat → Bool) : Prop :=
  (a = none ∧ len = 0 ∧ cap = 0) ∨ ∃ x, a = some x ∧ len ≤ cap ∧ cap ≤ maxLen ∧ ∀ i, i < cap → w.cell? (x.add i) = some (.bool (B i))

theorem walk (a0 : Option Addr) (len0 cap0 : Nat) (B0 : Nat → Bool) (a1 : Int) (a2 : Int) (w : World) (w0 : IsBools w a0 len0 cap0 B0) (w1 : (Lit.int .u32 a1).wf = true) (w2 : (Lit.int .u8 a2).wf = true) :
    Calls Yba.prog 7 #[.slice a0 len0 cap0, .int .u32 a1, .int .u8 a2] w fun e w' => e = .returned (.bool true) ∧ Below w.heap.size w w' := by
  have b1 := bounds_u32 w1
  have b2 := bounds_u8 w2
  obtain ⟨v, rfl⟩ := Int.eq_ofNat_of_zero_le b1.1
  obtain ⟨A2, rfl⟩ := Int.eq_ofNat_of_zero_le b2.1
  have hlc : len0 ≤ maxLen := by
    rcases w0 with ⟨_, rfl, _⟩ | ⟨x, _, h1, h2, _⟩ <;> omega
  unfold maxLen at hlc
  by_cases hl : len0 ≤ 1024
  · obtain ⟨n, hnn⟩ : ∃ n : Nat, 1 + (A2 : Int) % 32 = (n : Int) := ⟨1 + A2 % 32, by omega⟩
    have hn32 : n ≤ 32 := by omega
    obtain ⟨K, hK⟩ : ∃ K : Nat, ((len0 : Int) + (n : Int) + 7) / 8 = (K : Int) := ⟨(len0 + n + 7) / 8, by omega⟩
    have hB : ∀ k, k < n → (fun i => if i < len0 then B0 i else v.testBit (n - 1 - (i - len0))) (len0 + k) = v.testBit (n - 1 - k) := by
      intro k hk
      simp only [if_neg (show ¬ len0 + k < len0 by omega)]
      rw [show len0 + k - len0 = k from by omega]
    by_cases h0 : len0 = 0
    · subst h0
      refine bits_any a0 0 cap0 v A2 n K (fun i => if i < 0 then B0 i else v.testBit (n - 1 - (i - 0))) w hl (by omega) (by omega) hnn hK ?_ hB ?_
      · intro i hi; omega
      · exact build_zero w a0 cap0 _
    · rcases w0 with ⟨rfl, rfl, rfl⟩ | ⟨x, rfl, hlen, hm, hcell⟩
      · omega
      · obtain ⟨b, off, spot⟩ := x
        have hspot : spot = none := by simpa [Addr.add] using World.cell?_spot (hcell 0 (by omega))
        subst hspot
        have hc : ∀ i, i < len0 → w.cell? ⟨b, off + i, none⟩ = some (.bool ((fun i => if i < len0 then B0 i else v.testBit (n - 1 - (i - len0))) i)) := by
          intro i hi
          have := hcell i (by omega)
          rw [Go.WideShapes.add_plain] at this
          simp only [if_pos hi]
          exact this
        have hb : b < w.heap.size := World.block_lt_of_cell? _ _ (hc 0 (by omega))
        refine bits_any (some ⟨b, off, none⟩) len0 cap0 v A2 n K (fun i => if i < len0 then B0 i else v.testBit (n - 1 - (i - len0))) w hl (by omega) (by omega) hnn hK ?_ hB ?_
        · exact fun i hi => ⟨b, off, rfl, hb, hc i hi⟩
        · exact build_any w b off len0 cap0 _ hl hb hc
  · have hgt : (1024 : Int) < len0 := by omega
    go_enter Yba.func7, Yba.ntmps7
    go_wp2
    go_ret
    exact ⟨rfl, Below.refl _ _⟩

set_option maxRecDepth 100000 in
theorem lifted (os : Os) (started : os.Started) (H : Type) (enc : TypeId × Value → H) :
    ReturnsInHanded {} Yba.checked os 7 .any (Rows.lawS0960CBitsSpec.pre6 enc Yba.prog Yba.f7 Rows.lawS0960CBitsRow.domain false) (Rows.lawS0960CBitsSpec.post enc Yba.prog Yba.f7 false true false false) := by
  refine returnsInHanded_of_change (C := Yba.checked) own started (by kernel_rfl) Yba.func7
    (ChangeSpec.witness6 (enc := enc) (C := Yba.checked) false ⟨#[], #[.slice none 0 0, .int .u32 0, .int .u8 0], []⟩ 8 (by kernel_rfl) (by kernel_rfl) (by kernel_rfl) (by kernel_rfl)) ?_
  intro W base args ds gs before hval0 hW hcnd _
  have hval : ∀ (j : Nat) t v, Yba.f7.params[j]? = some t → args[j]? = some v → Value.okWide Yba.prog W .any base t v := hval0
  have hW' := hW
  obtain ⟨p, q, hA0, hV, rfl, hfz, hnd⟩ := hW
  have hA : DataW.TrodAll enc Yba.prog W 0 (fun _ => true) true Yba.f7.params.toList args.toList ds p := hA0
  rw [Yba.params7] at hA hval
  obtain ⟨v0, vs0, d0, ds0, p0, q0, hargs, rfl, rfl, h0, r0⟩ := trodAll_cons hA
  obtain ⟨v1, vs1, d1, ds1, p1, q1, rfl, rfl, rfl, h1, r1⟩ := trodAll_cons r0
  obtain ⟨v2, vs2, d2, ds2, p2, q2, rfl, rfl, rfl, h2, r2⟩ := trodAll_cons r1
  obtain ⟨rfl, rfl, rfl⟩ := trodAll_nil r2
  obtain rfl : args = #[v0, v1, v2] := by cases args; simp_all
  obtain ⟨rfl, rfl⟩ := trodVars_none hV
  obtain ⟨a0, len0, cap0, rfl⟩ := okWide_slice Yba.underlying35 (hval 0 35 v0 rfl rfl)
  have k0 := h0
  have lt0 : ∀ x ∈ p0, x.block < W.heap.size := by obtain ⟨m, hm⟩ := k0; exact DataW.trod_lt m _ _ _ hm
  obtain ⟨B0, w0⟩ : ∃ B, IsBools W a0 len0 cap0 B := by
    obtain ⟨fuel, hf⟩ := h0
    rcases Go.Deep.open_bools Yba.underlying35 Yba.underlying4 (by kernel_rfl) hf with ⟨hcs, _⟩ | ⟨x, l, c, B, hcs, _, hl, hm, _, hcell⟩
    · simp [Value.cells] at hcs
      obtain ⟨rfl, rfl, rfl⟩ := hcs
      exact ⟨fun _ => false, .inl ⟨rfl, rfl, rfl⟩⟩
    · simp [Value.cells] at hcs
      obtain ⟨rfl, rfl, rfl⟩ := hcs
      exact ⟨B, .inr ⟨_, rfl, hl, hm, hcell⟩⟩
  obtain ⟨a1, rfl, rfl, rfl, w1⟩ := open_int Yba.underlying28 (hval 1 28 v1 rfl rfl) h1
  obtain ⟨a2, rfl, rfl, rfl, w2⟩ := open_int Yba.underlying5 (hval 2 5 v2 rfl rfl) h2
  clear hA0 hval0
  refine (walk a0 len0 cap0 B0 a1 a2 W w0 w1 w2).mono fun e W' ⟨he, bel⟩ => ?_
  subst he
  exact ⟨_, rfl, _, _, _, [], _, [], hW', trodAll_mk1 (shut_bool Yba.underlying4 _), (trodAll_cons_mk (Below.trod laidOut (by kernel_rfl) (of_decide_eq_true (by kernel_rfl)) k0 bel lt0) (trodAll_cons_mk (shut_int Yba.underlying28 w1) (trodAll_cons_mk (shut_int Yba.underlying5 w2) trodAll_mk0))), rfl, bel.frame _, fun h => by cases h⟩

theorem over : Rows.lawS0960CBitsRow.holds Yba.pinned (OpenSpec.ofChange Rows.lawS0960CBitsSpec) :=
  OpenClaim.holds_of_wide 7 Yba.f7 rfl rfl rfl rfl rfl rfl rfl ⟨rfl, rfl, rfl, rfl, rfl⟩ rfl rfl rfl rfl rfl (by kernel_rfl) Yba.func7 (by kernel_rfl)
    (of_decide_eq_true (by kernel_rfl)) (by unfold Func.isWrapper; first | (rw [if_pos (by decide +kernel)]; kernel_rfl) | (rw [if_neg (by decide +kernel)]; exact ⟨rfl, rfl⟩))
    (fun os started H enc _ => lifted os started H enc)

/-- ████ THE STATEMENT ████ -/
theorem proved : Rows.LawS0960CBitsSaid := over
end Go.Proofs.Ybulksvy.lawS0960CBits
