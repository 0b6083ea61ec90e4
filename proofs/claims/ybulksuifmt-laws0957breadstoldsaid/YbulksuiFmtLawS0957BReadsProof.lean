import Derived.Test.YbulksuiFmtCards
import Derived.Test.YbulksuiFmtReads
import Derived.Test.YbulksuiFmtEmpty
import Derived.WalkKit
import Derived.ProofKit
import Derived.OpenShut
import Derived.Stop.JoinedAt
import Derived.Stop.Texts
import Derived.Stop.JoinedTold
import Derived.SevenToldRow
import Derived.SizedLaws
import Derived.ChangeOld
import Derived.Below
namespace Go.Proofs.YbulksuiFmt.lawS0957BReads
open Go.ChangeShapes Go.WideShapes Go.ChangeAt Go.RowKit Go.Kit
open Go.Extern.Stop Go.Stop Go.Extern
set_option linter.unusedVariables false

theorem own : ownKnob Ybaf.prog.godebug = none := by kernel_rfl

theorem laidOut0 : laidOutB Ybaf.prog = true := by kernel_rfl

/-- What the walk is told of a slice of integers that came in. -/
def IsRow (k : IntKind) (w : World) (a : Option Addr) (len cap : Nat) (zs : List Int) : Prop :=
  (a = none ∧ len = 0 ∧ cap = 0 ∧ zs = []) ∨
  ∃ x, a = some x ∧ len ≤ cap ∧ cap ≤ maxLen ∧ zs.length = cap ∧ (∀ i, i < zs.length → w.cell? (x.add i) = some (.int k (zs.getD i 0))) ∧ ∀ n ∈ zs, (Lit.int k n).wf = true

theorem sf_iff (D : Nat → Nat) (hD : ∀ i, D i < 256) (n : Nat) :
    (n % 64 = 0 ∨ Bm.wd D ((n + 7) / 8) ((n + 63) / 64 - 1) / 2 ^ (n % 64) = 0) ↔ sf D n (8 * ((n + 7) / 8) - n) = false := by
  rw [sf_false]
  by_cases h : n % 64 = 0
  · exact ⟨fun _ i h1 h2 => by omega, fun _ => .inl h⟩
  · have := Bm.stray_iff D hD n h
    constructor
    · rintro (h1 | h1)
      · exact absurd h1 h
      · intro i hi1 hi2
        exact this.1 h1 i hi1 (by omega)
    · intro h1
      exact .inr (this.2 fun i hi1 hi2 => h1 i hi1 (by omega))

theorem walk (F : Interp) (a0 : Option Addr) (len0 cap0 : Nat) (z0 : List Int) (a1 : Int) (w : World) (hF : F.answers w.tape) (w0 : IsRow .u8 w a0 len0 cap0 z0) (w1 : (Lit.int .u16 a1).wf = true) :
    Calls Ybaf.prog 5 #[.slice a0 len0 cap0, .int .u16 a1] w fun e w' => e = .returned (.bool true) ∧ Below w.heap.size w w' := by
  have b1 := bounds_u16 w1
  obtain ⟨A1, rfl⟩ := Int.eq_ofNat_of_zero_le b1.1
  have hlc : len0 ≤ maxLen := by
    rcases w0 with ⟨_, rfl, _⟩ | ⟨x, _, h1, h2, _⟩ <;> omega
  unfold maxLen at hlc
  by_cases hl : len0 ≤ 1024
  · obtain ⟨n, hnn⟩ : ∃ n : Nat, (A1 : Int) % 600 = (n : Int) := ⟨A1 % 600, by omega⟩
    by_cases hlt : len0 < (n + 7) / 8
    · exact reads_short a0 len0 cap0 A1 n _ _ w hl (by omega) hnn rfl rfl hlt
    · rcases w0 with ⟨rfl, rfl, rfl, rfl⟩ | ⟨x, rfl, hlen, hm, hz, hcell, hwz⟩
      · exact reads_nil A1 w (by omega) (by omega)
      · by_cases hc0 : z0.length = 0
        · obtain rfl : cap0 = 0 := by omega
          obtain rfl : len0 = 0 := by omega
          exact reads_empty x A1 w (by omega) (by omega)
        · obtain ⟨b, off, rfl, hc⟩ := ints_at hcell (by omega)
          have hr := range_u8 hwz
          have hD : ∀ i, (fun i => (z0.getD i 0).toNat) i < 256 := by
            intro i
            have := hr i
            simp only [List.getD_eq_getElem?_getD]
            omega
          have hd : ∀ i, i < len0 → w.cell? ⟨b, off + i, none⟩ = some (.int .u8 (((fun i => (z0.getD i 0).toNat) i : Nat) : Int)) := by
            intro i hi
            have h1 := hc i (by omega)
            have hri := hr i
            rw [h1]
            simp only [List.getD_eq_getElem?_getD]
            rw [Int.toNat_of_nonneg hri.1]
          have hb : b < w.heap.size := World.block_lt_of_cell? _ _ (hc 0 (by omega))
          by_cases hs : sf (fun i => (z0.getD i 0).toNat) n (8 * ((n + 7) / 8) - n) = false
          · exact reads_ok F b off len0 cap0 A1 n _ _ _ _ rfl rfl _ w hF hD hl hlen (by omega) hnn rfl rfl (by omega) hb hd ((sf_iff _ hD n).2 hs) hs
          · exact reads_bad F b off len0 cap0 A1 n _ _ _ w hF hD hl hlen (by omega) hnn rfl rfl (by omega) hb hd (fun h => hs ((sf_iff _ hD n).1 h)) (by simpa using hs)
  · have hgt : (1024 : Int) < len0 := by omega
    go_enter Ybaf.func5, Ybaf.ntmps5
    go_wp2
    go_ret
    exact ⟨rfl, Below.refl _ _⟩

set_option maxRecDepth 100000 in
theorem lifted (os : Os) (started : os.Started) (H : Type) (enc : TypeId × Value → H) :
    ReturnsInTold none {} Ybaf.checked os 5 .any Input.okWide ((OpenSpec.ofChange Rows.lawS0957BReadsSpec).preRow enc Ybaf.prog Ybaf.f5 [] false []) (fun F => ((OpenSpec.ofChange Rows.lawS0957BReadsSpec).at F).post enc Ybaf.prog Ybaf.f5 false true false false) (aloneAtReturn Ybaf.prog) nothingAlways := by
  refine returnsInTold_of_row (C := Ybaf.checked) (s := OpenSpec.ofChange Rows.lawS0957BReadsSpec) (by kernel_rfl) own started (by kernel_rfl) Ybaf.func5
    (OpenSpec.witness_stopped (enc := enc) (C := Ybaf.checked) false ⟨#[], #[.slice none 0 0, .int .u16 0], []⟩ 8 (by kernel_rfl) (by kernel_rfl) (by kernel_rfl) (by kernel_rfl)) ?_
  intro F W base args ds gs before _ hF hval0 hW _ _ hsz _ _
  have hval : ∀ (j : Nat) t v, Ybaf.f5.params[j]? = some t → args[j]? = some v → Value.okWide Ybaf.prog W .any base t v := hval0
  have hW' := hW
  obtain ⟨p, q, hA0, hV, rfl, hfz, hnd⟩ := hW
  have hA : DataW.TrodAll enc Ybaf.prog W 0 (fun _ => true) true Ybaf.f5.params.toList args.toList ds p := hA0
  rw [Ybaf.params5] at hA hval
  obtain ⟨v0, vs0, d0, ds0, p0, q0, hargs, rfl, rfl, h0, r0⟩ := trodAll_cons hA
  obtain ⟨v1, vs1, d1, ds1, p1, q1, rfl, rfl, rfl, h1, r1⟩ := trodAll_cons r0
  obtain ⟨rfl, rfl, rfl⟩ := trodAll_nil r1
  obtain rfl : args = #[v0, v1] := by cases args; simp_all
  obtain ⟨rfl, rfl⟩ := trodVars_none hV
  obtain ⟨a0, len0, cap0, rfl⟩ := okWide_slice Ybaf.underlying33 (hval 0 33 v0 rfl rfl)
  have k0 := h0
  have lt0 : ∀ x ∈ p0, x.block < W.heap.size := by obtain ⟨m, hm⟩ := k0; exact DataW.trod_lt m _ _ _ hm
  obtain ⟨z0, w0⟩ : ∃ zs, IsRow .u8 W a0 len0 cap0 zs := by
    obtain ⟨fuel, hf⟩ := h0
    rcases open_ints Ybaf.underlying33 Ybaf.underlying5 (by kernel_rfl) hf with ⟨hcs, _⟩ | ⟨x, l, c, zs, hcs, _, hl, hm, hz, _, hcell, hwz⟩
    · simp [Value.cells] at hcs
      obtain ⟨rfl, rfl, rfl⟩ := hcs
      exact ⟨[], .inl ⟨rfl, rfl, rfl, rfl⟩⟩
    · simp [Value.cells] at hcs
      obtain ⟨rfl, rfl, rfl⟩ := hcs
      exact ⟨zs, .inr ⟨_, rfl, hl, hm, by simpa using hz, hcell, hwz⟩⟩
  obtain ⟨a1, rfl, rfl, rfl, w1⟩ := open_int Ybaf.underlying22 (hval 1 22 v1 rfl rfl) h1
  clear hA0 hval0
  refine (walk F.told a0 len0 cap0 z0 a1 W hF w0 w1).mono fun e W' ⟨he, bel⟩ => ?_
  subst he
  exact ⟨_, rfl, _, _, _, [], _, [], hW', trodAll_mk1 (shut_bool Ybaf.underlying4 _), (trodAll_cons_mk (Below.trod laidOut0 (by kernel_rfl) (of_decide_eq_true (by kernel_rfl)) k0 bel lt0) (trodAll_cons_mk (shut_int Ybaf.underlying22 w1) trodAll_mk0)), rfl, bel.frame _, fun h => by cases h⟩

theorem laidOut : laidOutB Ybaf.pinned.checked.prog = true := by kernel_rfl
theorem stops : Ybaf.pinned.checked.prog.stops = ["fmt.errorf"] := by kernel_rfl
theorem stopKnobs : Ybaf.pinned.checked.prog.stopKnobs = [] := by kernel_rfl
theorem quiet (os : Os) : Stop.quiet Ybaf.pinned.checked.prog os := by
  intro k hk
  rw [stopKnobs] at hk
  cases hk

/-- THE STATEMENT -/
theorem proved : Rows.LawS0957BReadsToldSaid :=
  Claim7.holds_of_told_any 5 Ybaf.f5 "fmt.errorf" [] [] _ _ _ (by kernel_rfl) rfl rfl rfl laidOut (by kernel_rfl) rfl ⟨rfl, rfl, rfl, rfl, rfl, rfl, rfl⟩ rfl rfl (by kernel_rfl) (by kernel_rfl) Ybaf.func5 (by kernel_rfl)
    (of_decide_eq_true (by kernel_rfl)) (of_decide_eq_true (by kernel_rfl)) stops.symm rfl stopKnobs.symm (by kernel_rfl)
    (by kernel_rfl) (by kernel_rfl) (by kernel_rfl) (by kernel_rfl) (by kernel_rfl) (by kernel_rfl) (by kernel_rfl) (by kernel_rfl) (by kernel_rfl) rfl (by kernel_rfl) rfl rfl
    rfl rfl
    rfl (by kernel_rfl) (by kernel_rfl) (by kernel_rfl) (by decide) (by kernel_rfl)
    (OpenClaim.moreEntering_of (by kernel_rfl) (by kernel_rfl) (by kernel_rfl) (by kernel_rfl) (by kernel_rfl) (by kernel_rfl) (by kernel_rfl) (by kernel_rfl) (by kernel_rfl) (by kernel_rfl))
    ⟨_, WideRow.started_initial, quiet _⟩
    (fun os started _ H enc _ => lifted os started H enc)
end Go.Proofs.YbulksuiFmt.lawS0957BReads
