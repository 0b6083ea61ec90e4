import Derived.Test.YbulksuiFmtSet
import Derived.Test.YbulksuiFmtErr
namespace Go.Proofs.YbulksuiFmt
open Go.ChangeShapes Go.WideShapes Go.ChangeAt Go.RowKit Bm
open Go.Extern.Stop Go.Stop Go.Extern

/-- What a world holds of the words at block q and of the bytes. -/
structure St (w : World) (q k : Nat) (g : Nat → Nat) (bb off len : Nat) (D : Nat → Nat) : Prop where
  s : ∀ i, i < k → w.cell? ⟨q, i, none⟩ = some (.int .u64 (g i : Int))
  f : ∀ i, i < k → w.frozen? ⟨q, i, none⟩ = false
  d : ∀ i, i < len → w.cell? ⟨bb, off + i, none⟩ = some (.int .u8 (D i : Int))

theorem or_next (D : Nat → Nat) (hD : ∀ i, D i < 256) (m : Nat) :
    bits BinOp.or IntKind.u64 (wd D m (m / 8) : Int) (IntKind.u64.wrap (IntKind.u64.wrap (D m : Int) * 2 ^ (8 * (m % 8)))) = (wd D (m + 1) (m / 8) : Int) := by
  have h1 := hD m
  have h2 := wd_cur_lt D hD m
  have h3 := wd_lt D hD (m + 1) (m / 8)
  have h4 := wd_next D m
  have h5 := wd_lt D hD m (m / 8)
  have e1 : IntKind.u64.wrap (D m : Int) = (D m : Int) := by rw [IntKind.wrap_u64]; omega
  have e2 : IntKind.u64.wrap ((D m : Int) * 2 ^ (8 * (m % 8))) = ((2 ^ (8 * (m % 8)) * D m : Nat) : Int) := by
    rw [show (D m : Int) * 2 ^ (8 * (m % 8)) = ((2 ^ (8 * (m % 8)) * D m : Nat) : Int) from by rw [Int.natCast_mul, Int.natCast_pow, Int.mul_comm]; rfl]
    generalize 2 ^ (8 * (m % 8)) * D m = Y at *
    rw [IntKind.wrap_u64]; omega
  rw [e1, e2, u64_or_nat _ _ h5 (by omega), h4, Nat.or_comm, ← Nat.two_pow_add_eq_or_of_lt h2]

theorem St.next {w : World} {q k bb off len m : Nat} {D : Nat → Nat} (h : St w q k (wd D m) bb off len D) (hD : ∀ i, D i < 256) (hbq : bb < q) :
    St (w.setCell ⟨q, m / 8, none⟩ (.int .u64 (bits BinOp.or IntKind.u64 (wd D m (m / 8) : Int) (IntKind.u64.wrap (IntKind.u64.wrap (D m : Int) * 2 ^ (8 * (m % 8))))))).drew q k (wd D (m + 1)) bb off len D := by
  refine ⟨?_, ?_, ?_⟩
  · intro i hi
    rw [World.cell?_drew]
    by_cases he : i = m / 8
    · subst he
      rw [or_next D hD]
      exact World.cell?_setCell_same _ _ _ (h.s _ hi)
    · rw [World.cell?_setCell_other _ _ _ _ (fun e => by have := congrArg Addr.off e; simp at this; omega), wd_other D m i he]
      exact h.s i hi
  · intro i hi
    rw [World.frozen?_drew, World.frozen?_setCell]
    exact h.f i hi
  · intro i hi
    rw [World.cell?_drew, World.cell?_setCell_other _ _ _ _ (fun e => by have := congrArg Addr.block e; simp at this; omega)]
    exact h.d i hi

theorem St.below {w w' : World} {q k bb off len : Nat} {g D : Nat → Nat} (h : St w q k g bb off len D) (hb : Below w.heap.size w w') (hq : q < w.heap.size) (hbq : bb < q) : St w' q k g bb off len D := by
  refine ⟨?_, ?_, ?_⟩
  · intro i hi; rw [hb.cell (p := ⟨q, i, none⟩) hq]; exact h.s i hi
  · intro i hi; rw [hb.frozen (p := ⟨q, i, none⟩) hq]; exact h.f i hi
  · intro i hi; rw [hb.cell (p := ⟨bb, off + i, none⟩) (by show bb < _; omega)]; exact h.d i hi

set_option maxRecDepth 100000 in
set_option maxHeartbeats 2000000 in
theorem rb_short (w : World) (a : Option Addr) (len cap : Nat) (v : Value) (n : Nat) (hn : n ≤ 599) (hlt : (len : Int) < ((n : Int) + 7) / 8) :
    Calls Ybaf.prog 10 #[.slice a len cap, v, .int .i64 (n : Int)] w fun e w' => (∃ x, e = .returned (.tuple #[.slice none 0 0, .iface 51 (.pointer (some x))])) ∧ Below w.heap.size w w' := by
  go_enter Ybaf.func10, Ybaf.ntmps10
  go_wp2_with (go_at_call 17; refine (new_err _ _).mono ?_; rintro e w' ⟨⟨x, rfl⟩, hb⟩)
  go_ret2
  exact ⟨⟨_, rfl⟩, hb⟩

/-- What readBitmap answers. -/
def RbPost (D : Nat → Nat) (n k size bb off len cap : Nat) (e : Ending) : Prop :=
  if n % 64 = 0 ∨ wd D size (k - 1) / 2 ^ (n % 64) = 0 then ∃ o, (size < len → o = off + size) ∧ e = .returned (.tuple #[.slice (some ⟨bb, o, none⟩) (len - size) (cap - size), .nilIface])
  else ∃ x, e = .returned (.tuple #[.slice none 0 0, .iface 51 (.pointer (some x))])

theorem RbPost.ok {D : Nat → Nat} {n k size bb off len cap : Nat} (h : n % 64 = 0 ∨ wd D size (k - 1) / 2 ^ (n % 64) = 0) (o l' c' : Nat) (ho : size < len → o = off + size) (hl : l' = len - size) (hc : c' = cap - size) :
    RbPost D n k size bb off len cap (.returned (.tuple #[.slice (some ⟨bb, o, none⟩) l' c', .nilIface])) := by
  subst hc hl
  unfold RbPost
  rw [if_pos h]
  exact ⟨o, ho, rfl⟩

theorem RbPost.no {D : Nat → Nat} {n k size bb off len cap : Nat} (h : ¬ (n % 64 = 0 ∨ wd D size (k - 1) / 2 ^ (n % 64) = 0)) (x : Addr) :
    RbPost D n k size bb off len cap (.returned (.tuple #[.slice none 0 0, .iface 51 (.pointer (some x))])) := by
  unfold RbPost
  rw [if_neg h]
  exact ⟨x, rfl⟩

set_option maxRecDepth 100000 in
set_option maxHeartbeats 2000000 in
theorem rb_main (F : Interp) (w : World) (hF : F.answers w.tape) (bb off len cap q k n size : Nat) (D : Nat → Nat) (hD : ∀ i, D i < 256) (hn : n ≤ 599) (hl : len ≤ 1024) (hlc : len ≤ cap)
    (hk : k = (n + 63) / 64) (hsize : size = (n + 7) / 8) (hsl : size ≤ len) (hbq : bb < q) (hqw : q < w.heap.size) (hS : St w q k (wd D 0) bb off len D) :
    Calls Ybaf.prog 10 #[.slice (some ⟨bb, off, none⟩) len cap, .slice (some ⟨q, 0, none⟩) k k, .int .i64 (n : Int)] w fun e w' =>
      (RbPost D n k size bb off len cap e ∧ Below q w w' ∧ St w' q k (wd D size) bb off len D) := by
  have hd : ((n : Int) + 7) / 8 = (size : Int) := by omega
  have hge : ¬ (len : Int) < (size : Int) := by omega
  have hcap : size ≤ cap := by omega
  have hs75 : size ≤ 75 := by omega
  have hk1 : n ≤ 64 * k := by omega
  have hk2 : 64 * k < n + 64 := by omega
  have HK : Hid (k = (n + 63) / 64) := hk
  clear hsize hk
  go_enter Ybaf.func10, Ybaf.ntmps10
  go_wp2
  go_loopw [23] (fun i W => ∃ m : Nat, m ≤ size ∧ i = .int .i64 m ∧ Below q w W ∧ St W q k (wd D m) bb off len D) (fun i _ => size - (intOf i).toNat)
  case atStart => exact ⟨0, Nat.zero_le _, rfl, Below.refl _ _, hS⟩
  case round =>
    obtain ⟨m, hm, rfl, hbel, hW⟩ := hrel
    by_cases hlt : m < size
    · have hcs := hW.s (m / 8) (by omega)
      have hfs := hW.f (m / 8) (by omega)
      have hcd := hW.d m (by omega)
      have hmk : m / 8 < k := by omega
      go_wp2
      go_region
      go_wp2
      have hN := hW.next hD hbq
      go_roundw
      case rel => exact ⟨m + 1, by omega, by go_num, (hbel.setCell (Nat.le_refl _) _).drew, hN⟩
      case measure => simp [intOf]; omega
    · have hms : m = size := by omega
      subst hms
      have hqr : q < wr.heap.size := Nat.lt_of_lt_of_le hqw hbel.size
      have hFr : F.answers wr.tape := by rw [hbel.tape]; exact hF
      have HFr : Hid (F.answers wr.tape) := hFr
      clear hFr hF
      have HW : Hid (St wr q k (wd D m) bb off len D) := hW
      clear hW
      clear hS
      by_cases h64 : n % 64 = 0
      · have h64' : (n : Int) % 64 = 0 := by omega
        by_cases hcz : m < cap
        · have hcz' : ¬ m = cap := by omega
          go_wp2_with (go_at_call 18; refine (below_zero _ _ n hn h64').mono ?_; rintro e w' ⟨rfl, rfl⟩)
          go_ret2
          exact ⟨RbPost.ok (.inl h64) (off + m) _ _ (fun _ => rfl) rfl rfl, hbel, HW.out⟩
        · have hcm : cap = m := by omega
          subst hcm
          have ho : cap < len → off = off + cap := fun h => by omega
          go_wp2_with (go_at_call 18; refine (below_zero _ _ n hn h64').mono ?_; rintro e w' ⟨rfl, rfl⟩)
          go_ret2
          have hl0 : 0 = len - cap := by omega
          exact ⟨RbPost.ok (.inl h64) off _ _ ho hl0 (Nat.sub_self _).symm, hbel, HW.out⟩
      · have hx := wd_lt D hD m (k - 1)
        by_cases hz : wd D m (k - 1) / 2 ^ (n % 64) = 0
        · by_cases hcz : m < cap
          · have hcz' : ¬ m = cap := by omega
            go_wp2_with (go_at_call 18; refine (below_any _ q k n (wd D m (k - 1)) hn h64 HK.out hx (HW.out.s (k - 1) (by omega))).mono ?_; rw [decide_eq_true hz]; rintro e w' ⟨rfl, rfl⟩)
            go_ret2
            exact ⟨RbPost.ok (.inr hz) (off + m) _ _ (fun _ => rfl) rfl rfl, hbel, HW.out⟩
          · have hcm : cap = m := by omega
            subst hcm
            have ho : cap < len → off = off + cap := fun h => by omega
            go_wp2_with (go_at_call 18; refine (below_any _ q k n (wd D cap (k - 1)) hn h64 HK.out hx (HW.out.s (k - 1) (by omega))).mono ?_; rw [decide_eq_true hz]; rintro e w' ⟨rfl, rfl⟩)
            go_ret2
            have hl0 : 0 = len - cap := by omega
            exact ⟨RbPost.ok (.inr hz) off _ _ ho hl0 (Nat.sub_self _).symm, hbel, HW.out⟩
        · go_wp2_with (go_at_call 18; refine (below_any _ q k n (wd D m (k - 1)) hn h64 HK.out hx (HW.out.s (k - 1) (by omega))).mono ?_; rw [decide_eq_false hz]; rintro e w' ⟨rfl, rfl⟩)
          refine (errorf_any F n _ _ ?_ ?_).mono ?_
          · exact HFr.out
          · simp
          rintro e w2 ⟨⟨x, rfl⟩, hb2⟩
          have hall : Below w'.heap.size w' w2 := ((Below.refl _ w').alloc (Nat.le_refl _) _).trans (hb2.mono (by simp))
          go_wp2
          go_ret2
          exact ⟨RbPost.no (by rintro (h | h); exact h64 h; exact hz h) x, hbel.trans (hall.mono (by omega)), HW.out.below hall hqr hbq⟩

theorem rb_ok (F : Interp) (w : World) (hF : F.answers w.tape) (bb off len cap q k n size : Nat) (D : Nat → Nat) (hD : ∀ i, D i < 256) (hn : n ≤ 599) (hl : len ≤ 1024) (hlc : len ≤ cap)
    (hk : k = (n + 63) / 64) (hsize : size = (n + 7) / 8) (hsl : size ≤ len) (hbq : bb < q) (hqw : q < w.heap.size) (hS : St w q k (wd D 0) bb off len D) (hc : n % 64 = 0 ∨ wd D size (k - 1) / 2 ^ (n % 64) = 0) :
    Calls Ybaf.prog 10 #[.slice (some ⟨bb, off, none⟩) len cap, .slice (some ⟨q, 0, none⟩) k k, .int .i64 (n : Int)] w fun e w' =>
      ∃ o, (size < len → o = off + size) ∧ e = .returned (.tuple #[.slice (some ⟨bb, o, none⟩) (len - size) (cap - size), .nilIface]) ∧ Below q w w' ∧ St w' q k (wd D size) bb off len D := by
  refine (rb_main F w hF bb off len cap q k n size D hD hn hl hlc hk hsize hsl hbq hqw hS).mono ?_
  rintro e w' ⟨hp, hb, hs⟩
  unfold RbPost at hp
  rw [if_pos hc] at hp
  obtain ⟨o, ho, he⟩ := hp
  exact ⟨o, ho, he, hb, hs⟩

theorem rb_bad (F : Interp) (w : World) (hF : F.answers w.tape) (bb off len cap q k n size : Nat) (D : Nat → Nat) (hD : ∀ i, D i < 256) (hn : n ≤ 599) (hl : len ≤ 1024) (hlc : len ≤ cap)
    (hk : k = (n + 63) / 64) (hsize : size = (n + 7) / 8) (hsl : size ≤ len) (hbq : bb < q) (hqw : q < w.heap.size) (hS : St w q k (wd D 0) bb off len D) (hc : ¬ (n % 64 = 0 ∨ wd D size (k - 1) / 2 ^ (n % 64) = 0)) :
    Calls Ybaf.prog 10 #[.slice (some ⟨bb, off, none⟩) len cap, .slice (some ⟨q, 0, none⟩) k k, .int .i64 (n : Int)] w fun e w' =>
      ∃ x, e = .returned (.tuple #[.slice none 0 0, .iface 51 (.pointer (some x))]) ∧ Below q w w' ∧ St w' q k (wd D size) bb off len D := by
  refine (rb_main F w hF bb off len cap q k n size D hD hn hl hlc hk hsize hsl hbq hqw hS).mono ?_
  rintro e w' ⟨hp, hb, hs⟩
  unfold RbPost at hp
  rw [if_neg hc] at hp
  obtain ⟨x, he⟩ := hp
  exact ⟨x, he, hb, hs⟩

set_option maxRecDepth 100000 in
set_option maxHeartbeats 2000000 in
theorem rb_nil (w : World) (q : Nat) :
    Calls Ybaf.prog 10 #[.slice none 0 0, .slice (some ⟨q, 0, none⟩) 0 0, .int .i64 0] w fun e w' => e = .returned (.tuple #[.slice none 0 0, .nilIface]) ∧ w' = w := by
  go_enter Ybaf.func10, Ybaf.ntmps10
  go_wp2
  go_rounds 1
  go_ret2
  exact ⟨rfl, rfl⟩
end Go.Proofs.YbulksuiFmt
