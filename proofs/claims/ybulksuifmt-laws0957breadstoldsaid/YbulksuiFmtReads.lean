import Derived.Test.YbulksuiFmtRb
import Derived.WalkSpells
import Derived.LaidEqlPtr
import Derived.Lib.SliceRun
namespace Go.Proofs.YbulksuiFmt
open Go.ChangeShapes Go.WideShapes Go.ChangeAt Go.RowKit Bm
open Go.Extern.Stop Go.Stop Go.Extern

theorem run_neq_ptr_same (w : World) (a : Addr) : (binOp .neq 41 (.pointer (some a)) (.pointer (some a))).run Ybaf.prog w = .ok (.bool false) w := by
  obtain ⟨j, hj⟩ : ∃ j, Ybaf.prog.info? 5 = some j := ⟨_, rfl⟩
  have h : ∀ d : Nat, (Op.equalIn (d + 1) 41 (.pointer (some a)) (.pointer (some a))).run Ybaf.prog w = .ok true w := fun d => by
    simp [Op.equalIn, run_underlying Ybaf.underlying41, sizeOf, typeInfo, hj, run_sameAddr_same]
  simp only [binOp]
  simp [Op.equal, Op.maxDepth, h 9999]

theorem made_cell (w : World) (k i : Nat) (h : i < k) : (w.alloc (.cells (madeCells (Value.int .u64 0).cells k) 29)).cell? ⟨w.heap.size, i, none⟩ = some (.int .u64 0) := by
  rw [World.cell?_alloc_new]
  simp [madeCells, h, Value.cells, Nat.mod_one]

theorem made_frozen (w : World) (k i : Nat) : (w.alloc (.cells (madeCells (Value.int .u64 0).cells k) 29)).frozen? ⟨w.heap.size, i, none⟩ = false := by simp

set_option maxRecDepth 100000 in
set_option maxHeartbeats 2000000 in
theorem reads_short (a : Option Addr) (len cap A1 n k size : Nat) (w : World) (hl : len ≤ 1024) (hA : A1 < 65536) (hnn : (A1 : Int) % 600 = (n : Int)) (hk : k = (n + 63) / 64) (hsize : size = (n + 7) / 8) (hlt : len < size) :
    Calls Ybaf.prog 5 #[.slice a len cap, .int .u16 (A1 : Int)] w fun e w' => e = .returned (.bool true) ∧ Below w.heap.size w w' := by
  have hn : n ≤ 599 := by omega
  have hd : ((n : Int) + 7) / 8 = (size : Int) := by omega
  have hk10 : k ≤ 10 := by omega
  have hlt' : (len : Int) < (size : Int) := by omega
  have q33 : ∀ (w : World) (a : Option Addr) (n c n' c' : Nat), (binOp .neq 33 (.slice a n c) (.slice none n' c')).run Ybaf.prog w = .ok (.bool (!a.isNone)) w := fun w a n c n' c' => run_neq_slice_nil_any w _ _ a n c n' c' Ybaf.underlying33
  have HK : Hid ((n : Int) + 63 = 64 * (k : Int) + ((n : Int) + 63) % 64) := by show (n : Int) + 63 = 64 * (k : Int) + ((n : Int) + 63) % 64; omega
  have HD : Hid (((n : Int) + 7) / 8 = (size : Int)) := hd
  clear hk hsize
  go_enter Ybaf.func5, Ybaf.ntmps5
  go_wp2_with (go_at_call 9; refine (new_any n k hn HK.out _).mono ?_; rintro e w' ⟨rfl, rfl⟩)
  refine (rb_short _ a len cap _ n hn (by rw [HD.out]; exact hlt')).mono ?_
  rintro e w2 ⟨⟨x, rfl⟩, hb⟩
  have hcs : ∀ i, i < k → w2.cell? ⟨w.heap.size, i, none⟩ = some (.int .u64 0) := fun i hi => by
    rw [hb.cell (p := ⟨w.heap.size, i, none⟩) (by simp)]; exact made_cell w k i hi
  have hbel : Below w.heap.size w w2 := ((Below.refl _ w).alloc (Nat.le_refl _) _).trans (hb.mono (by simp))
  clear hb
  go_wp2
  go_loop [10] (fun i => ∃ m : Nat, m ≤ k ∧ i = .int .i64 m) (fun i => k - (intOf i).toNat)
  case atStart => exact ⟨0, Nat.zero_le _, rfl⟩
  case round =>
    obtain ⟨m, hm, rfl⟩ := hrel
    by_cases hmk : m < k
    · have hc := hcs m hmk
      go_wp2
      go_round
      case rel => exact ⟨m + 1, by omega, by go_num⟩
      case measure => simp [intOf]; omega
    · go_wp2
      go_ret
      exact ⟨rfl, hbel⟩

set_option maxRecDepth 100000 in
set_option maxHeartbeats 2000000 in
theorem reads_nil (A1 : Nat) (w : World) (hA : A1 < 65536) (hnn : (A1 : Int) % 600 = 0) :
    Calls Ybaf.prog 5 #[.slice none 0 0, .int .u16 (A1 : Int)] w fun e w' => e = .returned (.bool true) ∧ Below w.heap.size w w' := by
  go_enter Ybaf.func5, Ybaf.ntmps5
  go_wp2_with (go_at_call 9; refine (new_any 0 0 (by omega) (by omega) _).mono ?_; rintro e w' ⟨rfl, rfl⟩)
  refine (rb_nil _ _).mono ?_
  rintro e w2 ⟨rfl, rfl⟩
  go_wp2
  go_rounds 1
  go_rounds 1
  go_quiet (fail)
  go_wp2
  go_ret
  exact ⟨rfl, below_drewN ((Below.refl _ w).alloc (Nat.le_refl _) _) _⟩

/-- Is one of the j bits from n on set? -/
def sf (D : Nat → Nat) (n : Nat) : Nat → Bool
  | 0 => false
  | j + 1 => sf D n j || (D ((n + j) / 8)).testBit ((n + j) % 8)

theorem sf_false (D : Nat → Nat) (n j : Nat) : sf D n j = false ↔ ∀ i, n ≤ i → i < n + j → (D (i / 8)).testBit (i % 8) = false := by
  induction j with
  | zero => exact ⟨fun _ i h1 h2 => by omega, fun _ => rfl⟩
  | succ j ih =>
    simp only [sf, Bool.or_eq_false_iff, ih]
    constructor
    · rintro ⟨h1, h2⟩ i hi1 hi2
      by_cases he : i = n + j
      · subst he; exact h2
      · exact h1 i hi1 (by omega)
    · intro h
      exact ⟨fun i h1 h2 => h i h1 (by omega), h (n + j) (by omega) (by omega)⟩

set_option maxRecDepth 100000 in
set_option maxHeartbeats 4000000 in
theorem reads_ok (F : Interp) (bb off len cap A1 n k size L C : Nat) (hL : L = len - size) (hC : C = cap - size) (D : Nat → Nat) (w : World) (hF : F.answers w.tape) (hD : ∀ i, D i < 256) (hl : len ≤ 1024) (hlc : len ≤ cap) (hA : A1 < 65536) (hnn : (A1 : Int) % 600 = (n : Int)) (hk : k = (n + 63) / 64)
    (hsize : size = (n + 7) / 8) (hsl : size ≤ len) (hbb : bb < w.heap.size) (hd0 : ∀ i, i < len → w.cell? ⟨bb, off + i, none⟩ = some (.int .u8 (D i : Int))) (hc : n % 64 = 0 ∨ wd D size (k - 1) / 2 ^ (n % 64) = 0)
    (hs : sf D n (8 * size - n) = false) :
    Calls Ybaf.prog 5 #[.slice (some ⟨bb, off, none⟩) len cap, .int .u16 (A1 : Int)] w fun e w' => e = .returned (.bool true) ∧ Below w.heap.size w w' := by
  have hn : n ≤ 599 := by omega
  have hd : ((n : Int) + 7) / 8 = (size : Int) := by omega
  have hk10 : k ≤ 10 := by omega
  have h8 : 8 * size ≤ 64 * k := by omega
  have hns : n ≤ 8 * size := by omega
  have hge : ¬ (len : Int) < (size : Int) := by omega
  have hs75 : size ≤ 75 := by omega
  have hlsb : decide (len < size) = false := by simp; omega
  have q33 : ∀ (w : World) (a : Option Addr) (n c n' c' : Nat), (binOp .neq 33 (.slice a n c) (.slice none n' c')).run Ybaf.prog w = .ok (.bool (!a.isNone)) w := fun w a n c n' c' => run_neq_slice_nil_any w _ _ a n c n' c' Ybaf.underlying33
  have q41 := run_neq_ptr_same
  have HK : Hid ((n : Int) + 63 = 64 * (k : Int) + ((n : Int) + 63) % 64) := by show (n : Int) + 63 = 64 * (k : Int) + ((n : Int) + 63) % 64; omega
  have HC : Hid (∀ w1, F.answers w1.tape → w.heap.size < w1.heap.size → St w1 w.heap.size k (wd D 0) bb off len D → Calls Ybaf.prog 10 #[.slice (some ⟨bb, off, none⟩) len cap, .slice (some ⟨w.heap.size, 0, none⟩) k k, .int .i64 (n : Int)] w1 fun e w' =>
      ∃ o, (size < len → o = off + size) ∧ e = .returned (.tuple #[.slice (some ⟨bb, o, none⟩) L C, .nilIface]) ∧ Below w.heap.size w1 w' ∧ St w' w.heap.size k (wd D size) bb off len D) :=
    fun w1 hF1 hq1 hS1 => by rw [hL, hC]; exact rb_ok F w1 hF1 bb off len cap w.heap.size k n size D hD hn hl hlc hk hsize hsl hbb hq1 hS1 hc
  have hS0 : Hid (St (w.alloc (.cells (madeCells (Value.int .u64 0).cells k) 29)) w.heap.size k (wd D 0) bb off len D) :=
    ⟨fun i hi => by rw [wd_zero]; exact made_cell w k i hi, fun i _ => made_frozen w k i, fun i hi => by rw [World.cell?_alloc_lt _ _ _ hbb]; exact hd0 i hi⟩
  have HF : Hid (F.answers w.tape) := hF
  have HS : Hid (sf D n (8 * size - n) = false) := hs
  have HD : Hid (∀ i, D i < 256) := hD
  have hLn : ((L : Int) != (len : Int) - (size : Int)) = false := by rw [bne_eq_false_iff_eq]; omega
  have hL1 : L + size ≤ len := by omega
  have hL2 : len ≤ L + size := by omega
  have hC1 : L ≤ C := by omega
  clear hk hsize hF hs hd0 hc hD hL hC
  go_enter Ybaf.func5, Ybaf.ntmps5
  go_wp2_with (go_at_call 9; refine (new_any n k hn HK.out _).mono ?_; rintro e w' ⟨rfl, rfl⟩)
  refine (HC.out _ ?_ ?_ hS0.out).mono ?_
  · exact HF.out
  · simp
  rintro e w2 ⟨o, ho, rfl, hb, hSt⟩
  have hbel : Below w.heap.size w w2 := ((Below.refl _ w).alloc (Nat.le_refl _) _).trans hb
  have HSt : Hid (St w2 w.heap.size k (wd D size) bb off len D) := hSt
  have HO : Hid (size < len → o = off + size) := ho
  clear hb hSt ho
  go_wp2
  go_loop [11] (fun i => ∃ m : Nat, m ≤ 64 * k ∧ i = .int .i64 m) (fun i => 64 * k - (intOf i).toNat)
  case atStart => exact ⟨0, Nat.zero_le _, rfl⟩
  case round =>
    obtain ⟨m, hm, rfl⟩ := hrel
    by_cases hmk : m < 64 * k
    · have hc := HSt.out.s (m / 64) (by omega)
      have hx := wd_lt D HD.out size (m / 64)
      have hb64 := bit64 (wd D size (m / 64)) (m % 64) hx
      rw [wd_bit D HD.out] at hb64
      by_cases hin : m < 8 * size
      · rw [decide_eq_true hin, Bool.true_and] at hb64
        have hcd := HSt.out.d (m / 8) (by omega)
        have hdd := HD.out (m / 8)
        go_wp2_with fail
        refine (bit_any _ bb off len cap m (D (m / 8)) (by omega) hl hcd hdd).mono ?_
        rintro e w' ⟨rfl, hw⟩
        rw [hw]
        clear hw w'
        go_wp2
        go_round
        case rel => exact ⟨m + 1, by omega, by go_num⟩
        case measure => simp [intOf]; omega
      · rw [decide_eq_false hin, Bool.false_and] at hb64
        go_wp2
        go_round
        case rel => exact ⟨m + 1, by omega, by go_num⟩
        case measure => simp [intOf]; omega
    · go_wp2
      go_loop [14, 15] (fun b i => ∃ j : Nat, j ≤ 8 * size - n ∧ i = .int .i64 ((n + j : Nat) : Int) ∧ b = .bool (sf D n j)) (fun _ i => 8 * size - (intOf i).toNat)
      case atStart => exact ⟨0, Nat.zero_le _, rfl, rfl⟩
      case round =>
        obtain ⟨j, hj, rfl, rfl⟩ := hrel
        by_cases hjs : j < 8 * size - n
        · have hcd := HSt.out.d ((n + j) / 8) (by omega)
          have hdd := HD.out ((n + j) / 8)
          have hsf : sf D n (j + 1) = (sf D n j || (D ((n + j) / 8)).testBit ((n + j) % 8)) := rfl
          have HSF : Hid (sf D n (j + 1) = (sf D n j || (D ((n + j) / 8)).testBit ((n + j) % 8))) := hsf
          clear hsf
          generalize hbit : (D ((n + j) / 8)).testBit ((n + j) % 8) = bt at *
          have HB : Hid ((D ((n + j) / 8)).testBit ((n + j) % 8) = bt) := hbit
          clear hbit
          have hct : Hid (∀ w1, w1.cell? ⟨bb, off + (n + j) / 8, none⟩ = some (.int .u8 (D ((n + j) / 8) : Int)) → Calls Ybaf.prog 11 #[.slice (some ⟨bb, off, none⟩) len cap, .int .i64 ((n : Int) + (j : Int))] w1 fun e w' => e = .returned (.bool bt) ∧ w' = w1) := by
            intro w1 hw1
            have := bit_any w1 bb off len cap (n + j) (D ((n + j) / 8)) (by omega) hl hw1 hdd
            rw [HB.out, Int.natCast_add] at this
            exact this
          cases bt
          · go_wp2_with fail
            refine (hct.out _ hcd).mono ?_
            rintro e w' ⟨rfl, rfl⟩
            go_wp2
            go_round
            case rel => exact ⟨j + 1, by omega, by go_num, by rw [HSF.out, Bool.or_false]⟩
            case measure => simp [intOf]; omega
          · go_wp2_with fail
            refine (hct.out _ hcd).mono ?_
            rintro e w' ⟨rfl, rfl⟩
            go_wp2
            go_round
            case rel => exact ⟨j + 1, by omega, by go_num, by rw [HSF.out, Bool.or_true]⟩
            case measure => simp [intOf]; omega
        · obtain rfl : j = 8 * size - n := by omega
          rw [HS.out]
          by_cases hlr : size < len
          · have ho := HO.out hlr
            subst ho
            have hl0 : decide ((0 : Int) < (L : Int)) = true := by simp; omega
            have hl1 : 0 < L := by omega
            go_wp2
            go_quiet (fail)
            go_wp2
            go_ret
            exact ⟨rfl, below_drewN hbel _⟩
          · have hL0 : L = 0 := by omega
            subst hL0
            go_wp2
            go_quiet (fail)
            go_wp2
            go_ret
            exact ⟨rfl, below_drewN hbel _⟩
set_option maxRecDepth 100000 in
set_option maxHeartbeats 4000000 in
theorem reads_bad (F : Interp) (bb off len cap A1 n k size : Nat) (D : Nat → Nat) (w : World) (hF : F.answers w.tape) (hD : ∀ i, D i < 256) (hl : len ≤ 1024) (hlc : len ≤ cap) (hA : A1 < 65536) (hnn : (A1 : Int) % 600 = (n : Int)) (hk : k = (n + 63) / 64)
    (hsize : size = (n + 7) / 8) (hsl : size ≤ len) (hbb : bb < w.heap.size) (hd0 : ∀ i, i < len → w.cell? ⟨bb, off + i, none⟩ = some (.int .u8 (D i : Int))) (hc : ¬ (n % 64 = 0 ∨ wd D size (k - 1) / 2 ^ (n % 64) = 0))
    (hs : sf D n (8 * size - n) = true) :
    Calls Ybaf.prog 5 #[.slice (some ⟨bb, off, none⟩) len cap, .int .u16 (A1 : Int)] w fun e w' => e = .returned (.bool true) ∧ Below w.heap.size w w' := by
  have hn : n ≤ 599 := by omega
  have hd : ((n : Int) + 7) / 8 = (size : Int) := by omega
  have hk10 : k ≤ 10 := by omega
  have h8 : 8 * size ≤ 64 * k := by omega
  have hns : n ≤ 8 * size := by omega
  have hge : ¬ (len : Int) < (size : Int) := by omega
  have hs75 : size ≤ 75 := by omega
  have hlsb : decide (len < size) = false := by simp; omega
  have q33 : ∀ (w : World) (a : Option Addr) (n c n' c' : Nat), (binOp .neq 33 (.slice a n c) (.slice none n' c')).run Ybaf.prog w = .ok (.bool (!a.isNone)) w := fun w a n c n' c' => run_neq_slice_nil_any w _ _ a n c n' c' Ybaf.underlying33
  have e33 : ∀ (w : World) (a : Option Addr) (n c n' c' : Nat), (binOp .eql 33 (.slice a n c) (.slice none n' c')).run Ybaf.prog w = .ok (.bool a.isNone) w := fun w a n c n' c' => Lib.run_eql_slice_nil w _ _ a n c n' c' Ybaf.underlying33
  have HK : Hid ((n : Int) + 63 = 64 * (k : Int) + ((n : Int) + 63) % 64) := by show (n : Int) + 63 = 64 * (k : Int) + ((n : Int) + 63) % 64; omega
  have HC : Hid (∀ w1, F.answers w1.tape → w.heap.size < w1.heap.size → St w1 w.heap.size k (wd D 0) bb off len D → Calls Ybaf.prog 10 #[.slice (some ⟨bb, off, none⟩) len cap, .slice (some ⟨w.heap.size, 0, none⟩) k k, .int .i64 (n : Int)] w1 fun e w' =>
      ∃ x, e = .returned (.tuple #[.slice none 0 0, .iface 51 (.pointer (some x))]) ∧ Below w.heap.size w1 w' ∧ St w' w.heap.size k (wd D size) bb off len D) :=
    fun w1 hF1 hq1 hS1 => rb_bad F w1 hF1 bb off len cap w.heap.size k n size D hD hn hl hlc hk hsize hsl hbb hq1 hS1 hc
  have hS0 : Hid (St (w.alloc (.cells (madeCells (Value.int .u64 0).cells k) 29)) w.heap.size k (wd D 0) bb off len D) :=
    ⟨fun i hi => by rw [wd_zero]; exact made_cell w k i hi, fun i _ => made_frozen w k i, fun i hi => by rw [World.cell?_alloc_lt _ _ _ hbb]; exact hd0 i hi⟩
  have HF : Hid (F.answers w.tape) := hF
  have HS : Hid (sf D n (8 * size - n) = true) := hs
  have HD : Hid (∀ i, D i < 256) := hD
  clear hk hsize hF hs hd0 hc hD
  go_enter Ybaf.func5, Ybaf.ntmps5
  go_wp2_with (go_at_call 9; refine (new_any n k hn HK.out _).mono ?_; rintro e w' ⟨rfl, rfl⟩)
  refine (HC.out _ ?_ ?_ hS0.out).mono ?_
  · exact HF.out
  · simp
  rintro e w2 ⟨x, rfl, hb, hSt⟩
  have hbel : Below w.heap.size w w2 := ((Below.refl _ w).alloc (Nat.le_refl _) _).trans hb
  have HSt : Hid (St w2 w.heap.size k (wd D size) bb off len D) := hSt
  clear hb hSt
  go_wp2
  go_loop [11] (fun i => ∃ m : Nat, m ≤ 64 * k ∧ i = .int .i64 m) (fun i => 64 * k - (intOf i).toNat)
  case atStart => exact ⟨0, Nat.zero_le _, rfl⟩
  case round =>
    obtain ⟨m, hm, rfl⟩ := hrel
    by_cases hmk : m < 64 * k
    · have hc := HSt.out.s (m / 64) (by omega)
      have hx := wd_lt D HD.out size (m / 64)
      have hb64 := bit64 (wd D size (m / 64)) (m % 64) hx
      rw [wd_bit D HD.out] at hb64
      by_cases hin : m < 8 * size
      · rw [decide_eq_true hin, Bool.true_and] at hb64
        have hcd := HSt.out.d (m / 8) (by omega)
        have hdd := HD.out (m / 8)
        go_wp2_with fail
        refine (bit_any _ bb off len cap m (D (m / 8)) (by omega) hl hcd hdd).mono ?_
        rintro e w' ⟨rfl, hw⟩
        rw [hw]
        clear hw w'
        go_wp2
        go_round
        case rel => exact ⟨m + 1, by omega, by go_num⟩
        case measure => simp [intOf]; omega
      · rw [decide_eq_false hin, Bool.false_and] at hb64
        go_wp2
        go_round
        case rel => exact ⟨m + 1, by omega, by go_num⟩
        case measure => simp [intOf]; omega
    · go_wp2
      go_loop [14, 15] (fun b i => ∃ j : Nat, j ≤ 8 * size - n ∧ i = .int .i64 ((n + j : Nat) : Int) ∧ b = .bool (sf D n j)) (fun _ i => 8 * size - (intOf i).toNat)
      case atStart => exact ⟨0, Nat.zero_le _, rfl, rfl⟩
      case round =>
        obtain ⟨j, hj, rfl, rfl⟩ := hrel
        by_cases hjs : j < 8 * size - n
        · have hcd := HSt.out.d ((n + j) / 8) (by omega)
          have hdd := HD.out ((n + j) / 8)
          have hsf : sf D n (j + 1) = (sf D n j || (D ((n + j) / 8)).testBit ((n + j) % 8)) := rfl
          have HSF : Hid (sf D n (j + 1) = (sf D n j || (D ((n + j) / 8)).testBit ((n + j) % 8))) := hsf
          clear hsf
          generalize hbit : (D ((n + j) / 8)).testBit ((n + j) % 8) = bt at *
          have HB : Hid ((D ((n + j) / 8)).testBit ((n + j) % 8) = bt) := hbit
          clear hbit
          have hct : Hid (∀ w1, w1.cell? ⟨bb, off + (n + j) / 8, none⟩ = some (.int .u8 (D ((n + j) / 8) : Int)) → Calls Ybaf.prog 11 #[.slice (some ⟨bb, off, none⟩) len cap, .int .i64 ((n : Int) + (j : Int))] w1 fun e w' => e = .returned (.bool bt) ∧ w' = w1) := by
            intro w1 hw1
            have := bit_any w1 bb off len cap (n + j) (D ((n + j) / 8)) (by omega) hl hw1 hdd
            rw [HB.out, Int.natCast_add] at this
            exact this
          cases bt
          · go_wp2_with fail
            refine (hct.out _ hcd).mono ?_
            rintro e w' ⟨rfl, rfl⟩
            go_wp2
            go_round
            case rel => exact ⟨j + 1, by omega, by go_num, by rw [HSF.out, Bool.or_false]⟩
            case measure => simp [intOf]; omega
          · go_wp2_with fail
            refine (hct.out _ hcd).mono ?_
            rintro e w' ⟨rfl, rfl⟩
            go_wp2
            go_round
            case rel => exact ⟨j + 1, by omega, by go_num, by rw [HSF.out, Bool.or_true]⟩
            case measure => simp [intOf]; omega
        · obtain rfl : j = 8 * size - n := by omega
          rw [HS.out]
          go_wp2
          go_ret
          exact ⟨rfl, hbel⟩

end Go.Proofs.YbulksuiFmt
