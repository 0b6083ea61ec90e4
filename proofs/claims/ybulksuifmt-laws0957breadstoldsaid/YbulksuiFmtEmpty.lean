import Derived.Test.YbulksuiFmtReads
namespace Go.Proofs.YbulksuiFmt
open Go.ChangeShapes Go.WideShapes Go.ChangeAt Go.RowKit Bm

set_option maxRecDepth 100000 in
set_option maxHeartbeats 2000000 in
theorem rb_empty (w : World) (q : Nat) (x : Addr) :
    Calls Ybaf.prog 10 #[.slice (some x) 0 0, .slice (some ⟨q, 0, none⟩) 0 0, .int .i64 0] w fun e w' => e = .returned (.tuple #[.slice (some x) 0 0, .nilIface]) ∧ w' = w := by
  go_enter Ybaf.func10, Ybaf.ntmps10
  go_wp2
  go_rounds 1
  go_ret2
  exact ⟨rfl, rfl⟩

set_option maxRecDepth 100000 in
set_option maxHeartbeats 2000000 in
theorem reads_empty (x : Addr) (A1 : Nat) (w : World) (hA : A1 < 65536) (hnn : (A1 : Int) % 600 = 0) :
    Calls Ybaf.prog 5 #[.slice (some x) 0 0, .int .u16 (A1 : Int)] w fun e w' => e = .returned (.bool true) ∧ Below w.heap.size w w' := by
  go_enter Ybaf.func5, Ybaf.ntmps5
  go_wp2_with (go_at_call 9; refine (new_any 0 0 (by omega) (by omega) _).mono ?_; rintro e w' ⟨rfl, rfl⟩)
  refine (rb_empty _ _ x).mono ?_
  rintro e w2 ⟨rfl, rfl⟩
  go_wp2
  go_rounds 1
  go_rounds 1
  go_quiet (fail)
  go_wp2
  go_ret
  exact ⟨rfl, below_drewN ((Below.refl _ w).alloc (Nat.le_refl _) _) _⟩
end Go.Proofs.YbulksuiFmt
