import Derived.Test.YbulksuiRows
import Derived.WalkKit
import Derived.ProofKit
import Derived.OpenShut
import Derived.Handy
import Derived.Laws.Cover2
namespace Go.Proofs.Ybulksui
open Go.ChangeShapes Go.WideShapes Go.ChangeAt Go.RowKit

theorem run_store_float (P : Program) (w : World) (a : Addr) (m : Mode) (k : FloatKind) (n : Nat) : (store a (.float k n) m).run P w = stored P w a (.float k n) m := run_store P w a _ m rfl
attribute [local go_sem] run_store_float

def isZ (x : Nat) : Bool := FloatKind.f64.format.order x 0 == some .eq
def pick (x d : Nat) : Nat := if isZ x = true then d else x

theorem pick_t {x : Nat} (d : Nat) (h : (FloatKind.f64.format.order x 0 == some .eq) = true) : pick x d = d := by unfold pick isZ; rw [if_pos h]
theorem pick_f {x : Nat} (d : Nat) (h : (FloatKind.f64.format.order x 0 == some .eq) = false) : pick x d = x := by unfold pick isZ; rw [h]; rfl

set_option maxRecDepth 100000 in
set_option maxHeartbeats 40000000 in
theorem wd (a b c d : Nat) (p : Bool) (w : World) :
    Calls Yba.prog 5 #[.agg #[.float .f64 a, .float .f64 b, .float .f64 c, .float .f64 d, .bool p]] w fun e w' =>
      e = .returned (.agg #[.float .f64 (pick a 4593671619917905920), .float .f64 (pick b 4602678819172646912), .float .f64 (pick c 4602678819172646912), .float .f64 (pick d 4607182418800017408), .bool p]) ∧ Below w.heap.size w w' := by
  cases ha : (FloatKind.f64.format.order a 0 == some .eq) <;> cases hb : (FloatKind.f64.format.order b 0 == some .eq) <;> cases hc : (FloatKind.f64.format.order c 0 == some .eq) <;> cases hd : (FloatKind.f64.format.order d 0 == some .eq)
  all_goals
    first
    | rw [pick_t _ ha]
    | rw [pick_f _ ha]
    first
    | rw [pick_t _ hb]
    | rw [pick_f _ hb]
    first
    | rw [pick_t _ hc]
    | rw [pick_f _ hc]
    first
    | rw [pick_t _ hd]
    | rw [pick_f _ hd]
    go_enter Yba.func5, Yba.ntmps5
    go_wp2
    go_rounds 5
    go_returns
    refine ⟨rfl, ?_⟩
    go_grown

theorem pick_any (x d : Nat) (w : World) :
    Calls Yba.prog 6 #[.float .f64 x, .float .f64 d] w fun e w' => e = .returned (.float .f64 (pick x d)) ∧ w' = w := by
  cases hx : (FloatKind.f64.format.order x 0 == some .eq)
  · rw [pick_f _ hx]
    go_enter Yba.func6, Yba.ntmps6
    go_wp2
    go_ret
    exact ⟨rfl, rfl⟩
  · rw [pick_t _ hx]
    go_enter Yba.func6, Yba.ntmps6
    go_wp2
    go_ret
    exact ⟨rfl, rfl⟩

end Go.Proofs.Ybulksui
