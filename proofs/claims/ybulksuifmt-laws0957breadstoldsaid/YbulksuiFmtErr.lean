import Derived.Test.YbulksuiFmtRows
import Derived.WalkKit
import Derived.ProofKit
import Derived.OpenShut
import Derived.Handy
import Derived.Stop.CallBack
import Derived.Stop.IfaceNil
import Derived.Laws.FmtDoors
import Derived.Below
namespace Go.Proofs.YbulksuiFmt
open Go.ChangeShapes Go.WideShapes Go.ChangeAt Go.RowKit
open Go.Extern.Stop Go.Stop Go.Extern

theorem call19 (args : Array Value) (w : World) : (callFunc 19 args).run Ybaf.prog w = ((FmtStop.errorf #[9, 48] #[24] args).run Ybaf.prog w).andThen fun v w' => .ok (.value v) w' :=
  run_callFunc_extern Ybaf.func19 (by kernel_rfl) (by kernel_rfl) (by kernel_rfl) (by kernel_rfl) args w
theorem guardRun (name : String) (w : World) : (FmtStop.guard name).run Ybaf.prog w = .ok () w := by kernel_rfl
theorem fmt0 : FmtStop.printed? ⟨#[97, 32, 98, 105, 116, 109, 97, 112, 32, 104, 111, 108, 100, 105, 110, 103, 32, 97, 110, 32, 105, 110, 116, 101, 103, 101, 114, 32, 110, 111, 116, 32, 98, 101, 108, 111, 119, 32, 37, 100]⟩ 1 = some [(0, 100, false)] := by kernel_rfl
theorem fmt0r (w : World) : (FmtDoors.printed ⟨#[97, 32, 98, 105, 116, 109, 97, 112, 32, 104, 111, 108, 100, 105, 110, 103, 32, 97, 110, 32, 105, 110, 116, 101, 103, 101, 114, 32, 110, 111, 116, 32, 98, 101, 108, 111, 119, 32, 37, 100]⟩ 1).run Ybaf.prog w = .ok [(0, 100, false)] w := by kernel_rfl
def shape3 : List UInt8 := [5, 3, 0, 0, 0, 0, 0, 0, 0, 105, 110, 116]
theorem op3_100 (name : String) (x : Int) (w : World) : (FmtStop.operand name false 100 false (.iface 3 (.int .i64 x))).run Ybaf.prog w = .ok (shape3, Go.Extern.Stop.digits 8 (x % 2 ^ 64).toNat) w := by kernel_rfl
theorem op3_100w (name : String) (x : Int) (w : World) : (FmtStop.operand name true 100 false (.iface 3 (.int .i64 x))).run Ybaf.prog w = .ok (shape3, Go.Extern.Stop.digits 8 (x % 2 ^ 64).toNat) w := by kernel_rfl
theorem strict3 (name : String) (x : Int) (w : World) : (FmtStop.strict name (.iface 3 (.int .i64 x))).run Ybaf.prog w = .ok (shape3, Go.Extern.Stop.digits 8 (x % 2 ^ 64).toNat) w := by kernel_rfl
theorem ptr51 (w : World) : (FmtStop.ptrTo "errors.errorString").run Ybaf.prog w = .ok 51 w := by kernel_rfl
theorem elem51 (w : World) : (elemOf 51).run Ybaf.prog w = .ok 53 w := by kernel_rfl
theorem isError51 (w : World) : (FmtDoors.textMethod 51 "Error").run Ybaf.prog w = .ok true w := by kernel_rfl
attribute [local go_sem] call19 guardRun fmt0 fmt0r op3_100 op3_100w strict3 ptr51 elem51 isError51

set_option maxRecDepth 100000 in
set_option maxHeartbeats 2000000 in
theorem errorf_any (F : Interp) (n : Int) (blk : Nat) (w : World) (hF : F.answers w.tape) (hc0 : w.cell? ⟨blk, 0, none⟩ = some (.iface 3 (.int .i64 n))) :
    Calls Ybaf.prog 12 #[.string ⟨#[97, 32, 98, 105, 116, 109, 97, 112, 32, 104, 111, 108, 100, 105, 110, 103, 32, 97, 110, 32, 105, 110, 116, 101, 103, 101, 114, 32, 110, 111, 116, 32, 98, 101, 108, 111, 119, 32, 37, 100]⟩, .slice (some ⟨blk, 0, none⟩) 1 1] w fun e w' =>
      (∃ a, e = .returned (.iface 51 (.pointer (some a)))) ∧ Below w.heap.size w w' := by
  have hF' : ∀ i name reading k range, w.tape i (.extern (word name reading k) range) = F name reading k := hF
  go_enter Ybaf.func12, Ybaf.ntmps12
  go_wp2
  go_ret
  exact ⟨⟨_, rfl⟩, ((Below.refl _ _).alloc (Nat.le_refl _) _).drew⟩

theorem new_err (s : ByteArray) (w : World) :
    Calls Ybaf.prog 17 #[.string s] w fun e w' => (∃ a, e = .returned (.iface 51 (.pointer (some a)))) ∧ Below w.heap.size w w' := by
  go_enter Ybaf.func17, Ybaf.ntmps17
  go_wp2
  go_ret
  exact ⟨⟨_, rfl⟩, (Below.refl _ _).alloc (Nat.le_refl _) _⟩
end Go.Proofs.YbulksuiFmt
