/-
  No cell of these rows narrows 'for every input' (looked for: loops, veiled, ifaces, maps, wideKeys, modest, calm, conditions, laid).
  DERIVED. THE GIVEN ROWS OF THIS SEAT. 1 by the template 'for every input the law returns true; each argument reads behind the call as it read before'; 0 by the template 'total and deterministic' (their statements: YbulkteoTotals.lean).
  GIVEN WITH THE SEED: the statements are not yours to turn. If you find one false, say at which input.
  Laid BY PROGRAM, IN A SANDBOX (cutbox-rows.mjs): the forced cells as the released guide's own fill.sh prints them over the translation 68cf30c99b7635e2… (all of the seat's roots in one cut). By AI agents, Wed Nov 11 2026. No macro, syntax, notation, axiom, sorry.
-/
import Derived.Test.YbulkteoChecked
import GoSem.Claim
import GoSem.ClaimJoined
import GoSem.ClaimMapViews
import Derived.JoinedTies
import Derived.KernelRfl
namespace Go.Proofs.Ybulkteo
/- THE CELL 'sum', in the pinned program and in every row, IS THE sha256 OF THE DUMP (.gsa) THAT YbulkteoProg.lean LOADS. Nothing in Lean hashes anything: it is a label: what it is worth is what the hold of that sum in a sandbox is worth. -/
noncomputable def Yba.pinned : Pinned := { name := "ybulkteo", sum := "68cf30c99b7635e2cd56b0bac43b8c2ad2d748f4eb24cf60eacbd71979b8c100", checked := Yba.checked }
namespace Rows
def none {H : Type} : Left H := { results := [], args := [] }

/-- 'consensus.LawS0976BIntake': WHATEVER THE INPUT: true; the input reads as it did. -/
def lawS0976BIntakeSpec : ChangeSpec := { name := "lawS0976BIntake", fn := fun _ => fun
  | [d1, d2, d3, d4, d5] => { results := [.lit (.bool true)], args := [d1, d2, d3, d4, d5] }
  | _ => none }
def lawS0976BIntakeRow : OpenClaim := { program := "ybulkteo", sum := "68cf30c99b7635e2cd56b0bac43b8c2ad2d748f4eb24cf60eacbd71979b8c100", func := "example.com/tutti/tutti/internal/consensus.LawS0976BIntake", spec := "lawS0976BIntake", apart := false }
def LawS0976BIntakeSaid : Prop := lawS0976BIntakeRow.holds Yba.pinned (OpenSpec.ofChange lawS0976BIntakeSpec)

/-- ITS FALSE NEIGHBOUR: 'it returns false'. Refute it at one input. -/
def lawS0976BIntakeWrong : ChangeSpec := { name := "lawS0976BIntake", fn := fun _ => fun
  | [d1, d2, d3, d4, d5] => { results := [.lit (.bool false)], args := [d1, d2, d3, d4, d5] }
  | _ => none }
def LawS0976BIntakeWrongFalsely : Prop := lawS0976BIntakeRow.holds Yba.pinned (OpenSpec.ofChange lawS0976BIntakeWrong)

end Rows
end Go.Proofs.Ybulkteo
