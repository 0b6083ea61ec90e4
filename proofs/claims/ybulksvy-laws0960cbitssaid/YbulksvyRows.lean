/-
  No cell of these rows narrows 'for every input' (looked for: loops, veiled, ifaces, maps, wideKeys, modest, calm, conditions, laid).
  DERIVED. THE GIVEN ROWS OF THIS SEAT. 6 by the template 'for every input the law returns true; each argument reads behind the call as it read before'; 0 by the template 'total and deterministic' (their statements: YbulksvyTotals.lean).
  GIVEN WITH THE SEED: the statements are not yours to turn. If you find one false, say at which input.
  Laid BY PROGRAM, IN A SANDBOX (cutbox-rows.mjs): the forced cells as the released guide's own fill.sh prints them over the translation 06e1837c0b9c30f8… (all of the seat's roots in one cut). By AI agents, Wed Nov 11 2026. No macro, syntax, notation, axiom, sorry.
-/
import Derived.Test.YbulksvyChecked
import GoSem.Claim
import GoSem.ClaimJoined
import GoSem.ClaimMapViews
import Derived.JoinedTies
import Derived.KernelRfl
namespace Go.Proofs.Ybulksvy
/- THE CELL 'sum', in the pinned program and in every row, IS THE sha256 OF THE DUMP (.gsa) THAT YbulksvyProg.lean LOADS. Nothing in Lean hashes anything: it is a label: what it is worth is what the hold of that sum in a sandbox is worth. -/
noncomputable def Yba.pinned : Pinned := { name := "ybulksvy", sum := "06e1837c0b9c30f8ea7c6c3190059b11590bc149ca6d01156586b1479c19470a", checked := Yba.checked }
namespace Rows
def none {H : Type} : Left H := { results := [], args := [] }

/-- 'dcskit.LawS0960AExact': WHATEVER THE INPUT: true; the input reads as it did. -/
def lawS0960AExactSpec : ChangeSpec := { name := "lawS0960AExact", fn := fun _ => fun
  | [d] => { results := [.lit (.bool true)], args := [d] }
  | _ => none }
def lawS0960AExactRow : OpenClaim := { program := "ybulksvy", sum := "06e1837c0b9c30f8ea7c6c3190059b11590bc149ca6d01156586b1479c19470a", func := "example.com/dcskit/dcskit.LawS0960AExact", spec := "lawS0960AExact", apart := false }
def LawS0960AExactSaid : Prop := lawS0960AExactRow.holds Yba.pinned (OpenSpec.ofChange lawS0960AExactSpec)

/-- ITS FALSE NEIGHBOUR: 'it returns false'. Refute it at one input. -/
def lawS0960AExactWrong : ChangeSpec := { name := "lawS0960AExact", fn := fun _ => fun
  | [d] => { results := [.lit (.bool false)], args := [d] }
  | _ => none }
def LawS0960AExactWrongFalsely : Prop := lawS0960AExactRow.holds Yba.pinned (OpenSpec.ofChange lawS0960AExactWrong)

/-- 'dcskit.LawS0960ADistinct': WHATEVER THE INPUT: true; the input reads as it did. -/
def lawS0960ADistinctSpec : ChangeSpec := { name := "lawS0960ADistinct", fn := fun _ => fun
  | [d] => { results := [.lit (.bool true)], args := [d] }
  | _ => none }
def lawS0960ADistinctRow : OpenClaim := { program := "ybulksvy", sum := "06e1837c0b9c30f8ea7c6c3190059b11590bc149ca6d01156586b1479c19470a", func := "example.com/dcskit/dcskit.LawS0960ADistinct", spec := "lawS0960ADistinct", apart := false }
def LawS0960ADistinctSaid : Prop := lawS0960ADistinctRow.holds Yba.pinned (OpenSpec.ofChange lawS0960ADistinctSpec)

/-- ITS FALSE NEIGHBOUR: 'it returns false'. Refute it at one input. -/
def lawS0960ADistinctWrong : ChangeSpec := { name := "lawS0960ADistinct", fn := fun _ => fun
  | [d] => { results := [.lit (.bool false)], args := [d] }
  | _ => none }
def LawS0960ADistinctWrongFalsely : Prop := lawS0960ADistinctRow.holds Yba.pinned (OpenSpec.ofChange lawS0960ADistinctWrong)

/-- 'dcskit.LawS0960BRead': WHATEVER THE INPUT: true; the input reads as it did. -/
def lawS0960BReadSpec : ChangeSpec := { name := "lawS0960BRead", fn := fun _ => fun
  | [d1, d2, d3] => { results := [.lit (.bool true)], args := [d1, d2, d3] }
  | _ => none }
def lawS0960BReadRow : OpenClaim := { program := "ybulksvy", sum := "06e1837c0b9c30f8ea7c6c3190059b11590bc149ca6d01156586b1479c19470a", func := "example.com/dcskit/dcskit.LawS0960BRead", spec := "lawS0960BRead", apart := false }
def LawS0960BReadSaid : Prop := lawS0960BReadRow.holds Yba.pinned (OpenSpec.ofChange lawS0960BReadSpec)

/-- ITS FALSE NEIGHBOUR: 'it returns false'. Refute it at one input. -/
def lawS0960BReadWrong : ChangeSpec := { name := "lawS0960BRead", fn := fun _ => fun
  | [d1, d2, d3] => { results := [.lit (.bool false)], args := [d1, d2, d3] }
  | _ => none }
def LawS0960BReadWrongFalsely : Prop := lawS0960BReadRow.holds Yba.pinned (OpenSpec.ofChange lawS0960BReadWrong)

/-- 'dcskit.LawS0960BSplit': WHATEVER THE INPUT: true; the input reads as it did. -/
def lawS0960BSplitSpec : ChangeSpec := { name := "lawS0960BSplit", fn := fun _ => fun
  | [d1, d2, d3, d4] => { results := [.lit (.bool true)], args := [d1, d2, d3, d4] }
  | _ => none }
def lawS0960BSplitRow : OpenClaim := { program := "ybulksvy", sum := "06e1837c0b9c30f8ea7c6c3190059b11590bc149ca6d01156586b1479c19470a", func := "example.com/dcskit/dcskit.LawS0960BSplit", spec := "lawS0960BSplit", apart := false }
def LawS0960BSplitSaid : Prop := lawS0960BSplitRow.holds Yba.pinned (OpenSpec.ofChange lawS0960BSplitSpec)

/-- ITS FALSE NEIGHBOUR: 'it returns false'. Refute it at one input. -/
def lawS0960BSplitWrong : ChangeSpec := { name := "lawS0960BSplit", fn := fun _ => fun
  | [d1, d2, d3, d4] => { results := [.lit (.bool false)], args := [d1, d2, d3, d4] }
  | _ => none }
def LawS0960BSplitWrongFalsely : Prop := lawS0960BSplitRow.holds Yba.pinned (OpenSpec.ofChange lawS0960BSplitWrong)

/-- 'dcskit.LawS0960CBits': WHATEVER THE INPUT: true; the input reads as it did. -/
def lawS0960CBitsSpec : ChangeSpec := { name := "lawS0960CBits", fn := fun _ => fun
  | [d1, d2, d3] => { results := [.lit (.bool true)], args := [d1, d2, d3] }
  | _ => none }
def lawS0960CBitsRow : OpenClaim := { program := "ybulksvy", sum := "06e1837c0b9c30f8ea7c6c3190059b11590bc149ca6d01156586b1479c19470a", func := "example.com/dcskit/dcskit.LawS0960CBits", spec := "lawS0960CBits", apart := false }
def LawS0960CBitsSaid : Prop := lawS0960CBitsRow.holds Yba.pinned (OpenSpec.ofChange lawS0960CBitsSpec)

/-- ITS FALSE NEIGHBOUR: 'it returns false'. Refute it at one input. -/
def lawS0960CBitsWrong : ChangeSpec := { name := "lawS0960CBits", fn := fun _ => fun
  | [d1, d2, d3] => { results := [.lit (.bool false)], args := [d1, d2, d3] }
  | _ => none }
def LawS0960CBitsWrongFalsely : Prop := lawS0960CBitsRow.holds Yba.pinned (OpenSpec.ofChange lawS0960CBitsWrong)

/-- 'dcskit.LawS0960CConcat': WHATEVER THE INPUT: true; the input reads as it did. -/
def lawS0960CConcatSpec : ChangeSpec := { name := "lawS0960CConcat", fn := fun _ => fun
  | [d1, d2, d3, d4, d5] => { results := [.lit (.bool true)], args := [d1, d2, d3, d4, d5] }
  | _ => none }
def lawS0960CConcatRow : OpenClaim := { program := "ybulksvy", sum := "06e1837c0b9c30f8ea7c6c3190059b11590bc149ca6d01156586b1479c19470a", func := "example.com/dcskit/dcskit.LawS0960CConcat", spec := "lawS0960CConcat", apart := false }
def LawS0960CConcatSaid : Prop := lawS0960CConcatRow.holds Yba.pinned (OpenSpec.ofChange lawS0960CConcatSpec)

/-- ITS FALSE NEIGHBOUR: 'it returns false'. Refute it at one input. -/
def lawS0960CConcatWrong : ChangeSpec := { name := "lawS0960CConcat", fn := fun _ => fun
  | [d1, d2, d3, d4, d5] => { results := [.lit (.bool false)], args := [d1, d2, d3, d4, d5] }
  | _ => none }
def LawS0960CConcatWrongFalsely : Prop := lawS0960CConcatRow.holds Yba.pinned (OpenSpec.ofChange lawS0960CConcatWrong)

end Rows
end Go.Proofs.Ybulksvy
