/-
  No cell of these rows narrows 'for every input' (looked for: loops, veiled, ifaces, maps, wideKeys, modest, calm, conditions, laid).
  DERIVED. THE GIVEN ROWS OF THIS SEAT. 2 by the template 'for every input the law returns true; each argument reads behind the call as it read before'; 0 by the template 'total and deterministic' (their statements: YbulksuiTotals.lean).
  GIVEN WITH THE SEED: the statements are not yours to turn. If you find one false, say at which input.
  Laid BY PROGRAM, IN A SANDBOX (cutbox-rows.mjs): the forced cells as the released guide's own fill.sh prints them over the translation 94e45a648f7d514f… (all of the seat's roots in one cut). By AI agents, Wed Nov 11 2026. No macro, syntax, notation, axiom, sorry.
-/
import Derived.Test.YbulksuiChecked
import GoSem.Claim
import GoSem.ClaimJoined
import GoSem.ClaimMapViews
import Derived.JoinedTies
import Derived.KernelRfl
namespace Go.Proofs.Ybulksui
/- THE CELL 'sum', in the pinned program and in every row, IS THE sha256 OF THE DUMP (.gsa) THAT YbulksuiProg.lean LOADS. Nothing in Lean hashes anything: it is a label: what it is worth is what the hold of that sum in a sandbox is worth. -/
noncomputable def Yba.pinned : Pinned := { name := "ybulksui", sum := "94e45a648f7d514f2bf825fcce59cbf96adb293c75948100f98a7150b0b5aaa6", checked := Yba.checked }
namespace Rows
def none {H : Type} : Left H := { results := [], args := [] }

/-- 'protocols.LawS0957CFields': WHATEVER THE INPUT: true; the input reads as it did. -/
def lawS0957CFieldsSpec : ChangeSpec := { name := "lawS0957CFields", fn := fun _ => fun
  | [d1, d2, d3, d4, d5] => { results := [.lit (.bool true)], args := [d1, d2, d3, d4, d5] }
  | _ => none }
def lawS0957CFieldsRow : OpenClaim := { program := "ybulksui", sum := "94e45a648f7d514f2bf825fcce59cbf96adb293c75948100f98a7150b0b5aaa6", func := "example.com/murmurant/murmurant/protocols.LawS0957CFields", spec := "lawS0957CFields", inPlace := ["math.Float64bits"], apart := false }
def LawS0957CFieldsSaid : Prop := lawS0957CFieldsRow.holds Yba.pinned (OpenSpec.ofChange lawS0957CFieldsSpec)

/-- ITS FALSE NEIGHBOUR: 'it returns false'. Refute it at one input. -/
def lawS0957CFieldsWrong : ChangeSpec := { name := "lawS0957CFields", fn := fun _ => fun
  | [d1, d2, d3, d4, d5] => { results := [.lit (.bool false)], args := [d1, d2, d3, d4, d5] }
  | _ => none }
def LawS0957CFieldsWrongFalsely : Prop := lawS0957CFieldsRow.holds Yba.pinned (OpenSpec.ofChange lawS0957CFieldsWrong)

/-- 'protocols.LawS0957CIdem': WHATEVER THE INPUT: true; the input reads as it did. -/
def lawS0957CIdemSpec : ChangeSpec := { name := "lawS0957CIdem", fn := fun _ => fun
  | [d1, d2, d3, d4, d5] => { results := [.lit (.bool true)], args := [d1, d2, d3, d4, d5] }
  | _ => none }
def lawS0957CIdemRow : OpenClaim := { program := "ybulksui", sum := "94e45a648f7d514f2bf825fcce59cbf96adb293c75948100f98a7150b0b5aaa6", func := "example.com/murmurant/murmurant/protocols.LawS0957CIdem", spec := "lawS0957CIdem", inPlace := ["math.Float64bits"], apart := false }
def LawS0957CIdemSaid : Prop := lawS0957CIdemRow.holds Yba.pinned (OpenSpec.ofChange lawS0957CIdemSpec)

/-- ITS FALSE NEIGHBOUR: 'it returns false'. Refute it at one input. -/
def lawS0957CIdemWrong : ChangeSpec := { name := "lawS0957CIdem", fn := fun _ => fun
  | [d1, d2, d3, d4, d5] => { results := [.lit (.bool false)], args := [d1, d2, d3, d4, d5] }
  | _ => none }
def LawS0957CIdemWrongFalsely : Prop := lawS0957CIdemRow.holds Yba.pinned (OpenSpec.ofChange lawS0957CIdemWrong)

end Rows
end Go.Proofs.Ybulksui
