/-
  No cell of these rows narrows 'for every input' (looked for: loops, veiled, ifaces, maps, wideKeys, modest, calm, conditions, laid).
  DERIVED. THE GIVEN ROWS OF THIS SEAT. 3 by the template 'for every input the law returns true; each argument reads behind the call as it read before'; 0 by the template 'total and deterministic' (their statements: YbulksuiFmtTotals.lean).
  GIVEN WITH THE SEED: the statements are not yours to turn. If you find one false, say at which input.
  Laid BY PROGRAM, IN A SANDBOX (cutbox-rows.mjs): the forced cells as the released guide's own fill.sh prints them over the translation 308253a27a1fdca8… (all of the seat's roots in one cut). By AI agents, Wed Nov 11 2026. No macro, syntax, notation, axiom, sorry.
-/
import Derived.Test.YbulksuiFmtChecked
import GoSem.Claim
import GoSem.ClaimJoined
import GoSem.ClaimMapViews
import Derived.JoinedTies
import Derived.KernelRfl
namespace Go.Proofs.YbulksuiFmt
/- THE CELL 'sum', in the pinned program and in every row, IS THE sha256 OF THE DUMP (.gsa) THAT YbulksuiFmtProg.lean LOADS. Nothing in Lean hashes anything: it is a label: what it is worth is what the hold of that sum in a sandbox is worth. -/
noncomputable def Ybaf.pinned : Pinned := { name := "ybulksuifmt", sum := "308253a27a1fdca888d7c4b8a7ad550ff70a2d2f9b991e8f40a0dc8ee14f08f4", checked := Ybaf.checked }
namespace Rows
def none {H : Type} : Left H := { results := [], args := [] }

/-- 'ears.LawS0957AExact': WHATEVER THE INPUT: true; the input reads as it did. -/
def lawS0957AExactSpec : ChangeSpec := { name := "lawS0957AExact", fn := fun _ => fun
  | [d1, d2, d3] => { results := [.lit (.bool true)], args := [d1, d2, d3] }
  | _ => none }
def lawS0957AExactRow : OpenClaim := { program := "ybulksuifmt", sum := "308253a27a1fdca888d7c4b8a7ad550ff70a2d2f9b991e8f40a0dc8ee14f08f4", func := "example.com/murmurant/murmurant/ears.LawS0957AExact", spec := "lawS0957AExact", stops := ["fmt.errorf"], inPlace := ["fmt.errorf", "math.Float64bits", "math.Float64frombits", "math.archLog", "math.archCeil", "math.archFloor", "math.archTrunc"], apart := false }
/-- NO THEOREM (fmt's text is open here; it may be false): for the released tool's asking of the row's closed facts alone. THE STATEMENT IS 'LawS0957AExactToldSaid' (YbulksuiFmtCards.lean). -/
def LawS0957AExactFormAsk : Prop := lawS0957AExactRow.holds Ybaf.pinned (OpenSpec.ofChange lawS0957AExactSpec)

/-- ITS FALSE NEIGHBOUR: 'it returns false'. Refute it at one input. -/
def lawS0957AExactWrong : ChangeSpec := { name := "lawS0957AExact", fn := fun _ => fun
  | [d1, d2, d3] => { results := [.lit (.bool false)], args := [d1, d2, d3] }
  | _ => none }
def LawS0957AExactWrongFormAsk : Prop := lawS0957AExactRow.holds Ybaf.pinned (OpenSpec.ofChange lawS0957AExactWrong)

/-- 'ears.LawS0957AValidity': WHATEVER THE INPUT: true; the input reads as it did. -/
def lawS0957AValiditySpec : ChangeSpec := { name := "lawS0957AValidity", fn := fun _ => fun
  | [d1, d2, d3] => { results := [.lit (.bool true)], args := [d1, d2, d3] }
  | _ => none }
def lawS0957AValidityRow : OpenClaim := { program := "ybulksuifmt", sum := "308253a27a1fdca888d7c4b8a7ad550ff70a2d2f9b991e8f40a0dc8ee14f08f4", func := "example.com/murmurant/murmurant/ears.LawS0957AValidity", spec := "lawS0957AValidity", stops := ["fmt.errorf"], inPlace := ["math.Float64frombits", "fmt.errorf", "math.Float64bits", "math.archLog", "math.archCeil", "math.archFloor", "math.archTrunc"], apart := false }
/-- NO THEOREM (fmt's text is open here; it may be false): for the released tool's asking of the row's closed facts alone. THE STATEMENT IS 'LawS0957AValidityToldSaid' (YbulksuiFmtCards.lean). -/
def LawS0957AValidityFormAsk : Prop := lawS0957AValidityRow.holds Ybaf.pinned (OpenSpec.ofChange lawS0957AValiditySpec)

/-- ITS FALSE NEIGHBOUR: 'it returns false'. Refute it at one input. -/
def lawS0957AValidityWrong : ChangeSpec := { name := "lawS0957AValidity", fn := fun _ => fun
  | [d1, d2, d3] => { results := [.lit (.bool false)], args := [d1, d2, d3] }
  | _ => none }
def LawS0957AValidityWrongFormAsk : Prop := lawS0957AValidityRow.holds Ybaf.pinned (OpenSpec.ofChange lawS0957AValidityWrong)

/-- 'bitset.LawS0957BReads': WHATEVER THE INPUT: true; the input reads as it did. -/
def lawS0957BReadsSpec : ChangeSpec := { name := "lawS0957BReads", fn := fun _ => fun
  | [d1, d2] => { results := [.lit (.bool true)], args := [d1, d2] }
  | _ => none }
def lawS0957BReadsRow : OpenClaim := { program := "ybulksuifmt", sum := "308253a27a1fdca888d7c4b8a7ad550ff70a2d2f9b991e8f40a0dc8ee14f08f4", func := "example.com/murmurant/murmurant/internal/bitset.LawS0957BReads", spec := "lawS0957BReads", stops := ["fmt.errorf"], inPlace := ["fmt.errorf"], apart := false }
/-- NO THEOREM (fmt's text is open here; it may be false): for the released tool's asking of the row's closed facts alone. THE STATEMENT IS 'LawS0957BReadsToldSaid' (YbulksuiFmtCards.lean). -/
def LawS0957BReadsFormAsk : Prop := lawS0957BReadsRow.holds Ybaf.pinned (OpenSpec.ofChange lawS0957BReadsSpec)

/-- ITS FALSE NEIGHBOUR: 'it returns false'. Refute it at one input. -/
def lawS0957BReadsWrong : ChangeSpec := { name := "lawS0957BReads", fn := fun _ => fun
  | [d1, d2] => { results := [.lit (.bool false)], args := [d1, d2] }
  | _ => none }
def LawS0957BReadsWrongFormAsk : Prop := lawS0957BReadsRow.holds Ybaf.pinned (OpenSpec.ofChange lawS0957BReadsWrong)

end Rows
end Go.Proofs.YbulksuiFmt
