/-
  DERIVED. GIVEN WITH THE SEED: THE CARDS: each row of YbulksuiFmtRows.lean that lists a variable, with what it lists TIED to the program's text (the seventh form; the later family's looks); each row that meets fmt, with fmt's text TOLD by the authors' own Lean function (tested against real Go, not proved from fmt's source: count such statements apart). THE CARD IS WHAT COUNTS. Prove the row's statement (the work); the ties are given (YbulksuiFmtTie.lean); close each card by the builder's one call (the guide's Derived/Test/ToyasCard.lean, 'card_holds'). Laid BY PROGRAM, IN A SANDBOX (cutbox-door.mjs). By AI agents, Wed Nov 11 2026. No macro, syntax, notation, axiom, sorry.
-/
import Derived.Test.YbulksuiFmtRows
import GoSem.ClaimSeven
namespace Go.Proofs.YbulksuiFmt
namespace Rows

/-- THE TOLD CARD OF 'ears.LawS0957AExact'. -/
def lawS0957AExactCard : Claim7 := { stood := { row := lawS0957AExactRow, standIns := [], harness := (true, "bc5695598501a59815cdc0d5c2fc1f1a431be61440189973030f91abc5ed2ebe"), looks := false }, told := true, goes := false }
def LawS0957AExactToldSaid : Prop := Claim7.holds Ybaf.pinned (.plain (OpenSpec.ofChange lawS0957AExactSpec)) lawS0957AExactCard
/-- ITS FALSE NEIGHBOUR. Refute it at one input. -/
def LawS0957AExactToldWrongFalsely : Prop := Claim7.holds Ybaf.pinned (.plain (OpenSpec.ofChange lawS0957AExactWrong)) lawS0957AExactCard

/-- THE TOLD CARD OF 'ears.LawS0957AValidity'. -/
def lawS0957AValidityCard : Claim7 := { stood := { row := lawS0957AValidityRow, standIns := [], harness := (true, "bc5695598501a59815cdc0d5c2fc1f1a431be61440189973030f91abc5ed2ebe"), looks := false }, told := true, goes := false }
def LawS0957AValidityToldSaid : Prop := Claim7.holds Ybaf.pinned (.plain (OpenSpec.ofChange lawS0957AValiditySpec)) lawS0957AValidityCard
/-- ITS FALSE NEIGHBOUR. Refute it at one input. -/
def LawS0957AValidityToldWrongFalsely : Prop := Claim7.holds Ybaf.pinned (.plain (OpenSpec.ofChange lawS0957AValidityWrong)) lawS0957AValidityCard

/-- THE TOLD CARD OF 'bitset.LawS0957BReads'. -/
def lawS0957BReadsCard : Claim7 := { stood := { row := lawS0957BReadsRow, standIns := [], harness := (true, "bc5695598501a59815cdc0d5c2fc1f1a431be61440189973030f91abc5ed2ebe"), looks := false }, told := true, goes := false }
def LawS0957BReadsToldSaid : Prop := Claim7.holds Ybaf.pinned (.plain (OpenSpec.ofChange lawS0957BReadsSpec)) lawS0957BReadsCard
/-- ITS FALSE NEIGHBOUR. Refute it at one input. -/
def LawS0957BReadsToldWrongFalsely : Prop := Claim7.holds Ybaf.pinned (.plain (OpenSpec.ofChange lawS0957BReadsWrong)) lawS0957BReadsCard
end Rows
end Go.Proofs.YbulksuiFmt
