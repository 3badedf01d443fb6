/-
  DERIVED. GIVEN WITH THE SEED: THE CARDS: each row of YbulkcbuFmtRows.lean that lists a variable, with what it lists TIED to the program's text (the seventh form; the later family's looks); each row that meets fmt, with fmt's text TOLD by the authors' own Lean function (tested against real Go, not proved from fmt's source: count such statements apart). THE CARD IS WHAT COUNTS. Prove the row's statement (the work); the ties are given (YbulkcbuFmtTie.lean); close each card by the builder's one call (the guide's Derived/Test/ToyasCard.lean, 'card_holds'). Laid BY PROGRAM, IN A SANDBOX (cutbox-door.mjs). By AI agents, Wed Nov 11 2026. No macro, syntax, notation, axiom, sorry.
-/
import Derived.Test.YbulkcbuFmtRows
import GoSem.ClaimSeven
namespace Go.Proofs.YbulkcbuFmt
namespace Rows

/-- THE TOLD AND TIED CARD OF 'bearershift.LawS0150AReads'. -/
def lawS0150AReadsCard : Claim7 := { stood := { row := lawS0150AReadsRow, standIns := [], harness := (true, "037393372154e7bea6bed20ec6219de44ea568909c34e23327c9f8b0f2cde98f"), looks := false }, told := true, laidByText := true, laidKinds := [.widerDeep, .widerDeep], laidTests := true, laidLooks := .later, goes := false }
def LawS0150AReadsToldSaid : Prop := Claim7.holds Ybaf.pinned (.plain (OpenSpec.ofChange lawS0150AReadsSpec)) lawS0150AReadsCard
/-- ITS FALSE NEIGHBOUR. Refute it at one input. -/
def LawS0150AReadsToldWrongFalsely : Prop := Claim7.holds Ybaf.pinned (.plain (OpenSpec.ofChange lawS0150AReadsWrong)) lawS0150AReadsCard

/-- THE TOLD AND TIED CARD OF 'bearershift.LawS0150CNames'. -/
def lawS0150CNamesCard : Claim7 := { stood := { row := lawS0150CNamesRow, standIns := [], harness := (true, "037393372154e7bea6bed20ec6219de44ea568909c34e23327c9f8b0f2cde98f"), looks := false }, told := true, laidByText := true, laidKinds := [.widerDeep], laidTests := true, laidLooks := .later, goes := false }
def LawS0150CNamesToldSaid : Prop := Claim7.holds Ybaf.pinned (.plain (OpenSpec.ofChange lawS0150CNamesSpec)) lawS0150CNamesCard
/-- ITS FALSE NEIGHBOUR. Refute it at one input. -/
def LawS0150CNamesToldWrongFalsely : Prop := Claim7.holds Ybaf.pinned (.plain (OpenSpec.ofChange lawS0150CNamesWrong)) lawS0150CNamesCard

/-- THE TOLD AND TIED CARD OF 'bearershift.LawS0150CRoundTrip'. -/
def lawS0150CRoundTripCard : Claim7 := { stood := { row := lawS0150CRoundTripRow, standIns := [], harness := (true, "037393372154e7bea6bed20ec6219de44ea568909c34e23327c9f8b0f2cde98f"), looks := false }, told := true, laidByText := true, laidKinds := [.widerDeep], laidTests := true, laidLooks := .later, goes := false }
def LawS0150CRoundTripToldSaid : Prop := Claim7.holds Ybaf.pinned (.plain (OpenSpec.ofChange lawS0150CRoundTripSpec)) lawS0150CRoundTripCard
/-- ITS FALSE NEIGHBOUR. Refute it at one input. -/
def LawS0150CRoundTripToldWrongFalsely : Prop := Claim7.holds Ybaf.pinned (.plain (OpenSpec.ofChange lawS0150CRoundTripWrong)) lawS0150CRoundTripCard
end Rows
end Go.Proofs.YbulkcbuFmt
