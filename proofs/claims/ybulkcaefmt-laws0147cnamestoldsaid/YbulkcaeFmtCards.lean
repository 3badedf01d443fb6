/-
  DERIVED. GIVEN WITH THE SEED: THE CARDS: each row of YbulkcaeFmtRows.lean that lists a variable, with what it lists TIED to the program's text (the seventh form; the later family's looks); each row that meets fmt, with fmt's text TOLD by the authors' own Lean function (tested against real Go, not proved from fmt's source: count such statements apart). THE CARD IS WHAT COUNTS. Prove the row's statement (the work); the ties are given (YbulkcaeFmtTie.lean); close each card by the builder's one call (the guide's Derived/Test/ToyasCard.lean, 'card_holds'). Laid BY PROGRAM, IN A SANDBOX (cutbox-door.mjs). By AI agents, Wed Nov 11 2026. No macro, syntax, notation, axiom, sorry.
-/
import Derived.Test.YbulkcaeFmtRows
import GoSem.ClaimSeven
namespace Go.Proofs.YbulkcaeFmt
namespace Rows

/-- THE TOLD CARD OF 'decimal.LawS0147CNames'. -/
def lawS0147CNamesCard : Claim7 := { stood := { row := lawS0147CNamesRow, standIns := [], harness := (true, "cce5c1e674b1cab38d53d39a8f859851653d663493cbfbc79d3bd4d7ecfde743"), looks := false }, told := true, goes := false }
def LawS0147CNamesToldSaid : Prop := Claim7.holds Ybaf.pinned (.plain (OpenSpec.ofChange lawS0147CNamesSpec)) lawS0147CNamesCard
/-- ITS FALSE NEIGHBOUR. Refute it at one input. -/
def LawS0147CNamesToldWrongFalsely : Prop := Claim7.holds Ybaf.pinned (.plain (OpenSpec.ofChange lawS0147CNamesWrong)) lawS0147CNamesCard

/-- THE TOLD CARD OF 'decimal.LawS0147CAny'. -/
def lawS0147CAnyCard : Claim7 := { stood := { row := lawS0147CAnyRow, standIns := [], harness := (true, "cce5c1e674b1cab38d53d39a8f859851653d663493cbfbc79d3bd4d7ecfde743"), looks := false }, told := true, goes := false }
def LawS0147CAnyToldSaid : Prop := Claim7.holds Ybaf.pinned (.plain (OpenSpec.ofChange lawS0147CAnySpec)) lawS0147CAnyCard
/-- ITS FALSE NEIGHBOUR. Refute it at one input. -/
def LawS0147CAnyToldWrongFalsely : Prop := Claim7.holds Ybaf.pinned (.plain (OpenSpec.ofChange lawS0147CAnyWrong)) lawS0147CAnyCard
end Rows
end Go.Proofs.YbulkcaeFmt
