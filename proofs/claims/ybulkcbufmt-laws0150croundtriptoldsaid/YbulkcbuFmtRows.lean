/-
  NARROWER THAN 'FOR EVERY INPUT', by the rows' own cells (each row's printed sentence says how): LawS0150AReads: laid · LawS0150CNames: laid · LawS0150CRoundTrip: laid.
  DERIVED. THE GIVEN ROWS OF THIS SEAT. 3 by the template 'for every input the law returns true; each argument reads behind the call as it read before'; 0 by the template 'total and deterministic' (their statements: YbulkcbuFmtTotals.lean).
  GIVEN WITH THE SEED: the statements are not yours to turn. If you find one false, say at which input.
  Laid BY PROGRAM, IN A SANDBOX (cutbox-rows.mjs): the forced cells as the released guide's own fill.sh prints them over the translation a7fcba63211fc81d… (all of the seat's roots in one cut). By AI agents, Wed Nov 11 2026. No macro, syntax, notation, axiom, sorry.
-/
import Derived.Test.YbulkcbuFmtChecked
import GoSem.Claim
import GoSem.ClaimJoined
import GoSem.ClaimMapViews
import Derived.JoinedTies
import Derived.KernelRfl
namespace Go.Proofs.YbulkcbuFmt
/- THE CELL 'sum', in the pinned program and in every row, IS THE sha256 OF THE DUMP (.gsa) THAT YbulkcbuFmtProg.lean LOADS. Nothing in Lean hashes anything: it is a label: what it is worth is what the hold of that sum in a sandbox is worth. -/
noncomputable def Ybaf.pinned : Pinned := { name := "ybulkcbufmt", sum := "a7fcba63211fc81d2d56d73cf82fcdfa33ff422793b9fb352d360579fd0ad039", checked := Ybaf.checked }
namespace Rows
def none {H : Type} : Left H := { results := [], args := [] }

/- WHAT THE LISTED PACKAGE-LEVEL VARIABLES READ AS WHEN THE CALL BEGINS. Each datum BY PROGRAM (the guide's laid-datum.mjs) off the statement by which the dump's own 'gosem.cut.vars' lays the variable. In a bare row this is a premise. The card (YbulkcbuFmtCards.lean) ties it to the program's text. -/
def laid_example_com_bearershift_bearershift_serviceNames {H : Type} : DataW H := .agg [.lit (.string [110, 111, 110, 101]), .lit (.string [115, 112, 101, 101, 99, 104]), .lit (.string [109, 117, 108, 116, 105, 109, 101, 100, 105, 97])]
def laid_example_com_bearershift_bearershift_forwardingReasonNames {H : Type} : DataW H := .agg [.lit (.string [99, 102, 117]), .lit (.string [99, 102, 110, 114, 99])]

/-- 'bearershift.LawS0150AReads': WHATEVER THE INPUT: true; the input reads as it did. -/
def lawS0150AReadsSpec : ChangeSpec := { name := "lawS0150AReads", vars := ["example.com/bearershift/bearershift.forwardingReasonNames", "example.com/bearershift/bearershift.serviceNames"], fn := fun _ => fun
  | [d1, d2, d3, d4, d5, d6, d7, d8, g1, g2] => { results := [.lit (.bool true)], args := [d1, d2, d3, d4, d5, d6, d7, d8], vars := [g1, g2] }
  | _ => none }
def lawS0150AReadsRow : OpenClaim := { program := "ybulkcbufmt", sum := "a7fcba63211fc81d2d56d73cf82fcdfa33ff422793b9fb352d360579fd0ad039", func := "example.com/bearershift/bearershift.LawS0150AReads", spec := "lawS0150AReads", stops := ["fmt.Sprintf, its operands' methods called", "fmt.errorf, its operands' methods called"], inPlace := ["internal/abi.NoEscape", "internal/bytealg.MakeNoZero", "fmt.errorf"], unfollowed := true, recurses := true, named := ["example.com/bearershift/bearershift.forwardingReasonNames", "example.com/bearershift/bearershift.serviceNames"], apart := false, laid := [("example.com/bearershift/bearershift.serviceNames", laid_example_com_bearershift_bearershift_serviceNames), ("example.com/bearershift/bearershift.forwardingReasonNames", laid_example_com_bearershift_bearershift_forwardingReasonNames)] }
/-- NO THEOREM (fmt's text is open here; it may be false): for the released tool's asking of the row's closed facts alone. THE STATEMENT IS 'LawS0150AReadsToldSaid' (YbulkcbuFmtCards.lean). -/
def LawS0150AReadsFormAsk : Prop := lawS0150AReadsRow.holds Ybaf.pinned (OpenSpec.ofChange lawS0150AReadsSpec)

/-- ITS FALSE NEIGHBOUR: 'it returns false'. Refute it at one input. -/
def lawS0150AReadsWrong : ChangeSpec := { name := "lawS0150AReads", vars := ["example.com/bearershift/bearershift.forwardingReasonNames", "example.com/bearershift/bearershift.serviceNames"], fn := fun _ => fun
  | [d1, d2, d3, d4, d5, d6, d7, d8, g1, g2] => { results := [.lit (.bool false)], args := [d1, d2, d3, d4, d5, d6, d7, d8], vars := [g1, g2] }
  | _ => none }
def LawS0150AReadsWrongFormAsk : Prop := lawS0150AReadsRow.holds Ybaf.pinned (OpenSpec.ofChange lawS0150AReadsWrong)

/-- 'bearershift.LawS0150CNames': WHATEVER THE INPUT: true; the input reads as it did. -/
def lawS0150CNamesSpec : ChangeSpec := { name := "lawS0150CNames", vars := ["example.com/bearershift/bearershift.serviceNames"], fn := fun _ => fun
  | [d, g1] => { results := [.lit (.bool true)], args := [d], vars := [g1] }
  | _ => none }
def lawS0150CNamesRow : OpenClaim := { program := "ybulkcbufmt", sum := "a7fcba63211fc81d2d56d73cf82fcdfa33ff422793b9fb352d360579fd0ad039", func := "example.com/bearershift/bearershift.LawS0150CNames", spec := "lawS0150CNames", stops := ["fmt.Sprintf, its operands' methods called", "fmt.errorf, its operands' methods called"], inPlace := ["fmt.Sprintf"], unfollowed := true, recurses := true, named := ["example.com/bearershift/bearershift.serviceNames"], apart := false, laid := [("example.com/bearershift/bearershift.serviceNames", laid_example_com_bearershift_bearershift_serviceNames)] }
/-- NO THEOREM (fmt's text is open here; it may be false): for the released tool's asking of the row's closed facts alone. THE STATEMENT IS 'LawS0150CNamesToldSaid' (YbulkcbuFmtCards.lean). -/
def LawS0150CNamesFormAsk : Prop := lawS0150CNamesRow.holds Ybaf.pinned (OpenSpec.ofChange lawS0150CNamesSpec)

/-- ITS FALSE NEIGHBOUR: 'it returns false'. Refute it at one input. -/
def lawS0150CNamesWrong : ChangeSpec := { name := "lawS0150CNames", vars := ["example.com/bearershift/bearershift.serviceNames"], fn := fun _ => fun
  | [d, g1] => { results := [.lit (.bool false)], args := [d], vars := [g1] }
  | _ => none }
def LawS0150CNamesWrongFormAsk : Prop := lawS0150CNamesRow.holds Ybaf.pinned (OpenSpec.ofChange lawS0150CNamesWrong)

/-- 'bearershift.LawS0150CRoundTrip': WHATEVER THE INPUT: true; the input reads as it did. -/
def lawS0150CRoundTripSpec : ChangeSpec := { name := "lawS0150CRoundTrip", vars := ["example.com/bearershift/bearershift.serviceNames"], fn := fun _ => fun
  | [d1, d2, g1] => { results := [.lit (.bool true)], args := [d1, d2], vars := [g1] }
  | _ => none }
def lawS0150CRoundTripRow : OpenClaim := { program := "ybulkcbufmt", sum := "a7fcba63211fc81d2d56d73cf82fcdfa33ff422793b9fb352d360579fd0ad039", func := "example.com/bearershift/bearershift.LawS0150CRoundTrip", spec := "lawS0150CRoundTrip", stops := ["fmt.Sprintf, its operands' methods called", "fmt.errorf, its operands' methods called"], inPlace := ["fmt.Sprintf", "internal/abi.NoEscape", "internal/bytealg.MakeNoZero", "fmt.errorf"], unfollowed := true, recurses := true, named := ["example.com/bearershift/bearershift.serviceNames"], apart := false, laid := [("example.com/bearershift/bearershift.serviceNames", laid_example_com_bearershift_bearershift_serviceNames)] }
/-- NO THEOREM (fmt's text is open here; it may be false): for the released tool's asking of the row's closed facts alone. THE STATEMENT IS 'LawS0150CRoundTripToldSaid' (YbulkcbuFmtCards.lean). -/
def LawS0150CRoundTripFormAsk : Prop := lawS0150CRoundTripRow.holds Ybaf.pinned (OpenSpec.ofChange lawS0150CRoundTripSpec)

/-- ITS FALSE NEIGHBOUR: 'it returns false'. Refute it at one input. -/
def lawS0150CRoundTripWrong : ChangeSpec := { name := "lawS0150CRoundTrip", vars := ["example.com/bearershift/bearershift.serviceNames"], fn := fun _ => fun
  | [d1, d2, g1] => { results := [.lit (.bool false)], args := [d1, d2], vars := [g1] }
  | _ => none }
def LawS0150CRoundTripWrongFormAsk : Prop := lawS0150CRoundTripRow.holds Ybaf.pinned (OpenSpec.ofChange lawS0150CRoundTripWrong)

end Rows
end Go.Proofs.YbulkcbuFmt
