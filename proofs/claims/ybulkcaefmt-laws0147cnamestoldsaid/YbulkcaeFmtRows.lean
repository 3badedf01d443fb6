/-
  No cell of these rows narrows 'for every input' (looked for: loops, veiled, ifaces, maps, wideKeys, modest, calm, conditions, laid).
  DERIVED. THE GIVEN ROWS OF THIS SEAT. 2 by the template 'for every input the law returns true; each argument reads behind the call as it read before'; 0 by the template 'total and deterministic' (their statements: YbulkcaeFmtTotals.lean).
  GIVEN WITH THE SEED: the statements are not yours to turn. If you find one false, say at which input.
  Laid BY PROGRAM, IN A SANDBOX (cutbox-rows.mjs): the forced cells as the released guide's own fill.sh prints them over the translation 94b95efd360d7db4… (all of the seat's roots in one cut). By AI agents, Wed Nov 11 2026. No macro, syntax, notation, axiom, sorry.
-/
import Derived.Test.YbulkcaeFmtChecked
import GoSem.Claim
import GoSem.ClaimJoined
import GoSem.ClaimMapViews
import Derived.JoinedTies
import Derived.KernelRfl
namespace Go.Proofs.YbulkcaeFmt
/- THE CELL 'sum', in the pinned program and in every row, IS THE sha256 OF THE DUMP (.gsa) THAT YbulkcaeFmtProg.lean LOADS. Nothing in Lean hashes anything: it is a label: what it is worth is what the hold of that sum in a sandbox is worth. -/
noncomputable def Ybaf.pinned : Pinned := { name := "ybulkcaefmt", sum := "94b95efd360d7db475a353ba89bb4f3eddf2b72e885f522e93febd4c47a1c7bb", checked := Ybaf.checked }
namespace Rows
def none {H : Type} : Left H := { results := [], args := [] }

/-- 'decimal.LawS0147CNames': WHATEVER THE INPUT: true; the input reads as it did. -/
def lawS0147CNamesSpec : ChangeSpec := { name := "lawS0147CNames", fn := fun _ => fun
  | [d] => { results := [.lit (.bool true)], args := [d] }
  | _ => none }
def lawS0147CNamesRow : OpenClaim := { program := "ybulkcaefmt", sum := "94b95efd360d7db475a353ba89bb4f3eddf2b72e885f522e93febd4c47a1c7bb", func := "example.com/zhaomu/zhaomu/pkg/decimal.LawS0147CNames", spec := "lawS0147CNames", stops := ["fmt.Sprintf"], inPlace := ["fmt.Sprintf"], apart := false }
/-- NO THEOREM (fmt's text is open here; it may be false): for the released tool's asking of the row's closed facts alone. THE STATEMENT IS 'LawS0147CNamesToldSaid' (YbulkcaeFmtCards.lean). -/
def LawS0147CNamesFormAsk : Prop := lawS0147CNamesRow.holds Ybaf.pinned (OpenSpec.ofChange lawS0147CNamesSpec)

/-- ITS FALSE NEIGHBOUR: 'it returns false'. Refute it at one input. -/
def lawS0147CNamesWrong : ChangeSpec := { name := "lawS0147CNames", fn := fun _ => fun
  | [d] => { results := [.lit (.bool false)], args := [d] }
  | _ => none }
def LawS0147CNamesWrongFormAsk : Prop := lawS0147CNamesRow.holds Ybaf.pinned (OpenSpec.ofChange lawS0147CNamesWrong)

/-- 'decimal.LawS0147CAny': WHATEVER THE INPUT: true; the input reads as it did. -/
def lawS0147CAnySpec : ChangeSpec := { name := "lawS0147CAny", fn := fun _ => fun
  | [d] => { results := [.lit (.bool true)], args := [d] }
  | _ => none }
def lawS0147CAnyRow : OpenClaim := { program := "ybulkcaefmt", sum := "94b95efd360d7db475a353ba89bb4f3eddf2b72e885f522e93febd4c47a1c7bb", func := "example.com/zhaomu/zhaomu/pkg/decimal.LawS0147CAny", spec := "lawS0147CAny", stops := ["fmt.Sprintf"], inPlace := ["fmt.Sprintf"], apart := false }
/-- NO THEOREM (fmt's text is open here; it may be false): for the released tool's asking of the row's closed facts alone. THE STATEMENT IS 'LawS0147CAnyToldSaid' (YbulkcaeFmtCards.lean). -/
def LawS0147CAnyFormAsk : Prop := lawS0147CAnyRow.holds Ybaf.pinned (OpenSpec.ofChange lawS0147CAnySpec)

/-- ITS FALSE NEIGHBOUR: 'it returns false'. Refute it at one input. -/
def lawS0147CAnyWrong : ChangeSpec := { name := "lawS0147CAny", fn := fun _ => fun
  | [d] => { results := [.lit (.bool false)], args := [d] }
  | _ => none }
def LawS0147CAnyWrongFormAsk : Prop := lawS0147CAnyRow.holds Ybaf.pinned (OpenSpec.ofChange lawS0147CAnyWrong)

end Rows
end Go.Proofs.YbulkcaeFmt
