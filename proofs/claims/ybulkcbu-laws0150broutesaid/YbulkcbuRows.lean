/-
  No cell of these rows narrows 'for every input' (looked for: loops, veiled, ifaces, maps, wideKeys, modest, calm, conditions, laid).
  DERIVED. THE GIVEN ROWS OF THIS SEAT. 1 by the template 'for every input the law returns true; each argument reads behind the call as it read before'; 0 by the template 'total and deterministic' (their statements: YbulkcbuTotals.lean).
  GIVEN WITH THE SEED: the statements are not yours to turn. If you find one false, say at which input.
  Laid BY PROGRAM, IN A SANDBOX (cutbox-rows.mjs): the forced cells as the released guide's own fill.sh prints them over the translation 3b726d02cd473ddf… (all of the seat's roots in one cut). By AI agents, Wed Nov 11 2026. No macro, syntax, notation, axiom, sorry.
-/
import Derived.Test.YbulkcbuChecked
import GoSem.Claim
import GoSem.ClaimJoined
import GoSem.ClaimMapViews
import Derived.JoinedTies
import Derived.KernelRfl
namespace Go.Proofs.Ybulkcbu
/- THE CELL 'sum', in the pinned program and in every row, IS THE sha256 OF THE DUMP (.gsa) THAT YbulkcbuProg.lean LOADS. Nothing in Lean hashes anything: it is a label: what it is worth is what the hold of that sum in a sandbox is worth. -/
noncomputable def Yba.pinned : Pinned := { name := "ybulkcbu", sum := "3b726d02cd473ddf46d8c92a0568816778b03f06bad54fbb5bfb6d34697d9509", checked := Yba.checked }
namespace Rows
def none {H : Type} : Left H := { results := [], args := [] }

/-- 'bearershift.LawS0150BRoute': WHATEVER THE INPUT: true; the input reads as it did. -/
def lawS0150BRouteSpec : ChangeSpec := { name := "lawS0150BRoute", fn := fun _ => fun
  | [d] => { results := [.lit (.bool true)], args := [d] }
  | _ => none }
def lawS0150BRouteRow : OpenClaim := { program := "ybulkcbu", sum := "3b726d02cd473ddf46d8c92a0568816778b03f06bad54fbb5bfb6d34697d9509", func := "example.com/bearershift/bearershift.LawS0150BRoute", spec := "lawS0150BRoute", apart := false }
def LawS0150BRouteSaid : Prop := lawS0150BRouteRow.holds Yba.pinned (OpenSpec.ofChange lawS0150BRouteSpec)

/-- ITS FALSE NEIGHBOUR: 'it returns false'. Refute it at one input. -/
def lawS0150BRouteWrong : ChangeSpec := { name := "lawS0150BRoute", fn := fun _ => fun
  | [d] => { results := [.lit (.bool false)], args := [d] }
  | _ => none }
def LawS0150BRouteWrongFalsely : Prop := lawS0150BRouteRow.holds Yba.pinned (OpenSpec.ofChange lawS0150BRouteWrong)

end Rows
end Go.Proofs.Ybulkcbu
