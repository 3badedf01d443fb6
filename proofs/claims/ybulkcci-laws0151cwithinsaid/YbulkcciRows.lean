/-
  No cell of these rows narrows 'for every input' (looked for: loops, veiled, ifaces, maps, wideKeys, modest, calm, conditions, laid).
  DERIVED. THE GIVEN ROWS OF THIS SEAT. 1 by the template 'for every input the law returns true; each argument reads behind the call as it read before'; 0 by the template 'total and deterministic' (their statements: YbulkcciTotals.lean).
  GIVEN WITH THE SEED: the statements are not yours to turn. If you find one false, say at which input.
  Laid BY PROGRAM, IN A SANDBOX (cutbox-rows.mjs): the forced cells as the released guide's own fill.sh prints them over the translation 526718979f878948… (all of the seat's roots in one cut). By AI agents, Wed Nov 11 2026. No macro, syntax, notation, axiom, sorry.
-/
import Derived.Test.YbulkcciChecked
import GoSem.Claim
import GoSem.ClaimJoined
import GoSem.ClaimMapViews
import Derived.JoinedTies
import Derived.KernelRfl
namespace Go.Proofs.Ybulkcci
/- THE CELL 'sum', in the pinned program and in every row, IS THE sha256 OF THE DUMP (.gsa) THAT YbulkcciProg.lean LOADS. Nothing in Lean hashes anything: it is a label: what it is worth is what the hold of that sum in a sandbox is worth. -/
noncomputable def Yba.pinned : Pinned := { name := "ybulkcci", sum := "526718979f87894861d606d99ed475705a01e6b434ec5bbcc2429102ec3644cf", checked := Yba.checked }
namespace Rows
def none {H : Type} : Left H := { results := [], args := [] }

/-- 'waterline.LawS0151CWithin': WHATEVER THE INPUT: true; the input reads as it did. -/
def lawS0151CWithinSpec : ChangeSpec := { name := "lawS0151CWithin", fn := fun _ => fun
  | [d1, d2, d3, d4] => { results := [.lit (.bool true)], args := [d1, d2, d3, d4] }
  | _ => none }
def lawS0151CWithinRow : OpenClaim := { program := "ybulkcci", sum := "526718979f87894861d606d99ed475705a01e6b434ec5bbcc2429102ec3644cf", func := "example.com/waterline/waterline.LawS0151CWithin", spec := "lawS0151CWithin", unfollowed := true, recurses := true, apart := false }
def LawS0151CWithinSaid : Prop := lawS0151CWithinRow.holds Yba.pinned (OpenSpec.ofChange lawS0151CWithinSpec)

/-- ITS FALSE NEIGHBOUR: 'it returns false'. Refute it at one input. -/
def lawS0151CWithinWrong : ChangeSpec := { name := "lawS0151CWithin", fn := fun _ => fun
  | [d1, d2, d3, d4] => { results := [.lit (.bool false)], args := [d1, d2, d3, d4] }
  | _ => none }
def LawS0151CWithinWrongFalsely : Prop := lawS0151CWithinRow.holds Yba.pinned (OpenSpec.ofChange lawS0151CWithinWrong)

end Rows
end Go.Proofs.Ybulkcci
