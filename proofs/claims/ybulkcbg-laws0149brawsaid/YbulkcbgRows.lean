/-
  No cell of these rows narrows 'for every input' (looked for: loops, veiled, ifaces, maps, wideKeys, modest, calm, conditions, laid).
  DERIVED. THE GIVEN ROWS OF THIS SEAT. 2 by the template 'for every input the law returns true; each argument reads behind the call as it read before'; 0 by the template 'total and deterministic' (their statements: YbulkcbgTotals.lean).
  GIVEN WITH THE SEED: the statements are not yours to turn. If you find one false, say at which input.
  Laid BY PROGRAM, IN A SANDBOX (cutbox-rows.mjs): the forced cells as the released guide's own fill.sh prints them over the translation c74df908d6a5a438… (all of the seat's roots in one cut). By AI agents, Wed Nov 11 2026. No macro, syntax, notation, axiom, sorry.
-/
import Derived.Test.YbulkcbgChecked
import GoSem.Claim
import GoSem.ClaimJoined
import GoSem.ClaimMapViews
import Derived.JoinedTies
import Derived.KernelRfl
namespace Go.Proofs.Ybulkcbg
/- THE CELL 'sum', in the pinned program and in every row, IS THE sha256 OF THE DUMP (.gsa) THAT YbulkcbgProg.lean LOADS. Nothing in Lean hashes anything: it is a label: what it is worth is what the hold of that sum in a sandbox is worth. -/
noncomputable def Yba.pinned : Pinned := { name := "ybulkcbg", sum := "c74df908d6a5a438be08097c01de97f64ce2b8803e81ff6f8138aba295223191", checked := Yba.checked }
namespace Rows
def none {H : Type} : Left H := { results := [], args := [] }

/-- 'table.LawS0149BPlain': WHATEVER THE INPUT: true; the input reads as it did. -/
def lawS0149BPlainSpec : ChangeSpec := { name := "lawS0149BPlain", fn := fun _ => fun
  | [d1, d2, d3] => { results := [.lit (.bool true)], args := [d1, d2, d3] }
  | _ => none }
def lawS0149BPlainRow : OpenClaim := { program := "ybulkcbg", sum := "c74df908d6a5a438be08097c01de97f64ce2b8803e81ff6f8138aba295223191", func := "example.com/kho-phieu/kho-phieu/table.LawS0149BPlain", spec := "lawS0149BPlain", apart := false }
def LawS0149BPlainSaid : Prop := lawS0149BPlainRow.holds Yba.pinned (OpenSpec.ofChange lawS0149BPlainSpec)

/-- ITS FALSE NEIGHBOUR: 'it returns false'. Refute it at one input. -/
def lawS0149BPlainWrong : ChangeSpec := { name := "lawS0149BPlain", fn := fun _ => fun
  | [d1, d2, d3] => { results := [.lit (.bool false)], args := [d1, d2, d3] }
  | _ => none }
def LawS0149BPlainWrongFalsely : Prop := lawS0149BPlainRow.holds Yba.pinned (OpenSpec.ofChange lawS0149BPlainWrong)

/-- 'table.LawS0149BRaw': WHATEVER THE INPUT: true; the input reads as it did. -/
def lawS0149BRawSpec : ChangeSpec := { name := "lawS0149BRaw", fn := fun _ => fun
  | [d1, d2, d3] => { results := [.lit (.bool true)], args := [d1, d2, d3] }
  | _ => none }
def lawS0149BRawRow : OpenClaim := { program := "ybulkcbg", sum := "c74df908d6a5a438be08097c01de97f64ce2b8803e81ff6f8138aba295223191", func := "example.com/kho-phieu/kho-phieu/table.LawS0149BRaw", spec := "lawS0149BRaw", apart := false }
def LawS0149BRawSaid : Prop := lawS0149BRawRow.holds Yba.pinned (OpenSpec.ofChange lawS0149BRawSpec)

/-- ITS FALSE NEIGHBOUR: 'it returns false'. Refute it at one input. -/
def lawS0149BRawWrong : ChangeSpec := { name := "lawS0149BRaw", fn := fun _ => fun
  | [d1, d2, d3] => { results := [.lit (.bool false)], args := [d1, d2, d3] }
  | _ => none }
def LawS0149BRawWrongFalsely : Prop := lawS0149BRawRow.holds Yba.pinned (OpenSpec.ofChange lawS0149BRawWrong)

end Rows
end Go.Proofs.Ybulkcbg
