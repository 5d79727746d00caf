/-
  No cell of these rows narrows 'for every input' (looked for: loops, veiled, ifaces, maps, wideKeys, modest, calm, conditions, laid).
  DERIVED. THE GIVEN ROWS OF THIS SEAT. 2 by the template 'for every input the law returns true; each argument reads behind the call as it read before'; 0 by the template 'total and deterministic' (their statements: YbulkztgTotals.lean).
  GIVEN WITH THE SEED: the statements are not yours to turn. If you find one false, say at which input.
  Laid BY PROGRAM, IN A SANDBOX (cutbox-rows.mjs): the forced cells as the released guide's own fill.sh prints them over the translation 2ba4f3ebeb8ccca9… (all of the seat's roots in one cut). By AI agents, Wed Nov 11 2026. No macro, syntax, notation, axiom, sorry.
-/
import Derived.Test.YbulkztgChecked
import GoSem.Claim
import GoSem.ClaimJoined
import GoSem.ClaimMapViews
import Derived.JoinedTies
import Derived.KernelRfl
namespace Go.Proofs.Ybulkztg
/- THE CELL 'sum', in the pinned program and in every row, IS THE sha256 OF THE DUMP (.gsa) THAT YbulkztgProg.lean LOADS. Nothing in Lean hashes anything: it is a label: what it is worth is what the hold of that sum in a sandbox is worth. -/
noncomputable def Yba.pinned : Pinned := { name := "ybulkztg", sum := "2ba4f3ebeb8ccca9db78e1ac9f0d4f8be0c9e18838a3544cac7d5e8fa045043e", checked := Yba.checked }
namespace Rows
def none {H : Type} : Left H := { results := [], args := [] }

/-- 'epochwise.LawS1293AExact': WHATEVER THE INPUT: true; the input reads as it did. -/
def lawS1293AExactSpec : ChangeSpec := { name := "lawS1293AExact", fn := fun _ => fun
  | [d] => { results := [.lit (.bool true)], args := [d] }
  | _ => none }
def lawS1293AExactRow : OpenClaim := { program := "ybulkztg", sum := "2ba4f3ebeb8ccca9db78e1ac9f0d4f8be0c9e18838a3544cac7d5e8fa045043e", func := "example.com/epochwise/epochwise.LawS1293AExact", spec := "lawS1293AExact", apart := false }
def LawS1293AExactSaid : Prop := lawS1293AExactRow.holds Yba.pinned (OpenSpec.ofChange lawS1293AExactSpec)

/-- ITS FALSE NEIGHBOUR: 'it returns false'. Refute it at one input. -/
def lawS1293AExactWrong : ChangeSpec := { name := "lawS1293AExact", fn := fun _ => fun
  | [d] => { results := [.lit (.bool false)], args := [d] }
  | _ => none }
def LawS1293AExactWrongFalsely : Prop := lawS1293AExactRow.holds Yba.pinned (OpenSpec.ofChange lawS1293AExactWrong)

/-- 'epochwise.LawS1293AOrder': WHATEVER THE INPUT: true; the input reads as it did. -/
def lawS1293AOrderSpec : ChangeSpec := { name := "lawS1293AOrder", fn := fun _ => fun
  | [d1, d2] => { results := [.lit (.bool true)], args := [d1, d2] }
  | _ => none }
def lawS1293AOrderRow : OpenClaim := { program := "ybulkztg", sum := "2ba4f3ebeb8ccca9db78e1ac9f0d4f8be0c9e18838a3544cac7d5e8fa045043e", func := "example.com/epochwise/epochwise.LawS1293AOrder", spec := "lawS1293AOrder", apart := false }
def LawS1293AOrderSaid : Prop := lawS1293AOrderRow.holds Yba.pinned (OpenSpec.ofChange lawS1293AOrderSpec)

/-- ITS FALSE NEIGHBOUR: 'it returns false'. Refute it at one input. -/
def lawS1293AOrderWrong : ChangeSpec := { name := "lawS1293AOrder", fn := fun _ => fun
  | [d1, d2] => { results := [.lit (.bool false)], args := [d1, d2] }
  | _ => none }
def LawS1293AOrderWrongFalsely : Prop := lawS1293AOrderRow.holds Yba.pinned (OpenSpec.ofChange lawS1293AOrderWrong)

end Rows
end Go.Proofs.Ybulkztg
