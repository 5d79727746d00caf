/-
  No cell of these rows narrows 'for every input' (looked for: loops, veiled, ifaces, maps, wideKeys, modest, calm, conditions, laid).
  DERIVED. THE GIVEN ROWS OF THIS SEAT. 1 by the template 'for every input the law returns true; each argument reads behind the call as it read before'; 0 by the template 'total and deterministic' (their statements: YbulkzzeTotals.lean).
  GIVEN WITH THE SEED: the statements are not yours to turn. If you find one false, say at which input.
  Laid BY PROGRAM, IN A SANDBOX (cutbox-rows.mjs): the forced cells as the released guide's own fill.sh prints them over the translation 420ec983cf6cd1d3… (all of the seat's roots in one cut). By AI agents, Wed Nov 11 2026. No macro, syntax, notation, axiom, sorry.
-/
import Derived.Test.YbulkzzeChecked
import GoSem.Claim
import GoSem.ClaimJoined
import GoSem.ClaimMapViews
import Derived.JoinedTies
import Derived.KernelRfl
namespace Go.Proofs.Ybulkzze
/- THE CELL 'sum', in the pinned program and in every row, IS THE sha256 OF THE DUMP (.gsa) THAT YbulkzzeProg.lean LOADS. Nothing in Lean hashes anything: it is a label: what it is worth is what the hold of that sum in a sandbox is worth. -/
noncomputable def Yba.pinned : Pinned := { name := "ybulkzze", sum := "420ec983cf6cd1d32eab08be0f461a805197a5f600dd6c34b9ec09f96b2f5932", checked := Yba.checked }
namespace Rows
def none {H : Type} : Left H := { results := [], args := [] }

/-- 'client.LawS1304AKeeps': WHATEVER THE INPUT: true; the input reads as it did. -/
def lawS1304AKeepsSpec : ChangeSpec := { name := "lawS1304AKeeps", fn := fun _ => fun
  | [d] => { results := [.lit (.bool true)], args := [d] }
  | _ => none }
def lawS1304AKeepsRow : OpenClaim := { program := "ybulkzze", sum := "420ec983cf6cd1d32eab08be0f461a805197a5f600dd6c34b9ec09f96b2f5932", func := "example.com/fencepost/fencepost/client.LawS1304AKeeps", spec := "lawS1304AKeeps", apart := false }
def LawS1304AKeepsSaid : Prop := lawS1304AKeepsRow.holds Yba.pinned (OpenSpec.ofChange lawS1304AKeepsSpec)

/-- ITS FALSE NEIGHBOUR: 'it returns false'. Refute it at one input. -/
def lawS1304AKeepsWrong : ChangeSpec := { name := "lawS1304AKeeps", fn := fun _ => fun
  | [d] => { results := [.lit (.bool false)], args := [d] }
  | _ => none }
def LawS1304AKeepsWrongFalsely : Prop := lawS1304AKeepsRow.holds Yba.pinned (OpenSpec.ofChange lawS1304AKeepsWrong)

end Rows
end Go.Proofs.Ybulkzze
