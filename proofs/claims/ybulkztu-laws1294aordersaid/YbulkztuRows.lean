/-
  No cell of these rows narrows 'for every input' (looked for: loops, veiled, ifaces, maps, wideKeys, modest, calm, conditions, laid).
  DERIVED. THE GIVEN ROWS OF THIS SEAT. 2 by the template 'for every input the law returns true; each argument reads behind the call as it read before'; 0 by the template 'total and deterministic' (their statements: YbulkztuTotals.lean).
  GIVEN WITH THE SEED: the statements are not yours to turn. If you find one false, say at which input.
  Laid BY PROGRAM, IN A SANDBOX (cutbox-rows.mjs): the forced cells as the released guide's own fill.sh prints them over the translation 9a4c54bb497a528a… (all of the seat's roots in one cut). By AI agents, Wed Nov 11 2026. No macro, syntax, notation, axiom, sorry.
-/
import Derived.Test.YbulkztuChecked
import GoSem.Claim
import GoSem.ClaimJoined
import GoSem.ClaimMapViews
import Derived.JoinedTies
import Derived.KernelRfl
namespace Go.Proofs.Ybulkztu
/- THE CELL 'sum', in the pinned program and in every row, IS THE sha256 OF THE DUMP (.gsa) THAT YbulkztuProg.lean LOADS. Nothing in Lean hashes anything: it is a label: what it is worth is what the hold of that sum in a sandbox is worth. -/
noncomputable def Yba.pinned : Pinned := { name := "ybulkztu", sum := "9a4c54bb497a528a2fe162088776e4e3a3e24386fb70c4f0fc2ad00dfd3d6c3f", checked := Yba.checked }
namespace Rows
def none {H : Type} : Left H := { results := [], args := [] }

/-- 'model.LawS1294AOrder': WHATEVER THE INPUT: true; the input reads as it did. -/
def lawS1294AOrderSpec : ChangeSpec := { name := "lawS1294AOrder", fn := fun _ => fun
  | [d] => { results := [.lit (.bool true)], args := [d] }
  | _ => none }
def lawS1294AOrderRow : OpenClaim := { program := "ybulkztu", sum := "9a4c54bb497a528a2fe162088776e4e3a3e24386fb70c4f0fc2ad00dfd3d6c3f", func := "example.com/dslinger/dslinger/examples/model.LawS1294AOrder", spec := "lawS1294AOrder", unfollowed := true, recurses := true, apart := false }
def LawS1294AOrderSaid : Prop := lawS1294AOrderRow.holds Yba.pinned (OpenSpec.ofChange lawS1294AOrderSpec)

/-- ITS FALSE NEIGHBOUR: 'it returns false'. Refute it at one input. -/
def lawS1294AOrderWrong : ChangeSpec := { name := "lawS1294AOrder", fn := fun _ => fun
  | [d] => { results := [.lit (.bool false)], args := [d] }
  | _ => none }
def LawS1294AOrderWrongFalsely : Prop := lawS1294AOrderRow.holds Yba.pinned (OpenSpec.ofChange lawS1294AOrderWrong)

/-- 'model.LawS1294AKept': WHATEVER THE INPUT: true; the input reads as it did. -/
def lawS1294AKeptSpec : ChangeSpec := { name := "lawS1294AKept", fn := fun _ => fun
  | [d] => { results := [.lit (.bool true)], args := [d] }
  | _ => none }
def lawS1294AKeptRow : OpenClaim := { program := "ybulkztu", sum := "9a4c54bb497a528a2fe162088776e4e3a3e24386fb70c4f0fc2ad00dfd3d6c3f", func := "example.com/dslinger/dslinger/examples/model.LawS1294AKept", spec := "lawS1294AKept", unfollowed := true, recurses := true, apart := false }
def LawS1294AKeptSaid : Prop := lawS1294AKeptRow.holds Yba.pinned (OpenSpec.ofChange lawS1294AKeptSpec)

/-- ITS FALSE NEIGHBOUR: 'it returns false'. Refute it at one input. -/
def lawS1294AKeptWrong : ChangeSpec := { name := "lawS1294AKept", fn := fun _ => fun
  | [d] => { results := [.lit (.bool false)], args := [d] }
  | _ => none }
def LawS1294AKeptWrongFalsely : Prop := lawS1294AKeptRow.holds Yba.pinned (OpenSpec.ofChange lawS1294AKeptWrong)

end Rows
end Go.Proofs.Ybulkztu
