/-
  No cell of these rows narrows 'for every input' (looked for: loops, veiled, ifaces, maps, wideKeys, modest, calm, conditions, laid).
  DERIVED. THE GIVEN ROWS OF THIS SEAT. 5 by the template 'for every input the law returns true; each argument reads behind the call as it read before'; 0 by the template 'total and deterministic' (their statements: YbulkzuiTotals.lean).
  GIVEN WITH THE SEED: the statements are not yours to turn. If you find one false, say at which input.
  Laid BY PROGRAM, IN A SANDBOX (cutbox-rows.mjs): the forced cells as the released guide's own fill.sh prints them over the translation f75b8112fb97f2a2… (all of the seat's roots in one cut). By AI agents, Wed Nov 11 2026. No macro, syntax, notation, axiom, sorry.
-/
import Derived.Test.YbulkzuiChecked
import GoSem.Claim
import GoSem.ClaimJoined
import GoSem.ClaimMapViews
import Derived.JoinedTies
import Derived.KernelRfl
namespace Go.Proofs.Ybulkzui
/- THE CELL 'sum', in the pinned program and in every row, IS THE sha256 OF THE DUMP (.gsa) THAT YbulkzuiProg.lean LOADS. Nothing in Lean hashes anything: it is a label: what it is worth is what the hold of that sum in a sandbox is worth. -/
noncomputable def Yba.pinned : Pinned := { name := "ybulkzui", sum := "f75b8112fb97f2a24dbf05574f5d3feac17f3c2a284cc76fef7dc8c7aee977c1", checked := Yba.checked }
namespace Rows
def none {H : Type} : Left H := { results := [], args := [] }

/-- 'mp4.LawS1295BFrames': WHATEVER THE INPUT: true; the input reads as it did. -/
def lawS1295BFramesSpec : ChangeSpec := { name := "lawS1295BFrames", fn := fun _ => fun
  | [d1, d2, d3, d4, d5] => { results := [.lit (.bool true)], args := [d1, d2, d3, d4, d5] }
  | _ => none }
def lawS1295BFramesRow : OpenClaim := { program := "ybulkzui", sum := "f75b8112fb97f2a24dbf05574f5d3feac17f3c2a284cc76fef7dc8c7aee977c1", func := "example.com/caplift/caplift/mp4.LawS1295BFrames", spec := "lawS1295BFrames", inPlace := ["math/bits.Add64"], named := ["math/bits.divideError", "math/bits.overflowError"], apart := false }
def LawS1295BFramesSaid : Prop := lawS1295BFramesRow.holds Yba.pinned (OpenSpec.ofChange lawS1295BFramesSpec)

/-- ITS FALSE NEIGHBOUR: 'it returns false'. Refute it at one input. -/
def lawS1295BFramesWrong : ChangeSpec := { name := "lawS1295BFrames", fn := fun _ => fun
  | [d1, d2, d3, d4, d5] => { results := [.lit (.bool false)], args := [d1, d2, d3, d4, d5] }
  | _ => none }
def LawS1295BFramesWrongFalsely : Prop := lawS1295BFramesRow.holds Yba.pinned (OpenSpec.ofChange lawS1295BFramesWrong)

/-- 'mp4.LawS1295BOnce': WHATEVER THE INPUT: true; the input reads as it did. -/
def lawS1295BOnceSpec : ChangeSpec := { name := "lawS1295BOnce", fn := fun _ => fun
  | [d1, d2, d3, d4, d5, d6, d7] => { results := [.lit (.bool true)], args := [d1, d2, d3, d4, d5, d6, d7] }
  | _ => none }
def lawS1295BOnceRow : OpenClaim := { program := "ybulkzui", sum := "f75b8112fb97f2a24dbf05574f5d3feac17f3c2a284cc76fef7dc8c7aee977c1", func := "example.com/caplift/caplift/mp4.LawS1295BOnce", spec := "lawS1295BOnce", inPlace := ["math/bits.Add64"], named := ["math/bits.divideError", "math/bits.overflowError"], apart := false }
def LawS1295BOnceSaid : Prop := lawS1295BOnceRow.holds Yba.pinned (OpenSpec.ofChange lawS1295BOnceSpec)

/-- ITS FALSE NEIGHBOUR: 'it returns false'. Refute it at one input. -/
def lawS1295BOnceWrong : ChangeSpec := { name := "lawS1295BOnce", fn := fun _ => fun
  | [d1, d2, d3, d4, d5, d6, d7] => { results := [.lit (.bool false)], args := [d1, d2, d3, d4, d5, d6, d7] }
  | _ => none }
def LawS1295BOnceWrongFalsely : Prop := lawS1295BOnceRow.holds Yba.pinned (OpenSpec.ofChange lawS1295BOnceWrong)

/-- 'mp4.LawS1295BOrigin': WHATEVER THE INPUT: true; the input reads as it did. -/
def lawS1295BOriginSpec : ChangeSpec := { name := "lawS1295BOrigin", fn := fun _ => fun
  | [d1, d2, d3] => { results := [.lit (.bool true)], args := [d1, d2, d3] }
  | _ => none }
def lawS1295BOriginRow : OpenClaim := { program := "ybulkzui", sum := "f75b8112fb97f2a24dbf05574f5d3feac17f3c2a284cc76fef7dc8c7aee977c1", func := "example.com/caplift/caplift/mp4.LawS1295BOrigin", spec := "lawS1295BOrigin", inPlace := ["math/bits.Add64"], named := ["math/bits.divideError", "math/bits.overflowError"], apart := false }
def LawS1295BOriginSaid : Prop := lawS1295BOriginRow.holds Yba.pinned (OpenSpec.ofChange lawS1295BOriginSpec)

/-- ITS FALSE NEIGHBOUR: 'it returns false'. Refute it at one input. -/
def lawS1295BOriginWrong : ChangeSpec := { name := "lawS1295BOrigin", fn := fun _ => fun
  | [d1, d2, d3] => { results := [.lit (.bool false)], args := [d1, d2, d3] }
  | _ => none }
def LawS1295BOriginWrongFalsely : Prop := lawS1295BOriginRow.holds Yba.pinned (OpenSpec.ofChange lawS1295BOriginWrong)

/-- 'ptstime.LawS1295CFresh': WHATEVER THE INPUT: true; the input reads as it did. -/
def lawS1295CFreshSpec : ChangeSpec := { name := "lawS1295CFresh", fn := fun _ => fun
  | [d1, d2, d3, d4, d5, d6, d7] => { results := [.lit (.bool true)], args := [d1, d2, d3, d4, d5, d6, d7] }
  | _ => none }
def lawS1295CFreshRow : OpenClaim := { program := "ybulkzui", sum := "f75b8112fb97f2a24dbf05574f5d3feac17f3c2a284cc76fef7dc8c7aee977c1", func := "example.com/caplift/caplift/internal/ptstime.LawS1295CFresh", spec := "lawS1295CFresh", inPlace := ["math/bits.Add64"], unfollowed := true, recurses := true, named := ["math/bits.divideError", "math/bits.overflowError"], apart := false }
def LawS1295CFreshSaid : Prop := lawS1295CFreshRow.holds Yba.pinned (OpenSpec.ofChange lawS1295CFreshSpec)

/-- ITS FALSE NEIGHBOUR: 'it returns false'. Refute it at one input. -/
def lawS1295CFreshWrong : ChangeSpec := { name := "lawS1295CFresh", fn := fun _ => fun
  | [d1, d2, d3, d4, d5, d6, d7] => { results := [.lit (.bool false)], args := [d1, d2, d3, d4, d5, d6, d7] }
  | _ => none }
def LawS1295CFreshWrongFalsely : Prop := lawS1295CFreshRow.holds Yba.pinned (OpenSpec.ofChange lawS1295CFreshWrong)

/-- 'ptstime.LawS1295CCached': WHATEVER THE INPUT: true; the input reads as it did. -/
def lawS1295CCachedSpec : ChangeSpec := { name := "lawS1295CCached", fn := fun _ => fun
  | [d1, d2, d3, d4, d5, d6, d7] => { results := [.lit (.bool true)], args := [d1, d2, d3, d4, d5, d6, d7] }
  | _ => none }
def lawS1295CCachedRow : OpenClaim := { program := "ybulkzui", sum := "f75b8112fb97f2a24dbf05574f5d3feac17f3c2a284cc76fef7dc8c7aee977c1", func := "example.com/caplift/caplift/internal/ptstime.LawS1295CCached", spec := "lawS1295CCached", inPlace := ["math/bits.Add64"], unfollowed := true, recurses := true, named := ["math/bits.divideError", "math/bits.overflowError"], apart := false }
def LawS1295CCachedSaid : Prop := lawS1295CCachedRow.holds Yba.pinned (OpenSpec.ofChange lawS1295CCachedSpec)

/-- ITS FALSE NEIGHBOUR: 'it returns false'. Refute it at one input. -/
def lawS1295CCachedWrong : ChangeSpec := { name := "lawS1295CCached", fn := fun _ => fun
  | [d1, d2, d3, d4, d5, d6, d7] => { results := [.lit (.bool false)], args := [d1, d2, d3, d4, d5, d6, d7] }
  | _ => none }
def LawS1295CCachedWrongFalsely : Prop := lawS1295CCachedRow.holds Yba.pinned (OpenSpec.ofChange lawS1295CCachedWrong)

end Rows
end Go.Proofs.Ybulkzui
