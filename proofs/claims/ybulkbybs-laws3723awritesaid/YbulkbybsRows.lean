/-
  No cell of these rows narrows 'for every input' (looked for: loops, veiled, ifaces, maps, wideKeys, modest, calm, conditions, laid).
  DERIVED. THE GIVEN ROWS OF THIS SEAT. 2 by the template 'for every input the law returns true; each argument reads behind the call as it read before'; 0 by the template 'total and deterministic' (their statements: YbulkbybsTotals.lean).
  GIVEN WITH THE SEED: the statements are not yours to turn. If you find one false, say at which input.
  Laid BY PROGRAM, IN A SANDBOX (cutbox-rows.mjs): the forced cells as the released guide's own fill.sh prints them over the translation 6ec59a825b3ad447… (all of the seat's roots in one cut). By AI agents, Wed Nov 11 2026. No macro, syntax, notation, axiom, sorry.
-/
import Derived.Test.YbulkbybsChecked
import GoSem.Claim
import GoSem.ClaimJoined
import GoSem.ClaimMapViews
import Derived.JoinedTies
import Derived.KernelRfl
namespace Go.Proofs.Ybulkbybs
/- THE CELL 'sum', in the pinned program and in every row, IS THE sha256 OF THE DUMP (.gsa) THAT YbulkbybsProg.lean LOADS. Nothing in Lean hashes anything: it is a label: what it is worth is what the hold of that sum in a sandbox is worth. -/
noncomputable def Yba.pinned : Pinned := { name := "ybulkbybs", sum := "6ec59a825b3ad447f0d12429e650d01117fa5a434c5cafe33c4c68adfafe638d", checked := Yba.checked }
namespace Rows
def none {H : Type} : Left H := { results := [], args := [] }

/-- 'plugin.LawS3723AWrite': WHATEVER THE INPUT: true; the input reads as it did. -/
def lawS3723AWriteSpec : ChangeSpec := { name := "lawS3723AWrite", fn := fun _ => fun
  | [d1, d2, d3, d4] => { results := [.lit (.bool true)], args := [d1, d2, d3, d4] }
  | _ => none }
def lawS3723AWriteRow : OpenClaim := { program := "ybulkbybs", sum := "6ec59a825b3ad447f0d12429e650d01117fa5a434c5cafe33c4c68adfafe638d", func := "example.com/lookout/lookout/plugin.LawS3723AWrite", spec := "lawS3723AWrite", apart := false }
def LawS3723AWriteSaid : Prop := lawS3723AWriteRow.holds Yba.pinned (OpenSpec.ofChange lawS3723AWriteSpec)

/-- ITS FALSE NEIGHBOUR: 'it returns false'. Refute it at one input. -/
def lawS3723AWriteWrong : ChangeSpec := { name := "lawS3723AWrite", fn := fun _ => fun
  | [d1, d2, d3, d4] => { results := [.lit (.bool false)], args := [d1, d2, d3, d4] }
  | _ => none }
def LawS3723AWriteWrongFalsely : Prop := lawS3723AWriteRow.holds Yba.pinned (OpenSpec.ofChange lawS3723AWriteWrong)

/-- 'retention.LawS3723BVerdict': WHATEVER THE INPUT: true; the input reads as it did. -/
def lawS3723BVerdictSpec : ChangeSpec := { name := "lawS3723BVerdict", fn := fun _ => fun
  | [d1, d2, d3, d4, d5, d6, d7, d8, d9, d10, d11, d12] => { results := [.lit (.bool true)], args := [d1, d2, d3, d4, d5, d6, d7, d8, d9, d10, d11, d12] }
  | _ => none }
def lawS3723BVerdictRow : OpenClaim := { program := "ybulkbybs", sum := "6ec59a825b3ad447f0d12429e650d01117fa5a434c5cafe33c4c68adfafe638d", func := "example.com/lookout/lookout/retention.LawS3723BVerdict", spec := "lawS3723BVerdict", unfollowed := true, recurses := true, apart := false }
def LawS3723BVerdictSaid : Prop := lawS3723BVerdictRow.holds Yba.pinned (OpenSpec.ofChange lawS3723BVerdictSpec)

/-- ITS FALSE NEIGHBOUR: 'it returns false'. Refute it at one input. -/
def lawS3723BVerdictWrong : ChangeSpec := { name := "lawS3723BVerdict", fn := fun _ => fun
  | [d1, d2, d3, d4, d5, d6, d7, d8, d9, d10, d11, d12] => { results := [.lit (.bool false)], args := [d1, d2, d3, d4, d5, d6, d7, d8, d9, d10, d11, d12] }
  | _ => none }
def LawS3723BVerdictWrongFalsely : Prop := lawS3723BVerdictRow.holds Yba.pinned (OpenSpec.ofChange lawS3723BVerdictWrong)

end Rows
end Go.Proofs.Ybulkbybs
