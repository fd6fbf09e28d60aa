/-
  No cell of these rows narrows 'for every input' (looked for: loops, veiled, ifaces, maps, wideKeys, modest, calm, conditions, laid).
  DERIVED. THE GIVEN ROWS OF THIS SEAT. 4 by the template 'for every input the law returns true; each argument reads behind the call as it read before'; 0 by the template 'total and deterministic' (their statements: YbulkbxogTotals.lean).
  GIVEN WITH THE SEED: the statements are not yours to turn. If you find one false, say at which input.
  Laid BY PROGRAM, IN A SANDBOX (cutbox-rows.mjs): the forced cells as the released guide's own fill.sh prints them over the translation c637a2bcff75d5e6… (all of the seat's roots in one cut). By AI agents, Wed Nov 11 2026. No macro, syntax, notation, axiom, sorry.
-/
import Derived.Test.YbulkbxogChecked
import GoSem.Claim
import GoSem.ClaimJoined
import GoSem.ClaimMapViews
import Derived.JoinedTies
import Derived.KernelRfl
namespace Go.Proofs.Ybulkbxog
/- THE CELL 'sum', in the pinned program and in every row, IS THE sha256 OF THE DUMP (.gsa) THAT YbulkbxogProg.lean LOADS. Nothing in Lean hashes anything: it is a label: what it is worth is what the hold of that sum in a sandbox is worth. -/
noncomputable def Yba.pinned : Pinned := { name := "ybulkbxog", sum := "c637a2bcff75d5e649edce0b283014c7afab83aa025ecbcec71e8fe137cac7de", checked := Yba.checked }
namespace Rows
def none {H : Type} : Left H := { results := [], args := [] }

/-- 'interleave.LawS3698BYields': WHATEVER THE INPUT: true; the input reads as it did. -/
def lawS3698BYieldsSpec : ChangeSpec := { name := "lawS3698BYields", fn := fun _ => fun
  | [d1, d2, d3, d4] => { results := [.lit (.bool true)], args := [d1, d2, d3, d4] }
  | _ => none }
def lawS3698BYieldsRow : OpenClaim := { program := "ybulkbxog", sum := "c637a2bcff75d5e649edce0b283014c7afab83aa025ecbcec71e8fe137cac7de", func := "example.com/interleave/interleave.LawS3698BYields", spec := "lawS3698BYields", unfollowed := true, recurses := true, plainKeys := false, apart := false }
def LawS3698BYieldsSaid : Prop := lawS3698BYieldsRow.holds Yba.pinned (OpenSpec.ofChange lawS3698BYieldsSpec)

/-- ITS FALSE NEIGHBOUR: 'it returns false'. Refute it at one input. -/
def lawS3698BYieldsWrong : ChangeSpec := { name := "lawS3698BYields", fn := fun _ => fun
  | [d1, d2, d3, d4] => { results := [.lit (.bool false)], args := [d1, d2, d3, d4] }
  | _ => none }
def LawS3698BYieldsWrongFalsely : Prop := lawS3698BYieldsRow.holds Yba.pinned (OpenSpec.ofChange lawS3698BYieldsWrong)

/-- 'interleave.LawS3698BWork': WHATEVER THE INPUT: true; the input reads as it did. -/
def lawS3698BWorkSpec : ChangeSpec := { name := "lawS3698BWork", fn := fun _ => fun
  | [d1, d2, d3] => { results := [.lit (.bool true)], args := [d1, d2, d3] }
  | _ => none }
def lawS3698BWorkRow : OpenClaim := { program := "ybulkbxog", sum := "c637a2bcff75d5e649edce0b283014c7afab83aa025ecbcec71e8fe137cac7de", func := "example.com/interleave/interleave.LawS3698BWork", spec := "lawS3698BWork", unfollowed := true, recurses := true, plainKeys := false, apart := false }
def LawS3698BWorkSaid : Prop := lawS3698BWorkRow.holds Yba.pinned (OpenSpec.ofChange lawS3698BWorkSpec)

/-- ITS FALSE NEIGHBOUR: 'it returns false'. Refute it at one input. -/
def lawS3698BWorkWrong : ChangeSpec := { name := "lawS3698BWork", fn := fun _ => fun
  | [d1, d2, d3] => { results := [.lit (.bool false)], args := [d1, d2, d3] }
  | _ => none }
def LawS3698BWorkWrongFalsely : Prop := lawS3698BWorkRow.holds Yba.pinned (OpenSpec.ofChange lawS3698BWorkWrong)

/-- 'interleave.LawS3698CYields': WHATEVER THE INPUT: true; the input reads as it did. -/
def lawS3698CYieldsSpec : ChangeSpec := { name := "lawS3698CYields", fn := fun _ => fun
  | [d] => { results := [.lit (.bool true)], args := [d] }
  | _ => none }
def lawS3698CYieldsRow : OpenClaim := { program := "ybulkbxog", sum := "c637a2bcff75d5e649edce0b283014c7afab83aa025ecbcec71e8fe137cac7de", func := "example.com/interleave/interleave.LawS3698CYields", spec := "lawS3698CYields", unfollowed := true, recurses := true, plainKeys := false, apart := false }
def LawS3698CYieldsSaid : Prop := lawS3698CYieldsRow.holds Yba.pinned (OpenSpec.ofChange lawS3698CYieldsSpec)

/-- ITS FALSE NEIGHBOUR: 'it returns false'. Refute it at one input. -/
def lawS3698CYieldsWrong : ChangeSpec := { name := "lawS3698CYields", fn := fun _ => fun
  | [d] => { results := [.lit (.bool false)], args := [d] }
  | _ => none }
def LawS3698CYieldsWrongFalsely : Prop := lawS3698CYieldsRow.holds Yba.pinned (OpenSpec.ofChange lawS3698CYieldsWrong)

/-- 'interleave.LawS3698CStops': WHATEVER THE INPUT: true; the input reads as it did. -/
def lawS3698CStopsSpec : ChangeSpec := { name := "lawS3698CStops", fn := fun _ => fun
  | [d1, d2] => { results := [.lit (.bool true)], args := [d1, d2] }
  | _ => none }
def lawS3698CStopsRow : OpenClaim := { program := "ybulkbxog", sum := "c637a2bcff75d5e649edce0b283014c7afab83aa025ecbcec71e8fe137cac7de", func := "example.com/interleave/interleave.LawS3698CStops", spec := "lawS3698CStops", unfollowed := true, recurses := true, plainKeys := false, apart := false }
def LawS3698CStopsSaid : Prop := lawS3698CStopsRow.holds Yba.pinned (OpenSpec.ofChange lawS3698CStopsSpec)

/-- ITS FALSE NEIGHBOUR: 'it returns false'. Refute it at one input. -/
def lawS3698CStopsWrong : ChangeSpec := { name := "lawS3698CStops", fn := fun _ => fun
  | [d1, d2] => { results := [.lit (.bool false)], args := [d1, d2] }
  | _ => none }
def LawS3698CStopsWrongFalsely : Prop := lawS3698CStopsRow.holds Yba.pinned (OpenSpec.ofChange lawS3698CStopsWrong)

end Rows
end Go.Proofs.Ybulkbxog
