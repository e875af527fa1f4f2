/-
  No cell of these rows narrows 'for every input' (looked for: loops, veiled, ifaces, maps, wideKeys, modest, calm, conditions, laid).
  DERIVED. THE GIVEN ROWS OF THIS SEAT. 2 by the template 'for every input the law returns true; each argument reads behind the call as it read before'; 0 by the template 'total and deterministic' (their statements: YbulkcaaiTotals.lean).
  GIVEN WITH THE SEED: the statements are not yours to turn. If you find one false, say at which input.
  Laid BY PROGRAM, IN A SANDBOX (cutbox-rows.mjs): the forced cells as the released guide's own fill.sh prints them over the translation e2daa2e1dfb99513… (all of the seat's roots in one cut). By AI agents, Wed Nov 11 2026. No macro, syntax, notation, axiom, sorry.
-/
import Derived.Test.YbulkcaaiChecked
import GoSem.Claim
import GoSem.ClaimJoined
import GoSem.ClaimMapViews
import Derived.JoinedTies
import Derived.KernelRfl
namespace Go.Proofs.Ybulkcaai
/- THE CELL 'sum', in the pinned program and in every row, IS THE sha256 OF THE DUMP (.gsa) THAT YbulkcaaiProg.lean LOADS. Nothing in Lean hashes anything: it is a label: what it is worth is what the hold of that sum in a sandbox is worth. -/
noncomputable def Yba.pinned : Pinned := { name := "ybulkcaai", sum := "e2daa2e1dfb99513ceb6918396efef4f88a391e4d07d40fb24c57d8ec1f13d81", checked := Yba.checked }
namespace Rows
def none {H : Type} : Left H := { results := [], args := [] }

/-- 'pipeline.LawS3817AApply': WHATEVER THE INPUT: true; the input reads as it did. -/
def lawS3817AApplySpec : ChangeSpec := { name := "lawS3817AApply", fn := fun _ => fun
  | [d1, d2, d3, d4, d5, d6] => { results := [.lit (.bool true)], args := [d1, d2, d3, d4, d5, d6] }
  | _ => none }
def lawS3817AApplyRow : OpenClaim := { program := "ybulkcaai", sum := "e2daa2e1dfb99513ceb6918396efef4f88a391e4d07d40fb24c57d8ec1f13d81", func := "example.com/spanwright/spanwright/pipeline.LawS3817AApply", spec := "lawS3817AApply", unfollowed := true, recurses := true, apart := false }
def LawS3817AApplySaid : Prop := lawS3817AApplyRow.holds Yba.pinned (OpenSpec.ofChange lawS3817AApplySpec)

/-- ITS FALSE NEIGHBOUR: 'it returns false'. Refute it at one input. -/
def lawS3817AApplyWrong : ChangeSpec := { name := "lawS3817AApply", fn := fun _ => fun
  | [d1, d2, d3, d4, d5, d6] => { results := [.lit (.bool false)], args := [d1, d2, d3, d4, d5, d6] }
  | _ => none }
def LawS3817AApplyWrongFalsely : Prop := lawS3817AApplyRow.holds Yba.pinned (OpenSpec.ofChange lawS3817AApplyWrong)

/-- 'pipeline.LawS3817ATwice': WHATEVER THE INPUT: true; the input reads as it did. -/
def lawS3817ATwiceSpec : ChangeSpec := { name := "lawS3817ATwice", fn := fun _ => fun
  | [d1, d2, d3, d4] => { results := [.lit (.bool true)], args := [d1, d2, d3, d4] }
  | _ => none }
def lawS3817ATwiceRow : OpenClaim := { program := "ybulkcaai", sum := "e2daa2e1dfb99513ceb6918396efef4f88a391e4d07d40fb24c57d8ec1f13d81", func := "example.com/spanwright/spanwright/pipeline.LawS3817ATwice", spec := "lawS3817ATwice", unfollowed := true, recurses := true, apart := false }
def LawS3817ATwiceSaid : Prop := lawS3817ATwiceRow.holds Yba.pinned (OpenSpec.ofChange lawS3817ATwiceSpec)

/-- ITS FALSE NEIGHBOUR: 'it returns false'. Refute it at one input. -/
def lawS3817ATwiceWrong : ChangeSpec := { name := "lawS3817ATwice", fn := fun _ => fun
  | [d1, d2, d3, d4] => { results := [.lit (.bool false)], args := [d1, d2, d3, d4] }
  | _ => none }
def LawS3817ATwiceWrongFalsely : Prop := lawS3817ATwiceRow.holds Yba.pinned (OpenSpec.ofChange lawS3817ATwiceWrong)

end Rows
end Go.Proofs.Ybulkcaai
