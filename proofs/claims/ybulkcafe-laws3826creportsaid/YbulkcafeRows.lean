/-
  No cell of these rows narrows 'for every input' (looked for: loops, veiled, ifaces, maps, wideKeys, modest, calm, conditions, laid).
  DERIVED. THE GIVEN ROWS OF THIS SEAT. 1 by the template 'for every input the law returns true; each argument reads behind the call as it read before'; 0 by the template 'total and deterministic' (their statements: YbulkcafeTotals.lean).
  GIVEN WITH THE SEED: the statements are not yours to turn. If you find one false, say at which input.
  Laid BY PROGRAM, IN A SANDBOX (cutbox-rows.mjs): the forced cells as the released guide's own fill.sh prints them over the translation 93ffd71e8ad06592… (all of the seat's roots in one cut). By AI agents, Wed Nov 11 2026. No macro, syntax, notation, axiom, sorry.
-/
import Derived.Test.YbulkcafeChecked
import GoSem.Claim
import GoSem.ClaimJoined
import GoSem.ClaimMapViews
import Derived.JoinedTies
import Derived.KernelRfl
namespace Go.Proofs.Ybulkcafe
/- THE CELL 'sum', in the pinned program and in every row, IS THE sha256 OF THE DUMP (.gsa) THAT YbulkcafeProg.lean LOADS. Nothing in Lean hashes anything: it is a label: what it is worth is what the hold of that sum in a sandbox is worth. -/
noncomputable def Yba.pinned : Pinned := { name := "ybulkcafe", sum := "93ffd71e8ad06592338262720b587009d9c8b2e3e212af73ba22177ab3d1f966", checked := Yba.checked }
namespace Rows
def none {H : Type} : Left H := { results := [], args := [] }

/-- 'sandglassjob.LawS3826CReport': WHATEVER THE INPUT: true; the input reads as it did. -/
def lawS3826CReportSpec : ChangeSpec := { name := "lawS3826CReport", fn := fun _ => fun
  | [d1, d2, d3, d4, d5, d6] => { results := [.lit (.bool true)], args := [d1, d2, d3, d4, d5, d6] }
  | _ => none }
def lawS3826CReportRow : OpenClaim := { program := "ybulkcafe", sum := "93ffd71e8ad06592338262720b587009d9c8b2e3e212af73ba22177ab3d1f966", func := "example.com/sandglass/sandglass/sandglassjob.LawS3826CReport", spec := "lawS3826CReport", unfollowed := true, recurses := true, apart := false }
def LawS3826CReportSaid : Prop := lawS3826CReportRow.holds Yba.pinned (OpenSpec.ofChange lawS3826CReportSpec)

/-- ITS FALSE NEIGHBOUR: 'it returns false'. Refute it at one input. -/
def lawS3826CReportWrong : ChangeSpec := { name := "lawS3826CReport", fn := fun _ => fun
  | [d1, d2, d3, d4, d5, d6] => { results := [.lit (.bool false)], args := [d1, d2, d3, d4, d5, d6] }
  | _ => none }
def LawS3826CReportWrongFalsely : Prop := lawS3826CReportRow.holds Yba.pinned (OpenSpec.ofChange lawS3826CReportWrong)

end Rows
end Go.Proofs.Ybulkcafe
