/-
  No cell of these rows narrows 'for every input' (looked for: loops, veiled, ifaces, maps, wideKeys, modest, calm, conditions, laid).
  DERIVED. THE GIVEN ROWS OF THIS SEAT. 2 by the template 'for every input the law returns true; each argument reads behind the call as it read before'; 0 by the template 'total and deterministic' (their statements: YbulkcacmTotals.lean).
  GIVEN WITH THE SEED: the statements are not yours to turn. If you find one false, say at which input.
  Laid BY PROGRAM, IN A SANDBOX (cutbox-rows.mjs): the forced cells as the released guide's own fill.sh prints them over the translation 195d1357f44bf4e8… (all of the seat's roots in one cut). By AI agents, Wed Nov 11 2026. No macro, syntax, notation, axiom, sorry.
-/
import Derived.Test.YbulkcacmChecked
import GoSem.Claim
import GoSem.ClaimJoined
import GoSem.ClaimMapViews
import Derived.JoinedTies
import Derived.KernelRfl
namespace Go.Proofs.Ybulkcacm
/- THE CELL 'sum', in the pinned program and in every row, IS THE sha256 OF THE DUMP (.gsa) THAT YbulkcacmProg.lean LOADS. Nothing in Lean hashes anything: it is a label: what it is worth is what the hold of that sum in a sandbox is worth. -/
noncomputable def Yba.pinned : Pinned := { name := "ybulkcacm", sum := "195d1357f44bf4e8b4535f31dc55b93a723813c4473928bba381094add01c0f4", checked := Yba.checked }
namespace Rows
def none {H : Type} : Left H := { results := [], args := [] }

/-- 'gnward.LawS3821AModel': WHATEVER THE INPUT: true; the input reads as it did. -/
def lawS3821AModelSpec : ChangeSpec := { name := "lawS3821AModel", fn := fun _ => fun
  | [d] => { results := [.lit (.bool true)], args := [d] }
  | _ => none }
def lawS3821AModelRow : OpenClaim := { program := "ybulkcacm", sum := "195d1357f44bf4e8b4535f31dc55b93a723813c4473928bba381094add01c0f4", func := "example.com/gnward/gnward.LawS3821AModel", spec := "lawS3821AModel", apart := false }
def LawS3821AModelSaid : Prop := lawS3821AModelRow.holds Yba.pinned (OpenSpec.ofChange lawS3821AModelSpec)

/-- ITS FALSE NEIGHBOUR: 'it returns false'. Refute it at one input. -/
def lawS3821AModelWrong : ChangeSpec := { name := "lawS3821AModel", fn := fun _ => fun
  | [d] => { results := [.lit (.bool false)], args := [d] }
  | _ => none }
def LawS3821AModelWrongFalsely : Prop := lawS3821AModelRow.holds Yba.pinned (OpenSpec.ofChange lawS3821AModelWrong)

/-- 'gnward.LawS3821ABuilt': WHATEVER THE INPUT: true; the input reads as it did. -/
def lawS3821ABuiltSpec : ChangeSpec := { name := "lawS3821ABuilt", fn := fun _ => fun
  | [d1, d2] => { results := [.lit (.bool true)], args := [d1, d2] }
  | _ => none }
def lawS3821ABuiltRow : OpenClaim := { program := "ybulkcacm", sum := "195d1357f44bf4e8b4535f31dc55b93a723813c4473928bba381094add01c0f4", func := "example.com/gnward/gnward.LawS3821ABuilt", spec := "lawS3821ABuilt", apart := false }
def LawS3821ABuiltSaid : Prop := lawS3821ABuiltRow.holds Yba.pinned (OpenSpec.ofChange lawS3821ABuiltSpec)

/-- ITS FALSE NEIGHBOUR: 'it returns false'. Refute it at one input. -/
def lawS3821ABuiltWrong : ChangeSpec := { name := "lawS3821ABuilt", fn := fun _ => fun
  | [d1, d2] => { results := [.lit (.bool false)], args := [d1, d2] }
  | _ => none }
def LawS3821ABuiltWrongFalsely : Prop := lawS3821ABuiltRow.holds Yba.pinned (OpenSpec.ofChange lawS3821ABuiltWrong)

end Rows
end Go.Proofs.Ybulkcacm
