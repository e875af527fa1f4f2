/-
  No cell of these rows narrows 'for every input' (looked for: loops, veiled, ifaces, maps, wideKeys, modest, calm, conditions, laid).
  DERIVED. THE GIVEN ROWS OF THIS SEAT. 4 by the template 'for every input the law returns true; each argument reads behind the call as it read before'; 0 by the template 'total and deterministic' (their statements: YbulkcabyTotals.lean).
  GIVEN WITH THE SEED: the statements are not yours to turn. If you find one false, say at which input.
  Laid BY PROGRAM, IN A SANDBOX (cutbox-rows.mjs): the forced cells as the released guide's own fill.sh prints them over the translation f4a985fd3a4eaff8… (all of the seat's roots in one cut). By AI agents, Wed Nov 11 2026. No macro, syntax, notation, axiom, sorry.
-/
import Derived.Test.YbulkcabyChecked
import GoSem.Claim
import GoSem.ClaimJoined
import GoSem.ClaimMapViews
import Derived.JoinedTies
import Derived.KernelRfl
namespace Go.Proofs.Ybulkcaby
/- THE CELL 'sum', in the pinned program and in every row, IS THE sha256 OF THE DUMP (.gsa) THAT YbulkcabyProg.lean LOADS. Nothing in Lean hashes anything: it is a label: what it is worth is what the hold of that sum in a sandbox is worth. -/
noncomputable def Yba.pinned : Pinned := { name := "ybulkcaby", sum := "f4a985fd3a4eaff851d29e07183393f6acc12b2e9d40ae9d39f85d0e5c7de5b9", checked := Yba.checked }
namespace Rows
def none {H : Type} : Left H := { results := [], args := [] }

/-- 'server.LawS3820BShape': WHATEVER THE INPUT: true; the input reads as it did. -/
def lawS3820BShapeSpec : ChangeSpec := { name := "lawS3820BShape", fn := fun _ => fun
  | [] => { results := [.lit (.bool true)], args := [] }
  | _ => none }
def lawS3820BShapeRow : OpenClaim := { program := "ybulkcaby", sum := "f4a985fd3a4eaff851d29e07183393f6acc12b2e9d40ae9d39f85d0e5c7de5b9", func := "example.com/cordon/cordon/pkg/server.LawS3820BShape", spec := "lawS3820BShape", apart := false }
def LawS3820BShapeSaid : Prop := lawS3820BShapeRow.holds Yba.pinned (OpenSpec.ofChange lawS3820BShapeSpec)

/-- ITS FALSE NEIGHBOUR: 'it returns false'. Refute it at one input. -/
def lawS3820BShapeWrong : ChangeSpec := { name := "lawS3820BShape", fn := fun _ => fun
  | [] => { results := [.lit (.bool false)], args := [] }
  | _ => none }
def LawS3820BShapeWrongFalsely : Prop := lawS3820BShapeRow.holds Yba.pinned (OpenSpec.ofChange lawS3820BShapeWrong)

/-- 'server.LawS3820BFresh': WHATEVER THE INPUT: true; the input reads as it did. -/
def lawS3820BFreshSpec : ChangeSpec := { name := "lawS3820BFresh", fn := fun _ => fun
  | [d1, d2, d3] => { results := [.lit (.bool true)], args := [d1, d2, d3] }
  | _ => none }
def lawS3820BFreshRow : OpenClaim := { program := "ybulkcaby", sum := "f4a985fd3a4eaff851d29e07183393f6acc12b2e9d40ae9d39f85d0e5c7de5b9", func := "example.com/cordon/cordon/pkg/server.LawS3820BFresh", spec := "lawS3820BFresh", apart := false }
def LawS3820BFreshSaid : Prop := lawS3820BFreshRow.holds Yba.pinned (OpenSpec.ofChange lawS3820BFreshSpec)

/-- ITS FALSE NEIGHBOUR: 'it returns false'. Refute it at one input. -/
def lawS3820BFreshWrong : ChangeSpec := { name := "lawS3820BFresh", fn := fun _ => fun
  | [d1, d2, d3] => { results := [.lit (.bool false)], args := [d1, d2, d3] }
  | _ => none }
def LawS3820BFreshWrongFalsely : Prop := lawS3820BFreshRow.holds Yba.pinned (OpenSpec.ofChange lawS3820BFreshWrong)

/-- 'server.LawS3820CRemoveOne': WHATEVER THE INPUT: true; the input reads as it did. -/
def lawS3820CRemoveOneSpec : ChangeSpec := { name := "lawS3820CRemoveOne", fn := fun _ => fun
  | [d1, d2, d3, d4] => { results := [.lit (.bool true)], args := [d1, d2, d3, d4] }
  | _ => none }
def lawS3820CRemoveOneRow : OpenClaim := { program := "ybulkcaby", sum := "f4a985fd3a4eaff851d29e07183393f6acc12b2e9d40ae9d39f85d0e5c7de5b9", func := "example.com/cordon/cordon/pkg/server.LawS3820CRemoveOne", spec := "lawS3820CRemoveOne", apart := false }
def LawS3820CRemoveOneSaid : Prop := lawS3820CRemoveOneRow.holds Yba.pinned (OpenSpec.ofChange lawS3820CRemoveOneSpec)

/-- ITS FALSE NEIGHBOUR: 'it returns false'. Refute it at one input. -/
def lawS3820CRemoveOneWrong : ChangeSpec := { name := "lawS3820CRemoveOne", fn := fun _ => fun
  | [d1, d2, d3, d4] => { results := [.lit (.bool false)], args := [d1, d2, d3, d4] }
  | _ => none }
def LawS3820CRemoveOneWrongFalsely : Prop := lawS3820CRemoveOneRow.holds Yba.pinned (OpenSpec.ofChange lawS3820CRemoveOneWrong)

/-- 'server.LawS3820CRemoveAll': WHATEVER THE INPUT: true; the input reads as it did. -/
def lawS3820CRemoveAllSpec : ChangeSpec := { name := "lawS3820CRemoveAll", fn := fun _ => fun
  | [d1, d2, d3] => { results := [.lit (.bool true)], args := [d1, d2, d3] }
  | _ => none }
def lawS3820CRemoveAllRow : OpenClaim := { program := "ybulkcaby", sum := "f4a985fd3a4eaff851d29e07183393f6acc12b2e9d40ae9d39f85d0e5c7de5b9", func := "example.com/cordon/cordon/pkg/server.LawS3820CRemoveAll", spec := "lawS3820CRemoveAll", apart := false }
def LawS3820CRemoveAllSaid : Prop := lawS3820CRemoveAllRow.holds Yba.pinned (OpenSpec.ofChange lawS3820CRemoveAllSpec)

/-- ITS FALSE NEIGHBOUR: 'it returns false'. Refute it at one input. -/
def lawS3820CRemoveAllWrong : ChangeSpec := { name := "lawS3820CRemoveAll", fn := fun _ => fun
  | [d1, d2, d3] => { results := [.lit (.bool false)], args := [d1, d2, d3] }
  | _ => none }
def LawS3820CRemoveAllWrongFalsely : Prop := lawS3820CRemoveAllRow.holds Yba.pinned (OpenSpec.ofChange lawS3820CRemoveAllWrong)

end Rows
end Go.Proofs.Ybulkcaby
