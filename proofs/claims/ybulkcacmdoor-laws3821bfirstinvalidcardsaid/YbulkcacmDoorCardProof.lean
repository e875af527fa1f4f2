/-
  THE TIED CARD of gnward.LawS3821BFirstInvalid: the row's statement (YbulkcacmDoorProof), the given tie (YbulkcacmDoorTie), the builder's one call.
-/
import Derived.Test.YbulkcacmDoorProof
import Derived.Test.YbulkcacmDoorTie
import Derived.Test.YbulkcacmDoorCards
import Derived.SevenTiedAt
namespace Go.Proofs.YbulkcacmDoor
open Go

theorem proved : Rows.LawS3821BFirstInvalidCardSaid :=
  Claim7.holds_tied_plain_at .later [] [.data, .data, .data, .sentinel, .sentinel] true Rows.lawS3821BFirstInvalidCard.stood.harness true
    row_holds (fun _ h => by cases h) (by kernel_rfl) (fun _ h => by cases h) lawS3821BFirstInvalid_row_tie rfl ⟨rfl, rfl⟩ (by kernel_rfl) rfl
    (fun f fn hf hfn => by
      obtain rfl : f = 3 := Option.some.inj ((show Ybad.prog.funcNamed Rows.lawS3821BFirstInvalidRow.func = some 3 by kernel_rfl).symm.trans hf) |>.symm
      obtain rfl : fn = Ybad.f3 := (Option.some.inj (Ybad.func3.symm.trans hfn)).symm
      exact ⟨by kernel_rfl, fun j t ht => by
        rw [Ybad.params3] at ht
        have hm : t ∈ [22, 4, 5, 5, 3] := by simpa using Array.mem_of_getElem? ht
        have hall : ([22, 4, 5, 5, 3].all fun u => !Ybad.prog.wantsStandIn u) = true := by kernel_rfl
        exact (show Ybad.prog.wantsStandIn t = false by simpa using List.all_eq_true.1 hall t hm)⟩)
    (by kernel_rfl)

end Go.Proofs.YbulkcacmDoor
