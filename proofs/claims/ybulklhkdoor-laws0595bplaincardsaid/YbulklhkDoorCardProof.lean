/-
  SEAT b0595aD: THE TIED CARD: the row (YbulklhkDoorLawProof), the given tie (YbulklhkDoorTie), the builder's one call. After the guide's MapyCard.
-/
import Derived.Test.YbulklhkDoorLawProof
import Derived.Test.YbulklhkDoorTie
import Derived.Test.YbulklhkDoorCards
import Derived.SevenTiedAt
namespace Go.Proofs.YbulklhkDoor

theorem lawS0595BPlain_card : Rows.LawS0595BPlainCardSaid :=
  Claim7.holds_tied_plain_at .later [] [.data, .data, .data, .sentinel, .widerDeep] true (true, "2c7b1eb0d92952fa93cf08e97a8f1c74063e6b94295dd13cc413d01acc5b7504") false
    lawS0595BPlain_row (fun _ h => by cases h) (by kernel_rfl) (fun _ h => by cases h) lawS0595BPlain_row_tie rfl ⟨rfl, rfl⟩ (by kernel_rfl) rfl
    (fun f fn hf hfn => by
      obtain rfl : f = 3 := Option.some.inj ((show Ybad.prog.funcNamed Rows.lawS0595BPlainRow.func = some 3 by kernel_rfl).symm.trans hf) |>.symm
      obtain rfl : fn = Ybad.f3 := (Option.some.inj (Ybad.func3.symm.trans hfn)).symm
      exact ⟨by kernel_rfl, fun j t ht => by
        rw [Ybad.params3] at ht
        have hm : t ∈ [22, 23, 24, 21] := by simpa using Array.mem_of_getElem? ht
        have hall : ([22, 23, 24, 21].all fun u => !Ybad.prog.wantsStandIn u) = true := by kernel_rfl
        exact (show Ybad.prog.wantsStandIn t = false by simpa using List.all_eq_true.1 hall t hm)⟩)
    (by kernel_rfl)
end Go.Proofs.YbulklhkDoor
