/-
  THE TIED CARD OF 'jsonform.LawS5547ADigits', out of its row's proof and the given tie.
-/
import Derived.Test.YbulkdjvwDoorLawProof
import Derived.Test.YbulkdjvwDoorTie
import Derived.Test.YbulkdjvwDoorCards
import Derived.SevenTiedAt
namespace Go.Proofs.YbulkdjvwDoor.lawS5547ADigits
open Go

theorem card_proved : Rows.LawS5547ADigitsCardSaid :=
  Claim7.holds_tied_plain_at .later [] [.data, .data, .data, .sentinel, .sentinel] true (true, "9d058c3c6aed8a33025aa4f943afa81418f4e31feaeaf95dd3b25f3c8bbcc2ca") true
    over (fun _ h => by cases h) (by kernel_rfl) (fun _ h => by cases h) lawS5547ADigits_row_tie rfl ⟨rfl, rfl⟩ (by kernel_rfl) rfl
    (fun f fn hf hfn => by
      obtain rfl : f = 3 := Option.some.inj ((show Ybad.prog.funcNamed Rows.lawS5547ADigitsRow.func = some 3 by kernel_rfl).symm.trans hf) |>.symm
      obtain rfl : fn = Ybad.f3 := (Option.some.inj (Ybad.func3.symm.trans hfn)).symm
      exact ⟨by kernel_rfl, fun j t ht => by
        rw [Ybad.params3] at ht
        have hm : t ∈ [22] := by simpa using Array.mem_of_getElem? ht
        have hall : ([22].all fun u => !Ybad.prog.wantsStandIn u) = true := by kernel_rfl
        exact (show Ybad.prog.wantsStandIn t = false by simpa using List.all_eq_true.1 hall t hm)⟩)
    (by kernel_rfl)
end Go.Proofs.YbulkdjvwDoor.lawS5547ADigits
