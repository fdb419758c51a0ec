/- The law FnIntegerRoundTrip: its tied card. -/
import Derived.Test.YoedvwDoorFnIntegerRoundTripProof
import Derived.Test.YoedvwDoorTie
import Derived.Test.YoedvwDoorCards
import Derived.SevenTiedAt
namespace Go.Proofs.YoedvwDoor.fnIntegerRoundTrip
open Go

theorem card_holds : Rows.FnIntegerRoundTripCardSaid :=
  Claim7.holds_tied_plain_at .later [] [.called, .data] true Rows.fnIntegerRoundTripCard.stood.harness false
    over (fun _ h => by cases h) (by kernel_rfl) (fun _ h => by cases h) fnIntegerRoundTrip_row_tie rfl ⟨rfl, rfl⟩ (by kernel_rfl) rfl
    (fun f fn hf hfn => by
      obtain rfl : f = 7 := Option.some.inj ((show Edvg.prog.funcNamed Rows.fnIntegerRoundTripRow.func = some 7 by kernel_rfl).symm.trans hf) |>.symm
      obtain rfl : fn = Edvg.f7 := (Option.some.inj (Edvg.func7.symm.trans hfn)).symm
      exact ⟨by kernel_rfl, fun j t ht => by
        rw [Edvg.params7] at ht
        have hm : t ∈ [27, 3, 4, 4, 4, 4] := by simpa using Array.mem_of_getElem? ht
        have hall : ([27, 3, 4, 4, 4, 4].all fun u => !Edvg.prog.wantsStandIn u) = true := by kernel_rfl
        exact (show Edvg.prog.wantsStandIn t = false by simpa using List.all_eq_true.1 hall t hm)⟩)
    (by kernel_rfl)
#print axioms card_holds
end Go.Proofs.YoedvwDoor.fnIntegerRoundTrip
