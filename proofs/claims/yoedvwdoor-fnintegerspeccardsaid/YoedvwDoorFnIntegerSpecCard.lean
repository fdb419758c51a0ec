/- The law FnIntegerSpec: its tied card. -/
import Derived.Test.YoedvwDoorFnIntegerSpecProof
import Derived.Test.YoedvwDoorTie
import Derived.Test.YoedvwDoorCards
import Derived.SevenTiedAt
namespace Go.Proofs.YoedvwDoor.fnIntegerSpec
open Go

theorem card_holds : Rows.FnIntegerSpecCardSaid :=
  Claim7.holds_tied_plain_at .later [] [.called, .data] true Rows.fnIntegerSpecCard.stood.harness false
    over (fun _ h => by cases h) (by kernel_rfl) (fun _ h => by cases h) fnIntegerSpec_row_tie rfl ⟨rfl, rfl⟩ (by kernel_rfl) rfl
    (fun f fn hf hfn => by
      obtain rfl : f = 6 := Option.some.inj ((show Edvg.prog.funcNamed Rows.fnIntegerSpecRow.func = some 6 by kernel_rfl).symm.trans hf) |>.symm
      obtain rfl : fn = Edvg.f6 := (Option.some.inj (Edvg.func6.symm.trans hfn)).symm
      exact ⟨by kernel_rfl, fun j t ht => by
        rw [Edvg.params6] at ht
        have hm : t ∈ [27, 3, 4, 21, 4, 4, 3, 4, 3, 5] := by simpa using Array.mem_of_getElem? ht
        have hall : ([27, 3, 4, 21, 4, 4, 3, 4, 3, 5].all fun u => !Edvg.prog.wantsStandIn u) = true := by kernel_rfl
        exact (show Edvg.prog.wantsStandIn t = false by simpa using List.all_eq_true.1 hall t hm)⟩)
    (by kernel_rfl)
#print axioms card_holds
end Go.Proofs.YoedvwDoor.fnIntegerSpec
