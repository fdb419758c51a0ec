/- The law FnBooleanAppends: its tied card. -/
import Derived.Test.YoedvwDoorFnBooleanAppendsProof
import Derived.Test.YoedvwDoorTie
import Derived.Test.YoedvwDoorCards
import Derived.SevenTiedAt
namespace Go.Proofs.YoedvwDoor.fnBooleanAppends
open Go

theorem card_holds : Rows.FnBooleanAppendsCardSaid :=
  Claim7.holds_tied_plain_at .later [] [.called, .data] true Rows.fnBooleanAppendsCard.stood.harness false
    over (fun _ h => by cases h) (by kernel_rfl) (fun _ h => by cases h) fnBooleanAppends_row_tie rfl ⟨rfl, rfl⟩ (by kernel_rfl) rfl
    (fun f fn hf hfn => by
      obtain rfl : f = 3 := Option.some.inj ((show Edvg.prog.funcNamed Rows.fnBooleanAppendsRow.func = some 3 by kernel_rfl).symm.trans hf) |>.symm
      obtain rfl : fn = Edvg.f3 := (Option.some.inj (Edvg.func3.symm.trans hfn)).symm
      exact ⟨by kernel_rfl, fun j t ht => by
        rw [Edvg.params3] at ht
        have hm : t ∈ [4, 4, 4, 3, 4, 4] := by simpa using Array.mem_of_getElem? ht
        have hall : ([4, 4, 4, 3, 4, 4].all fun u => !Edvg.prog.wantsStandIn u) = true := by kernel_rfl
        exact (show Edvg.prog.wantsStandIn t = false by simpa using List.all_eq_true.1 hall t hm)⟩)
    (by kernel_rfl)
#print axioms card_holds
end Go.Proofs.YoedvwDoor.fnBooleanAppends
