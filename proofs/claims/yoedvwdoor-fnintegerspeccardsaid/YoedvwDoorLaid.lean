/- What the rows' condition on the two listed variables gives the walks: the greatest string length is 2147483647, in block 4; and the program's closed facts. -/
import Derived.Test.YoedvwDoorRows
import Derived.ProofKit
import Derived.LaidMore
import Derived.OpenShut
import Derived.OpenVars
import Derived.Stop.Joined
import Derived.WalkKit
namespace Go.Proofs.YoedvwDoor
open Go.ChangeShapes Go.WideShapes Go.ChangeAt Go.RowKit
set_option linter.unusedVariables false

theorem own : ownKnob Edvg.prog.godebug = none := by kernel_rfl
theorem laidOut : laidOutB Edvg.prog = true := by kernel_rfl

/-- The door's own heap meets the condition. -/
theorem door_met (os : Os) (args : Array Value) : laidMetH Edvg.prog Rows.fnBooleanAppendsRow.laid ((World.doorLaid Edvg.prog 400 os).forCall (fun _ _ => 0) ⟨#[], args, []⟩).memory :=
  laidMetH_of_parts3 (fuel := 8) (laidMet_of_run' 8 (by kernel_rfl) (by kernel_rfl)) (by kernel_rfl) (by kernel_rfl)

theorem of_laid {W : World} (h : laidMetH Edvg.prog Rows.fnBooleanAppendsRow.laid W) : 5 < W.heap.size ∧ W.cell? ⟨4, 0, none⟩ = some (.int .i64 2147483647) := by
  rw [MakeChecks.laidMetH_plain _ _ _ (by kernel_rfl)] at h
  obtain ⟨ps, ⟨g0, t0, cs0, f0, p0, q0, hg0, ht0, hv0, hd0, ⟨g1, t1, cs1, f1, p1, q1, hg1, ht1, hv1, hd1, _, _⟩, _⟩, _, _⟩ := h
  obtain rfl := Option.some.inj ((show _ = some 5 from by kernel_rfl).symm.trans hg0)
  obtain rfl := Option.some.inj ((show _ = some 4 from by kernel_rfl).symm.trans hg1)
  obtain rfl := Option.some.inj ((show _ = some 3 from by kernel_rfl).symm.trans ht1)
  constructor
  · unfold World.var? at hv0
    rw [hg0] at hv0
    simp only [Option.bind_some] at hv0
    cases hh : W.heap[5]? with
    | none => rw [hh] at hv0; cases hv0
    | some o => exact (Array.getElem?_eq_some_iff.1 hh).1
  · obtain ⟨n, e1, e2, _⟩ := DataW.trod_int Edvg.underlying3 hd1
    have hn : n = 2147483647 := by
      simp only [Prod.mk.injEq, Rows.laid_github_com_d5_tengo_v2_MaxStringLen] at e2
      have := e2.1
      injection this with e3
      injection e3 with _ e4
      exact e4.symm
    subst hn
    have := World.var?_cell hg1 hv1 0
    rw [Array.eq_one_of_toList e1] at this
    simpa using this
end Go.Proofs.YoedvwDoor
