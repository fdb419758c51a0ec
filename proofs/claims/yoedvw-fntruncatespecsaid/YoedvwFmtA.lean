/- ZZnewFormatter, walked: a new formatter, whose flag 'precPresent' and whose 'prec' are what was handed in. -/
import Derived.Test.YoedvwRows
import Derived.WalkKit
import Derived.WalkSpells
import Derived.WalkLawsBesides
namespace Go.Proofs.Yoedvw
open Go.RowKit

def fmtZ : Array Value := #[.pointer none, .bool false, .bool false, .bool false, .bool false, .bool false, .bool false, .bool false, .bool false, .bool false, .bool false, .bool false, .bool false, .int .i64 0, .int .i64 0] ++ Array.replicate 68 (.int .u8 0)
theorem zero34 (w : World) : (zeroValue 34).run Edvg.prog w = .ok (.agg fmtZ) w := by kernel_rfl
theorem zero31 (w : World) : (zeroValue 31).run Edvg.prog w = .ok (.agg #[.bool false, .bool false, .bool false, .bool false, .bool false, .bool false, .bool false, .bool false, .bool false, .bool false, .bool false, .bool false]) w := by kernel_rfl
theorem fmtZ_size : fmtZ.size = 83 := by simp [fmtZ]

set_option maxHeartbeats 400000 in
theorem new_fmt (b0 : Bool) (wid : Int) (pp : Bool) (prec : Int) (mi pl sh sp ze : Bool) (w : World) :
    Calls Edvg.prog 6 #[.bool b0, .int .i64 wid, .bool pp, .int .i64 prec, .bool mi, .bool pl, .bool sh, .bool sp, .bool ze] w fun e w' => e = .returned (.pointer (some ⟨w.heap.size, 0, none⟩)) ∧ Below w.heap.size w w' ∧ w.heap.size < w'.heap.size ∧ w'.cell? ⟨w.heap.size, 2, none⟩ = some (.bool pp) ∧ w'.cell? ⟨w.heap.size, 14, none⟩ = some (.int .i64 prec) := by
  have z34 := zero34
  have z31 := zero31
  have zs := fmtZ_size
  go_enter Edvg.func6, Edvg.ntmps6
  go_wp2
  go_end0
  go_wp2
  go_end0
  go_wp2
  go_ret
  refine ⟨rfl, ?_, by simp; omega, ?_, ?_⟩
  · exact ((Below.refl _ _).alloc (Nat.le_refl _) _).alloc (by simp) _
  · simp [zs]
  · simp [zs]
end Go.Proofs.Yoedvw
