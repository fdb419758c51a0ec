/- ZZnewFormatter, walked: a new formatter over an empty buffer, its flags as handed in. -/
import Derived.Test.YoedvwDoorBase
namespace Go.Proofs.YoedvwDoor
open Go.RowKit
set_option linter.unusedVariables false

def fmtZ : Array Value := #[.pointer none, .bool false, .bool false, .bool false, .bool false, .bool false, .bool false, .bool false, .bool false, .bool false, .bool false, .bool false, .bool false, .int .i64 0, .int .i64 0] ++ Array.replicate 68 (.int .u8 0)
theorem zero46 (w : World) : (zeroValue 46).run Edvg.prog w = .ok (.agg fmtZ) w := by kernel_rfl
theorem zero43 (w : World) : (zeroValue 43).run Edvg.prog w = .ok (.agg #[.bool false, .bool false, .bool false, .bool false, .bool false, .bool false, .bool false, .bool false, .bool false, .bool false, .bool false, .bool false]) w := by kernel_rfl
theorem fmtZ_size : fmtZ.size = 83 := by simp [fmtZ]
theorem fmtZ_byte (j : Nat) (h : 15 ≤ j) (h2 : j < 83) : fmtZ[j]? = some (.int .u8 0) := by
  unfold fmtZ
  rw [Array.getElem?_append_right (by simpa using h), Array.getElem?_replicate]
  rw [if_pos (by simp; omega)]
/-- The cells as the walk leaves them. -/
def fmtCells (bb : Nat) (f : Fl) : Array Value :=
  (((((((((((((((((((((fmtZ.setIfInBounds 0 (Value.pointer (some ⟨bb, 0, none⟩))).setIfInBounds 1 (.bool false)).setIfInBounds 2 (.bool false)).setIfInBounds 3 (.bool false)).setIfInBounds 4 (.bool false)).setIfInBounds 5 (.bool false)).setIfInBounds 6 (.bool false)).setIfInBounds 7 (.bool false)).setIfInBounds 8 (.bool false)).setIfInBounds 9 (.bool false)).setIfInBounds 10 (.bool false)).setIfInBounds 11 (.bool false)).setIfInBounds 12 (.bool false)).setIfInBounds 1 (.bool f.wp)).setIfInBounds 13 (.int .i64 f.wid)).setIfInBounds 2 (.bool f.pp)).setIfInBounds 14 (.int .i64 f.prec)).setIfInBounds 3 (.bool f.mi)).setIfInBounds 4 (.bool f.pl)).setIfInBounds 5 (.bool f.sh)).setIfInBounds 6 (.bool f.sp)).setIfInBounds 7 (.bool f.ze)
theorem fmtCells_ok (bb : Nat) (f : Fl) : FmtC (fmtCells bb f) bb f := by
  have zs := fmtZ_size
  unfold fmtCells
  constructor
  · simp [zs]
  · simp [zs]
  · simp [zs]
  · simp [zs]
  · simp [zs]
  · simp [zs]
  · simp [zs]
  · simp [zs]
  · simp [zs]
  · simp [zs]
  · simp [zs]
  · intro j h1 h2
    refine ⟨0, ?_⟩
    have := fmtZ_byte j h1 h2
    repeat rw [Array.getElem?_setIfInBounds_ne (by omega)]
    exact this
theorem new_ok (w : World) (f : Fl) (hbig : 5 < w.heap.size) (hmax : w.cell? ⟨4, 0, none⟩ = some (.int .i64 2147483647)) :
    FmtV ((w.alloc (.cells (fmtCells (w.heap.size + 1) f) 46)).alloc (.cells #[.slice none 0 0] 49)) w.heap.size w.heap.size (w.heap.size + 1) (.slice none 0 0) f [] := by
  have hb : Below w.heap.size w ((w.alloc (.cells (fmtCells (w.heap.size + 1) f) 46)).alloc (.cells #[.slice none 0 0] 49)) :=
    ((Below.refl _ _).alloc (Nat.le_refl _) _).alloc (by simp) _
  refine ⟨hbig, ?_, Nat.le_refl _, by omega, ⟨fmtCells (w.heap.size + 1) f, ?_, fmtCells_ok _ _⟩, ?_, World.ownsRow_nil _ _ _ _⟩
  · rw [hb.cell (p := ⟨4, 0, none⟩) (by show 4 < w.heap.size; omega)]; exact hmax
  · rw [Below.heap_alloc _ _ _ (by simp)]; exact heap_alloc_new _ _
  · have := heap_alloc_new (w.alloc (.cells (fmtCells (w.heap.size + 1) f) 46)) (.cells #[.slice none 0 0] 49)
    simpa using this

set_option maxHeartbeats 1000000 in
theorem new_fmt (b0 : Bool) (wid : Int) (pp : Bool) (prec : Int) (mi pl sh sp ze : Bool) (w : World) (hbig : 5 < w.heap.size) (hmax : w.cell? ⟨4, 0, none⟩ = some (.int .i64 2147483647)) :
    Calls Edvg.prog 8 #[.bool b0, .int .i64 wid, .bool pp, .int .i64 prec, .bool mi, .bool pl, .bool sh, .bool sp, .bool ze] w fun e w' =>
      e = .returned (.pointer (some ⟨w.heap.size, 0, none⟩)) ∧ Below w.heap.size w w' ∧ FmtV w' w.heap.size w.heap.size (w.heap.size + 1) (.slice none 0 0) ⟨b0, wid, pp, prec, mi, pl, sh, sp, ze⟩ [] := by
  have z46 := zero46
  have z43 := zero43
  have zs := fmtZ_size
  have HM : Hid (w.cell? ⟨4, 0, none⟩ = some (.int .i64 2147483647)) := hmax
  clear hmax
  go_enter Edvg.func8, Edvg.ntmps8
  go_wp2
  go_end0
  go_wp2
  go_end0
  go_wp2
  go_ret
  exact ⟨rfl, ((Below.refl _ _).alloc (Nat.le_refl _) _).alloc (by simp) _, new_ok w ⟨b0, wid, pp, prec, mi, pl, sh, sp, ze⟩ hbig HM.out⟩
end Go.Proofs.YoedvwDoor
