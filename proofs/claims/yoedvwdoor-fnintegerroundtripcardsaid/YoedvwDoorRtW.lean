/- zzDigitVal, walked; and a number and its negative. -/
import Derived.Test.YoedvwDoorRtF
import Derived.Test.YoedvwDoorNew
import Derived.Test.YoedvwDoorBool
import Derived.Deep.CutBlock
namespace Go.Proofs.YoedvwDoor
open Go.RowKit
set_option linter.unusedVariables false

set_option maxHeartbeats 400000 in
theorem digitVal (D : ByteArray) (hD : Digs D) (hi : Inj D) (d : Nat) (hd : d < 16) (w : World) :
    Calls Edvg.prog 19 #[.int .u8 ((D.get! d).toNat : Int), .string D] w fun e w' => e = .returned (.int .i64 d) ∧ w = w' := by
  have hsz : D.size = 17 := hD.sz
  have HI : Hid (Inj D) := hi
  obtain ⟨c, hc⟩ : ∃ c : Nat, c = (D.get! d).toNat := ⟨_, rfl⟩
  have HC : Hid (c = (D.get! d).toNat) := hc
  rw [← hc]
  clear hD hi hc
  go_enter Edvg.func19, Edvg.ntmps19
  go_wp2_with fail
  go_loop [5] (fun s5 => ∃ i : Nat, s5 = .int .i64 i ∧ i ≤ d) (fun s5 => 16 - (intOf s5).toNat)
  case atStart => exact ⟨0, rfl, by omega⟩
  case round =>
    obtain ⟨i, rfl, hid⟩ := hrel
    by_cases he : i = d
    · subst he
      have t1 : (((D[i]'(by omega)).toNat : Int) == (c : Int)) = true := by
        rw [HC.out, getB D i (by omega)]; simp
      go_wp2_with fail
      go_ret
      exact ⟨rfl, rfl⟩
    · have t1 : (((D[i]'(by omega)).toNat : Int) == (c : Int)) = false := by
        rw [HC.out, ← getB D i (by omega)]
        have : (D.get! i).toNat ≠ (D.get! d).toNat := fun e => he (HI.out i (by omega) d hd e)
        simp; omega
      have hlt : i < d := by omega
      clear he
      go_wp2_with fail
      go_round
      case rel => exact ⟨i + 1, by go_num, by omega⟩
      case measure => simp [intOf]; omega

theorem mag_back {s : Bool} {u m : Nat} (h : true = negOf s u) (hm : m = magOf s u) (hu : u < 18446744073709551616) : IntKind.u64.wrap (-(m : Int)) = (u : Int) := by
  have h63 : 9223372036854775808 ≤ u := by
    unfold negOf at h
    have := h.symm
    simp at this
    exact this.2
  rw [hm]; unfold magOf; rw [← h, if_pos rfl, IntKind.wrap_u64]
  omega
end Go.Proofs.YoedvwDoor
