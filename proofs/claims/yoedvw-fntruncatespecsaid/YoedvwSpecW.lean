/- FnTruncateSpec, walked out of the contracts. -/
import Derived.Test.YoedvwFmtA
import Derived.Test.YoedvwTrunc
import Derived.Test.YoedvwRune
namespace Go.Proofs.Yoedvw
open Go.RowKit
open Cut (cutN wd)
set_option linter.unusedVariables false

set_option maxHeartbeats 400000 in
theorem bytesS_yes (s : ByteArray) (b : Bool) (q : Int) (w : World) (hs : s.size ≤ 1048576) :
    Calls Edvg.prog 5 #[.string s, .bool b, .int .i64 q] w fun e w' => e = .returned (.bool true) ∧ w = w' := by
  go_enter Edvg.func5, Edvg.ntmps5
  go_wp2
  go_ret
  exact ⟨rfl, rfl⟩
set_option maxHeartbeats 400000 in
theorem bytesS_no (s : ByteArray) (b : Bool) (q : Int) (w : World) (hs : 1048576 < s.size) :
    Calls Edvg.prog 5 #[.string s, .bool b, .int .i64 q] w fun e w' => e = .returned (.bool false) ∧ w = w' := by
  go_enter Edvg.func5, Edvg.ntmps5
  go_wp2
  go_ret
  exact ⟨rfl, rfl⟩

set_option maxHeartbeats 1000000 in
theorem spec_none (s : ByteArray) (prec : Int) (w : World) (hs : s.size ≤ 1048576) :
    Calls Edvg.prog 3 #[.string s, .bool false, .int .i64 prec] w fun e w' => e = .returned (.bool true) ∧ Below w.heap.size w w' := by
  go_enter Edvg.func3, Edvg.ntmps3
  go_wp2_with (go_at_call 5; refine (bytesS_yes s false prec _ hs).mono ?_; rintro e w' ⟨rfl, rfl⟩)
  refine (new_fmt false 0 false prec false false false false false _).mono ?_
  rintro e w1 ⟨rfl, hb1, hz1, a2, a14⟩
  go_wp2_with fail
  refine (zz_trunc_no s w.heap.size _ a2).mono ?_
  rintro e w' ⟨rfl, rfl⟩
  go_wp2_with fail
  go_ret
  exact ⟨rfl, hb1⟩

theorem cnt_stop (s : ByteArray) (prec : Int) (c k t : Nat) (h : (prec ≤ (c : Int)) ∨ ¬ k < s.size) (hc : cutN s (prec - c).toNat k = t) : k = t := by
  rcases h with h | h
  · have : (prec - (c : Int)).toNat = 0 := by omega
    rw [this] at hc; exact hc
  · rw [Cut.cutN_end s _ k h] at hc; exact hc

set_option maxHeartbeats 1000000 in
theorem spec_some (s : ByteArray) (prec : Int) (w : World) (hs : s.size ≤ 1048576) (hp : -1073741824 ≤ prec) (hp2 : prec ≤ 9223372036854775807) :
    Calls Edvg.prog 3 #[.string s, .bool true, .int .i64 prec] w fun e w' => e = .returned (.bool true) ∧ Below w.heap.size w w' := by
  go_enter Edvg.func3, Edvg.ntmps3
  go_wp2_with (go_at_call 5; refine (bytesS_yes s true prec _ hs).mono ?_; rintro e w' ⟨rfl, rfl⟩)
  refine (new_fmt false 0 true prec false false false false false _).mono ?_
  rintro e w1 ⟨rfl, hb1, hz1, a2, a14⟩
  go_wp2_with fail
  refine (zz_trunc_yes s w.heap.size prec _ hs hp hp2 a2 a14).mono ?_
  rintro e w2 ⟨rfl, hb2⟩
  have g2 : Below w.heap.size w w2 := hb1.trans (hb2.mono (by omega))
  clear hb1 hb2 a2 a14
  obtain ⟨t, ht⟩ : ∃ t, t = cutN s prec.toNat 0 := ⟨_, rfl⟩
  rw [← ht]
  have HT : Hid (t = cutN s prec.toNat 0) := ht
  clear ht
  go_wp2_with fail
  go_loop [9, 10] (fun kv cv => ∃ k c : Nat, kv = .int .i64 k ∧ cv = .int .i64 c ∧ k ≤ s.size ∧ c ≤ k ∧ (c : Int) ≤ max prec 0 ∧ cutN s (prec - c).toNat k = t) (fun kv _ => s.size - (intOf kv).toNat)
  case atStart => exact ⟨0, 0, rfl, rfl, by omega, by omega, by omega, by rw [HT.out]; simp⟩
  case round =>
    obtain ⟨k, c, rfl, rfl, hk, hck, hcp, hc⟩ := hrel
    have HC : Hid (cutN s (prec - c).toNat k = t) := hc
    clear hc
    by_cases hlt : k < s.size
    · by_cases hcl : (c : Int) < prec
      · have hwl := Cut.wd_le s k hlt
        have hwp := Cut.wd_pos s k
        go_wp2_with (go_at_call 8; refine (runeLen s k _ hs hlt).mono ?_; rintro e w' ⟨rfl, rfl⟩)
        go_round
        case rel => exact ⟨k + wd s k, c + 1, by go_num, by go_num, hwl, by omega, by omega, cut_step s _ _ k _ hlt (by omega) (by omega) HC.out⟩
        case measure => simp [intOf]; omega
      · obtain rfl : k = t := cnt_stop s prec c k t (Or.inl (by omega)) HC.out
        go_wp2_with fail
        go_ret
        exact ⟨rfl, g2⟩
    · obtain rfl : k = t := cnt_stop s prec c k t (Or.inr hlt) HC.out
      go_wp2_with fail
      go_ret
      exact ⟨rfl, g2⟩
end Go.Proofs.Yoedvw
