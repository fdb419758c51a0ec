/- THE PLAIN PART: the width of a rune by the kind of its lead byte. -/
import Derived.Test.YoedvwCut
namespace Go.Proofs.Yoedvw.Cut
open Go
set_option linter.unusedVariables false

/-- The width by the lead byte's kind, as the law's own text tells it. -/
def cls (n b0 b1 b2 b3 : Nat) : Nat :=
  if b0 < 128 then 1
  else if 194 ≤ b0 ∧ b0 ≤ 223 then (if 2 ≤ n ∧ 128 ≤ b1 ∧ b1 ≤ 191 then 2 else 1)
  else if b0 = 224 then (if 3 ≤ n ∧ 160 ≤ b1 ∧ b1 ≤ 191 ∧ 128 ≤ b2 ∧ b2 ≤ 191 then 3 else 1)
  else if b0 = 237 then (if 3 ≤ n ∧ 128 ≤ b1 ∧ b1 ≤ 159 ∧ 128 ≤ b2 ∧ b2 ≤ 191 then 3 else 1)
  else if 225 ≤ b0 ∧ b0 ≤ 239 then (if 3 ≤ n ∧ 128 ≤ b1 ∧ b1 ≤ 191 ∧ 128 ≤ b2 ∧ b2 ≤ 191 then 3 else 1)
  else if b0 = 240 then (if 4 ≤ n ∧ 144 ≤ b1 ∧ b1 ≤ 191 ∧ 128 ≤ b2 ∧ b2 ≤ 191 ∧ 128 ≤ b3 ∧ b3 ≤ 191 then 4 else 1)
  else if b0 = 244 then (if 4 ≤ n ∧ 128 ≤ b1 ∧ b1 ≤ 143 ∧ 128 ≤ b2 ∧ b2 ≤ 191 ∧ 128 ≤ b3 ∧ b3 ≤ 191 then 4 else 1)
  else if 241 ≤ b0 ∧ b0 ≤ 243 then (if 4 ≤ n ∧ 128 ≤ b1 ∧ b1 ≤ 191 ∧ 128 ≤ b2 ∧ b2 ≤ 191 ∧ 128 ≤ b3 ∧ b3 ≤ 191 then 4 else 1)
  else 1

theorem cls_one (n b0 b1 b2 b3 : Nat) (h : b0 < 128 ∨ (128 ≤ b0 ∧ b0 < 194) ∨ 244 < b0) : cls n b0 b1 b2 b3 = 1 := by
  unfold cls
  by_cases h1 : b0 < 128
  · rw [if_pos h1]
  · rw [if_neg (by omega), if_neg (by omega), if_neg (by omega), if_neg (by omega), if_neg (by omega), if_neg (by omega), if_neg (by omega), if_neg (by omega)]
theorem cls_C2 (n b0 b1 b2 b3 : Nat) (a0 : 194 ≤ b0) (h0 : b0 ≤ 223) : cls n b0 b1 b2 b3 = (if 2 ≤ n ∧ 128 ≤ b1 ∧ b1 ≤ 191 then 2 else 1) := by
  unfold cls; rw [if_neg (by omega), if_pos (by omega)]
theorem cls_E0 (n b0 b1 b2 b3 : Nat) (a0 : 224 ≤ b0) (h0 : b0 ≤ 224) : cls n b0 b1 b2 b3 = (if 3 ≤ n ∧ 160 ≤ b1 ∧ b1 ≤ 191 ∧ 128 ≤ b2 ∧ b2 ≤ 191 then 3 else 1) := by
  unfold cls; rw [if_neg (by omega), if_neg (by omega), if_pos (by omega)]
theorem cls_E1 (n b0 b1 b2 b3 : Nat) (a0 : 225 ≤ b0) (h0 : b0 ≤ 236) : cls n b0 b1 b2 b3 = (if 3 ≤ n ∧ 128 ≤ b1 ∧ b1 ≤ 191 ∧ 128 ≤ b2 ∧ b2 ≤ 191 then 3 else 1) := by
  unfold cls; rw [if_neg (by omega), if_neg (by omega), if_neg (by omega), if_neg (by omega), if_pos (by omega)]
theorem cls_ED (n b0 b1 b2 b3 : Nat) (a0 : 237 ≤ b0) (h0 : b0 ≤ 237) : cls n b0 b1 b2 b3 = (if 3 ≤ n ∧ 128 ≤ b1 ∧ b1 ≤ 159 ∧ 128 ≤ b2 ∧ b2 ≤ 191 then 3 else 1) := by
  unfold cls; rw [if_neg (by omega), if_neg (by omega), if_neg (by omega), if_pos (by omega)]
theorem cls_EE (n b0 b1 b2 b3 : Nat) (a0 : 238 ≤ b0) (h0 : b0 ≤ 239) : cls n b0 b1 b2 b3 = (if 3 ≤ n ∧ 128 ≤ b1 ∧ b1 ≤ 191 ∧ 128 ≤ b2 ∧ b2 ≤ 191 then 3 else 1) := by
  unfold cls; rw [if_neg (by omega), if_neg (by omega), if_neg (by omega), if_neg (by omega), if_pos (by omega)]
theorem cls_F0 (n b0 b1 b2 b3 : Nat) (a0 : 240 ≤ b0) (h0 : b0 ≤ 240) : cls n b0 b1 b2 b3 = (if 4 ≤ n ∧ 144 ≤ b1 ∧ b1 ≤ 191 ∧ 128 ≤ b2 ∧ b2 ≤ 191 ∧ 128 ≤ b3 ∧ b3 ≤ 191 then 4 else 1) := by
  unfold cls; rw [if_neg (by omega), if_neg (by omega), if_neg (by omega), if_neg (by omega), if_neg (by omega), if_pos (by omega)]
theorem cls_F1 (n b0 b1 b2 b3 : Nat) (a0 : 241 ≤ b0) (h0 : b0 ≤ 243) : cls n b0 b1 b2 b3 = (if 4 ≤ n ∧ 128 ≤ b1 ∧ b1 ≤ 191 ∧ 128 ≤ b2 ∧ b2 ≤ 191 ∧ 128 ≤ b3 ∧ b3 ≤ 191 then 4 else 1) := by
  unfold cls; rw [if_neg (by omega), if_neg (by omega), if_neg (by omega), if_neg (by omega), if_neg (by omega), if_neg (by omega), if_neg (by omega), if_pos (by omega)]
theorem cls_F4 (n b0 b1 b2 b3 : Nat) (a0 : 244 ≤ b0) (h0 : b0 ≤ 244) : cls n b0 b1 b2 b3 = (if 4 ≤ n ∧ 128 ≤ b1 ∧ b1 ≤ 143 ∧ 128 ≤ b2 ∧ b2 ≤ 191 ∧ 128 ≤ b3 ∧ b3 ≤ 191 then 4 else 1) := by
  unfold cls; rw [if_neg (by omega), if_neg (by omega), if_neg (by omega), if_neg (by omega), if_neg (by omega), if_neg (by omega), if_pos (by omega)]
set_option maxHeartbeats 1000000 in
theorem eq_C2 (n b0 b1 b2 b3 : Nat) (a0 : 194 ≤ b0) (h0 : b0 ≤ 223) (h1 : b1 < 256) (h2 : b2 < 256) (h3 : b3 < 256) : (Lib.decodeN n b0 b1 b2 b3).2 = cls n b0 b1 b2 b3 := by
  rw [cls_C2 n b0 b1 b2 b3 a0 h0]
  unfold Lib.decodeN
  rw [if_neg (by omega)]
  repeat' split
  all_goals (first | rfl | (exfalso; omega))
set_option maxHeartbeats 1000000 in
theorem eq_E0 (n b0 b1 b2 b3 : Nat) (a0 : 224 ≤ b0) (h0 : b0 ≤ 224) (h1 : b1 < 256) (h2 : b2 < 256) (h3 : b3 < 256) : (Lib.decodeN n b0 b1 b2 b3).2 = cls n b0 b1 b2 b3 := by
  rw [cls_E0 n b0 b1 b2 b3 a0 h0]
  unfold Lib.decodeN
  rw [if_neg (by omega), if_neg (by omega)]
  repeat' split
  all_goals (first | rfl | (exfalso; omega))
set_option maxHeartbeats 1000000 in
theorem eq_E1 (n b0 b1 b2 b3 : Nat) (a0 : 225 ≤ b0) (h0 : b0 ≤ 236) (h1 : b1 < 256) (h2 : b2 < 256) (h3 : b3 < 256) : (Lib.decodeN n b0 b1 b2 b3).2 = cls n b0 b1 b2 b3 := by
  rw [cls_E1 n b0 b1 b2 b3 a0 h0]
  unfold Lib.decodeN
  rw [if_neg (by omega), if_neg (by omega)]
  repeat' split
  all_goals (first | rfl | (exfalso; omega))
set_option maxHeartbeats 1000000 in
theorem eq_ED (n b0 b1 b2 b3 : Nat) (a0 : 237 ≤ b0) (h0 : b0 ≤ 237) (h1 : b1 < 256) (h2 : b2 < 256) (h3 : b3 < 256) : (Lib.decodeN n b0 b1 b2 b3).2 = cls n b0 b1 b2 b3 := by
  rw [cls_ED n b0 b1 b2 b3 a0 h0]
  unfold Lib.decodeN
  rw [if_neg (by omega), if_neg (by omega)]
  repeat' split
  all_goals (first | rfl | (exfalso; omega))
set_option maxHeartbeats 1000000 in
theorem eq_EE (n b0 b1 b2 b3 : Nat) (a0 : 238 ≤ b0) (h0 : b0 ≤ 239) (h1 : b1 < 256) (h2 : b2 < 256) (h3 : b3 < 256) : (Lib.decodeN n b0 b1 b2 b3).2 = cls n b0 b1 b2 b3 := by
  rw [cls_EE n b0 b1 b2 b3 a0 h0]
  unfold Lib.decodeN
  rw [if_neg (by omega), if_neg (by omega)]
  repeat' split
  all_goals (first | rfl | (exfalso; omega))
set_option maxHeartbeats 1000000 in
theorem eq_F0 (n b0 b1 b2 b3 : Nat) (a0 : 240 ≤ b0) (h0 : b0 ≤ 240) (h1 : b1 < 256) (h2 : b2 < 256) (h3 : b3 < 256) : (Lib.decodeN n b0 b1 b2 b3).2 = cls n b0 b1 b2 b3 := by
  rw [cls_F0 n b0 b1 b2 b3 a0 h0]
  unfold Lib.decodeN
  rw [if_neg (by omega), if_neg (by omega), if_neg (by omega)]
  repeat' split
  all_goals (first | rfl | (exfalso; omega))
set_option maxHeartbeats 1000000 in
theorem eq_F1 (n b0 b1 b2 b3 : Nat) (a0 : 241 ≤ b0) (h0 : b0 ≤ 243) (h1 : b1 < 256) (h2 : b2 < 256) (h3 : b3 < 256) : (Lib.decodeN n b0 b1 b2 b3).2 = cls n b0 b1 b2 b3 := by
  rw [cls_F1 n b0 b1 b2 b3 a0 h0]
  unfold Lib.decodeN
  rw [if_neg (by omega), if_neg (by omega), if_neg (by omega)]
  repeat' split
  all_goals (first | rfl | (exfalso; omega))
set_option maxHeartbeats 1000000 in
theorem eq_F4 (n b0 b1 b2 b3 : Nat) (a0 : 244 ≤ b0) (h0 : b0 ≤ 244) (h1 : b1 < 256) (h2 : b2 < 256) (h3 : b3 < 256) : (Lib.decodeN n b0 b1 b2 b3).2 = cls n b0 b1 b2 b3 := by
  rw [cls_F4 n b0 b1 b2 b3 a0 h0]
  unfold Lib.decodeN
  rw [if_neg (by omega), if_neg (by omega), if_neg (by omega)]
  repeat' split
  all_goals (first | rfl | (exfalso; omega))
theorem eq_one (n b0 b1 b2 b3 : Nat) (h : b0 < 128 ∨ (128 ≤ b0 ∧ b0 < 194) ∨ 244 < b0) (h1 : b1 < 256) (h2 : b2 < 256) (h3 : b3 < 256) (h0 : b0 < 256) : (Lib.decodeN n b0 b1 b2 b3).2 = cls n b0 b1 b2 b3 := by
  rw [cls_one n b0 b1 b2 b3 h]
  unfold Lib.decodeN
  repeat' split
  all_goals (first | rfl | (exfalso; omega))
theorem cls_eq (n b0 b1 b2 b3 : Nat) (h0 : b0 < 256) (h1 : b1 < 256) (h2 : b2 < 256) (h3 : b3 < 256) : (Lib.decodeN n b0 b1 b2 b3).2 = cls n b0 b1 b2 b3 := by
  by_cases hA : b0 < 194
  · exact eq_one n b0 b1 b2 b3 (by omega) h1 h2 h3 h0
  by_cases hC2 : b0 ≤ 223
  · exact eq_C2 n b0 b1 b2 b3 (by omega) hC2 h1 h2 h3
  by_cases hE0 : b0 ≤ 224
  · exact eq_E0 n b0 b1 b2 b3 (by omega) hE0 h1 h2 h3
  by_cases hE1 : b0 ≤ 236
  · exact eq_E1 n b0 b1 b2 b3 (by omega) hE1 h1 h2 h3
  by_cases hED : b0 ≤ 237
  · exact eq_ED n b0 b1 b2 b3 (by omega) hED h1 h2 h3
  by_cases hEE : b0 ≤ 239
  · exact eq_EE n b0 b1 b2 b3 (by omega) hEE h1 h2 h3
  by_cases hF0 : b0 ≤ 240
  · exact eq_F0 n b0 b1 b2 b3 (by omega) hF0 h1 h2 h3
  by_cases hF1 : b0 ≤ 243
  · exact eq_F1 n b0 b1 b2 b3 (by omega) hF1 h1 h2 h3
  by_cases hF4 : b0 ≤ 244
  · exact eq_F4 n b0 b1 b2 b3 (by omega) hF4 h1 h2 h3
  exact eq_one n b0 b1 b2 b3 (by omega) h1 h2 h3 h0

theorem wd_cls (s : ByteArray) (k : Nat) : wd s k = cls (s.size - k) (s.get! k).toNat (s.get! (k + 1)).toNat (s.get! (k + 2)).toNat (s.get! (k + 3)).toNat := by
  unfold wd
  rw [Lib.decode_at]
  exact cls_eq _ _ _ _ _ (UInt8.toNat_lt _) (UInt8.toNat_lt _) (UInt8.toNat_lt _) (UInt8.toNat_lt _)
end Go.Proofs.Yoedvw.Cut
