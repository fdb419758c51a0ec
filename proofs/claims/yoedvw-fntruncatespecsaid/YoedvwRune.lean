import Derived.Test.YoedvwRows
import Derived.Test.YoedvwCls
import Derived.WalkKit
import Derived.WalkSpells
import Derived.WalkLawsBesides
namespace Go.Proofs.Yoedvw
open Go.RowKit
open Cut (cutN wd)

theorem ret_int' {k : IntKind} {a b : Int} (h : a = b) : Ending.returned (.int k a) = .returned (.int k b) := by rw [h]
set_option maxHeartbeats 1000000 in
theorem in_yes (c lo hi : Int) (w : World) (h1 : lo ≤ c) (h2 : c ≤ hi) :
    Calls Edvg.prog 13 #[.int .u8 c, .int .u8 lo, .int .u8 hi] w fun e w' => e = .returned (.bool true) ∧ w = w' := by
  go_enter Edvg.func13, Edvg.ntmps13
  go_wp2
  go_ret
  exact ⟨rfl, rfl⟩
set_option maxHeartbeats 1000000 in
theorem in_no (c lo hi : Int) (w : World) (h : c < lo ∨ hi < c) :
    Calls Edvg.prog 13 #[.int .u8 c, .int .u8 lo, .int .u8 hi] w fun e w' => e = .returned (.bool false) ∧ w = w' := by
  by_cases h1 : lo ≤ c
  · have h2 : ¬ c ≤ hi := by omega
    clear h
    go_enter Edvg.func13, Edvg.ntmps13
    go_wp2
    go_ret
    exact ⟨rfl, rfl⟩
  · clear h
    go_enter Edvg.func13, Edvg.ntmps13
    go_wp2
    go_ret
    exact ⟨rfl, rfl⟩


/-! The width by classes, in the words in which the walk leaves its tests. -/
theorem wd_one (s : ByteArray) (k : Nat) (hk : k < s.size) (h : s[k].toNat < 128 ∨ (128 ≤ s[k].toNat ∧ s[k].toNat < 194) ∨ 244 < s[k].toNat) : wd s k = 1 := by
  rw [Cut.wd_cls, Cut.get_at s k hk]
  exact Cut.cls_one _ _ _ _ _ h
theorem wd_C2_yes (s : ByteArray) (k : Nat) (hk : k < s.size) (a0 : 194 ≤ (s[k].toNat : Int)) (b0 : (s[k].toNat : Int) ≤ 223) (k1 : k + 1 < s.size) (a1 : 128 ≤ (s[k + 1].toNat : Int)) (b1 : (s[k + 1].toNat : Int) ≤ 191) : ((wd s k : Nat) : Int) = 2 := by
  rw [Cut.wd_cls, Cut.get_at s k hk, Cut.get_at s (k + 1) k1, Cut.cls_C2 _ _ _ _ _ (by omega) (by omega), if_pos (by omega)]
  rfl
theorem wd_C2_short (s : ByteArray) (k : Nat) (hk : k < s.size) (a0 : 194 ≤ (s[k].toNat : Int)) (b0 : (s[k].toNat : Int) ≤ 223) (h : (s.size : Int) - k < 2) : ((wd s k : Nat) : Int) = 1 := by
  rw [Cut.wd_cls, Cut.get_at s k hk, Cut.cls_C2 _ _ _ _ _ (by omega) (by omega), if_neg (by omega)]
  rfl
theorem wd_C2_lo1 (s : ByteArray) (k : Nat) (hk : k < s.size) (a0 : 194 ≤ (s[k].toNat : Int)) (b0 : (s[k].toNat : Int) ≤ 223) (k1 : k + 1 < s.size) (h : (s[k + 1].toNat : Int) < 128) : ((wd s k : Nat) : Int) = 1 := by
  rw [Cut.wd_cls, Cut.get_at s k hk, Cut.get_at s (k + 1) k1, Cut.cls_C2 _ _ _ _ _ (by omega) (by omega), if_neg (by omega)]
  rfl
theorem wd_C2_hi1 (s : ByteArray) (k : Nat) (hk : k < s.size) (a0 : 194 ≤ (s[k].toNat : Int)) (b0 : (s[k].toNat : Int) ≤ 223) (k1 : k + 1 < s.size) (h : 191 < (s[k + 1].toNat : Int)) : ((wd s k : Nat) : Int) = 1 := by
  rw [Cut.wd_cls, Cut.get_at s k hk, Cut.get_at s (k + 1) k1, Cut.cls_C2 _ _ _ _ _ (by omega) (by omega), if_neg (by omega)]
  rfl
theorem wd_E0_yes (s : ByteArray) (k : Nat) (hk : k < s.size) (a0 : 224 ≤ (s[k].toNat : Int)) (b0 : (s[k].toNat : Int) ≤ 224) (k1 : k + 1 < s.size) (a1 : 160 ≤ (s[k + 1].toNat : Int)) (b1 : (s[k + 1].toNat : Int) ≤ 191) (k2 : k + 2 < s.size) (a2 : 128 ≤ (s[k + 2].toNat : Int)) (b2 : (s[k + 2].toNat : Int) ≤ 191) : ((wd s k : Nat) : Int) = 3 := by
  rw [Cut.wd_cls, Cut.get_at s k hk, Cut.get_at s (k + 1) k1, Cut.get_at s (k + 2) k2, Cut.cls_E0 _ _ _ _ _ (by omega) (by omega), if_pos (by omega)]
  rfl
theorem wd_E0_short (s : ByteArray) (k : Nat) (hk : k < s.size) (a0 : 224 ≤ (s[k].toNat : Int)) (b0 : (s[k].toNat : Int) ≤ 224) (h : (s.size : Int) - k < 3) : ((wd s k : Nat) : Int) = 1 := by
  rw [Cut.wd_cls, Cut.get_at s k hk, Cut.cls_E0 _ _ _ _ _ (by omega) (by omega), if_neg (by omega)]
  rfl
theorem wd_E0_lo1 (s : ByteArray) (k : Nat) (hk : k < s.size) (a0 : 224 ≤ (s[k].toNat : Int)) (b0 : (s[k].toNat : Int) ≤ 224) (k1 : k + 1 < s.size) (h : (s[k + 1].toNat : Int) < 160) : ((wd s k : Nat) : Int) = 1 := by
  rw [Cut.wd_cls, Cut.get_at s k hk, Cut.get_at s (k + 1) k1, Cut.cls_E0 _ _ _ _ _ (by omega) (by omega), if_neg (by omega)]
  rfl
theorem wd_E0_hi1 (s : ByteArray) (k : Nat) (hk : k < s.size) (a0 : 224 ≤ (s[k].toNat : Int)) (b0 : (s[k].toNat : Int) ≤ 224) (k1 : k + 1 < s.size) (h : 191 < (s[k + 1].toNat : Int)) : ((wd s k : Nat) : Int) = 1 := by
  rw [Cut.wd_cls, Cut.get_at s k hk, Cut.get_at s (k + 1) k1, Cut.cls_E0 _ _ _ _ _ (by omega) (by omega), if_neg (by omega)]
  rfl
theorem wd_E0_lo2 (s : ByteArray) (k : Nat) (hk : k < s.size) (a0 : 224 ≤ (s[k].toNat : Int)) (b0 : (s[k].toNat : Int) ≤ 224) (k2 : k + 2 < s.size) (h : (s[k + 2].toNat : Int) < 128) : ((wd s k : Nat) : Int) = 1 := by
  rw [Cut.wd_cls, Cut.get_at s k hk, Cut.get_at s (k + 2) k2, Cut.cls_E0 _ _ _ _ _ (by omega) (by omega), if_neg (by omega)]
  rfl
theorem wd_E0_hi2 (s : ByteArray) (k : Nat) (hk : k < s.size) (a0 : 224 ≤ (s[k].toNat : Int)) (b0 : (s[k].toNat : Int) ≤ 224) (k2 : k + 2 < s.size) (h : 191 < (s[k + 2].toNat : Int)) : ((wd s k : Nat) : Int) = 1 := by
  rw [Cut.wd_cls, Cut.get_at s k hk, Cut.get_at s (k + 2) k2, Cut.cls_E0 _ _ _ _ _ (by omega) (by omega), if_neg (by omega)]
  rfl
theorem wd_E1_yes (s : ByteArray) (k : Nat) (hk : k < s.size) (a0 : 225 ≤ (s[k].toNat : Int)) (b0 : (s[k].toNat : Int) ≤ 236) (k1 : k + 1 < s.size) (a1 : 128 ≤ (s[k + 1].toNat : Int)) (b1 : (s[k + 1].toNat : Int) ≤ 191) (k2 : k + 2 < s.size) (a2 : 128 ≤ (s[k + 2].toNat : Int)) (b2 : (s[k + 2].toNat : Int) ≤ 191) : ((wd s k : Nat) : Int) = 3 := by
  rw [Cut.wd_cls, Cut.get_at s k hk, Cut.get_at s (k + 1) k1, Cut.get_at s (k + 2) k2, Cut.cls_E1 _ _ _ _ _ (by omega) (by omega), if_pos (by omega)]
  rfl
theorem wd_E1_short (s : ByteArray) (k : Nat) (hk : k < s.size) (a0 : 225 ≤ (s[k].toNat : Int)) (b0 : (s[k].toNat : Int) ≤ 236) (h : (s.size : Int) - k < 3) : ((wd s k : Nat) : Int) = 1 := by
  rw [Cut.wd_cls, Cut.get_at s k hk, Cut.cls_E1 _ _ _ _ _ (by omega) (by omega), if_neg (by omega)]
  rfl
theorem wd_E1_lo1 (s : ByteArray) (k : Nat) (hk : k < s.size) (a0 : 225 ≤ (s[k].toNat : Int)) (b0 : (s[k].toNat : Int) ≤ 236) (k1 : k + 1 < s.size) (h : (s[k + 1].toNat : Int) < 128) : ((wd s k : Nat) : Int) = 1 := by
  rw [Cut.wd_cls, Cut.get_at s k hk, Cut.get_at s (k + 1) k1, Cut.cls_E1 _ _ _ _ _ (by omega) (by omega), if_neg (by omega)]
  rfl
theorem wd_E1_hi1 (s : ByteArray) (k : Nat) (hk : k < s.size) (a0 : 225 ≤ (s[k].toNat : Int)) (b0 : (s[k].toNat : Int) ≤ 236) (k1 : k + 1 < s.size) (h : 191 < (s[k + 1].toNat : Int)) : ((wd s k : Nat) : Int) = 1 := by
  rw [Cut.wd_cls, Cut.get_at s k hk, Cut.get_at s (k + 1) k1, Cut.cls_E1 _ _ _ _ _ (by omega) (by omega), if_neg (by omega)]
  rfl
theorem wd_E1_lo2 (s : ByteArray) (k : Nat) (hk : k < s.size) (a0 : 225 ≤ (s[k].toNat : Int)) (b0 : (s[k].toNat : Int) ≤ 236) (k2 : k + 2 < s.size) (h : (s[k + 2].toNat : Int) < 128) : ((wd s k : Nat) : Int) = 1 := by
  rw [Cut.wd_cls, Cut.get_at s k hk, Cut.get_at s (k + 2) k2, Cut.cls_E1 _ _ _ _ _ (by omega) (by omega), if_neg (by omega)]
  rfl
theorem wd_E1_hi2 (s : ByteArray) (k : Nat) (hk : k < s.size) (a0 : 225 ≤ (s[k].toNat : Int)) (b0 : (s[k].toNat : Int) ≤ 236) (k2 : k + 2 < s.size) (h : 191 < (s[k + 2].toNat : Int)) : ((wd s k : Nat) : Int) = 1 := by
  rw [Cut.wd_cls, Cut.get_at s k hk, Cut.get_at s (k + 2) k2, Cut.cls_E1 _ _ _ _ _ (by omega) (by omega), if_neg (by omega)]
  rfl
theorem wd_ED_yes (s : ByteArray) (k : Nat) (hk : k < s.size) (a0 : 237 ≤ (s[k].toNat : Int)) (b0 : (s[k].toNat : Int) ≤ 237) (k1 : k + 1 < s.size) (a1 : 128 ≤ (s[k + 1].toNat : Int)) (b1 : (s[k + 1].toNat : Int) ≤ 159) (k2 : k + 2 < s.size) (a2 : 128 ≤ (s[k + 2].toNat : Int)) (b2 : (s[k + 2].toNat : Int) ≤ 191) : ((wd s k : Nat) : Int) = 3 := by
  rw [Cut.wd_cls, Cut.get_at s k hk, Cut.get_at s (k + 1) k1, Cut.get_at s (k + 2) k2, Cut.cls_ED _ _ _ _ _ (by omega) (by omega), if_pos (by omega)]
  rfl
theorem wd_ED_short (s : ByteArray) (k : Nat) (hk : k < s.size) (a0 : 237 ≤ (s[k].toNat : Int)) (b0 : (s[k].toNat : Int) ≤ 237) (h : (s.size : Int) - k < 3) : ((wd s k : Nat) : Int) = 1 := by
  rw [Cut.wd_cls, Cut.get_at s k hk, Cut.cls_ED _ _ _ _ _ (by omega) (by omega), if_neg (by omega)]
  rfl
theorem wd_ED_lo1 (s : ByteArray) (k : Nat) (hk : k < s.size) (a0 : 237 ≤ (s[k].toNat : Int)) (b0 : (s[k].toNat : Int) ≤ 237) (k1 : k + 1 < s.size) (h : (s[k + 1].toNat : Int) < 128) : ((wd s k : Nat) : Int) = 1 := by
  rw [Cut.wd_cls, Cut.get_at s k hk, Cut.get_at s (k + 1) k1, Cut.cls_ED _ _ _ _ _ (by omega) (by omega), if_neg (by omega)]
  rfl
theorem wd_ED_hi1 (s : ByteArray) (k : Nat) (hk : k < s.size) (a0 : 237 ≤ (s[k].toNat : Int)) (b0 : (s[k].toNat : Int) ≤ 237) (k1 : k + 1 < s.size) (h : 159 < (s[k + 1].toNat : Int)) : ((wd s k : Nat) : Int) = 1 := by
  rw [Cut.wd_cls, Cut.get_at s k hk, Cut.get_at s (k + 1) k1, Cut.cls_ED _ _ _ _ _ (by omega) (by omega), if_neg (by omega)]
  rfl
theorem wd_ED_lo2 (s : ByteArray) (k : Nat) (hk : k < s.size) (a0 : 237 ≤ (s[k].toNat : Int)) (b0 : (s[k].toNat : Int) ≤ 237) (k2 : k + 2 < s.size) (h : (s[k + 2].toNat : Int) < 128) : ((wd s k : Nat) : Int) = 1 := by
  rw [Cut.wd_cls, Cut.get_at s k hk, Cut.get_at s (k + 2) k2, Cut.cls_ED _ _ _ _ _ (by omega) (by omega), if_neg (by omega)]
  rfl
theorem wd_ED_hi2 (s : ByteArray) (k : Nat) (hk : k < s.size) (a0 : 237 ≤ (s[k].toNat : Int)) (b0 : (s[k].toNat : Int) ≤ 237) (k2 : k + 2 < s.size) (h : 191 < (s[k + 2].toNat : Int)) : ((wd s k : Nat) : Int) = 1 := by
  rw [Cut.wd_cls, Cut.get_at s k hk, Cut.get_at s (k + 2) k2, Cut.cls_ED _ _ _ _ _ (by omega) (by omega), if_neg (by omega)]
  rfl
theorem wd_EE_yes (s : ByteArray) (k : Nat) (hk : k < s.size) (a0 : 238 ≤ (s[k].toNat : Int)) (b0 : (s[k].toNat : Int) ≤ 239) (k1 : k + 1 < s.size) (a1 : 128 ≤ (s[k + 1].toNat : Int)) (b1 : (s[k + 1].toNat : Int) ≤ 191) (k2 : k + 2 < s.size) (a2 : 128 ≤ (s[k + 2].toNat : Int)) (b2 : (s[k + 2].toNat : Int) ≤ 191) : ((wd s k : Nat) : Int) = 3 := by
  rw [Cut.wd_cls, Cut.get_at s k hk, Cut.get_at s (k + 1) k1, Cut.get_at s (k + 2) k2, Cut.cls_EE _ _ _ _ _ (by omega) (by omega), if_pos (by omega)]
  rfl
theorem wd_EE_short (s : ByteArray) (k : Nat) (hk : k < s.size) (a0 : 238 ≤ (s[k].toNat : Int)) (b0 : (s[k].toNat : Int) ≤ 239) (h : (s.size : Int) - k < 3) : ((wd s k : Nat) : Int) = 1 := by
  rw [Cut.wd_cls, Cut.get_at s k hk, Cut.cls_EE _ _ _ _ _ (by omega) (by omega), if_neg (by omega)]
  rfl
theorem wd_EE_lo1 (s : ByteArray) (k : Nat) (hk : k < s.size) (a0 : 238 ≤ (s[k].toNat : Int)) (b0 : (s[k].toNat : Int) ≤ 239) (k1 : k + 1 < s.size) (h : (s[k + 1].toNat : Int) < 128) : ((wd s k : Nat) : Int) = 1 := by
  rw [Cut.wd_cls, Cut.get_at s k hk, Cut.get_at s (k + 1) k1, Cut.cls_EE _ _ _ _ _ (by omega) (by omega), if_neg (by omega)]
  rfl
theorem wd_EE_hi1 (s : ByteArray) (k : Nat) (hk : k < s.size) (a0 : 238 ≤ (s[k].toNat : Int)) (b0 : (s[k].toNat : Int) ≤ 239) (k1 : k + 1 < s.size) (h : 191 < (s[k + 1].toNat : Int)) : ((wd s k : Nat) : Int) = 1 := by
  rw [Cut.wd_cls, Cut.get_at s k hk, Cut.get_at s (k + 1) k1, Cut.cls_EE _ _ _ _ _ (by omega) (by omega), if_neg (by omega)]
  rfl
theorem wd_EE_lo2 (s : ByteArray) (k : Nat) (hk : k < s.size) (a0 : 238 ≤ (s[k].toNat : Int)) (b0 : (s[k].toNat : Int) ≤ 239) (k2 : k + 2 < s.size) (h : (s[k + 2].toNat : Int) < 128) : ((wd s k : Nat) : Int) = 1 := by
  rw [Cut.wd_cls, Cut.get_at s k hk, Cut.get_at s (k + 2) k2, Cut.cls_EE _ _ _ _ _ (by omega) (by omega), if_neg (by omega)]
  rfl
theorem wd_EE_hi2 (s : ByteArray) (k : Nat) (hk : k < s.size) (a0 : 238 ≤ (s[k].toNat : Int)) (b0 : (s[k].toNat : Int) ≤ 239) (k2 : k + 2 < s.size) (h : 191 < (s[k + 2].toNat : Int)) : ((wd s k : Nat) : Int) = 1 := by
  rw [Cut.wd_cls, Cut.get_at s k hk, Cut.get_at s (k + 2) k2, Cut.cls_EE _ _ _ _ _ (by omega) (by omega), if_neg (by omega)]
  rfl
theorem wd_F0_yes (s : ByteArray) (k : Nat) (hk : k < s.size) (a0 : 240 ≤ (s[k].toNat : Int)) (b0 : (s[k].toNat : Int) ≤ 240) (k1 : k + 1 < s.size) (a1 : 144 ≤ (s[k + 1].toNat : Int)) (b1 : (s[k + 1].toNat : Int) ≤ 191) (k2 : k + 2 < s.size) (a2 : 128 ≤ (s[k + 2].toNat : Int)) (b2 : (s[k + 2].toNat : Int) ≤ 191) (k3 : k + 3 < s.size) (a3 : 128 ≤ (s[k + 3].toNat : Int)) (b3 : (s[k + 3].toNat : Int) ≤ 191) : ((wd s k : Nat) : Int) = 4 := by
  rw [Cut.wd_cls, Cut.get_at s k hk, Cut.get_at s (k + 1) k1, Cut.get_at s (k + 2) k2, Cut.get_at s (k + 3) k3, Cut.cls_F0 _ _ _ _ _ (by omega) (by omega), if_pos (by omega)]
  rfl
theorem wd_F0_short (s : ByteArray) (k : Nat) (hk : k < s.size) (a0 : 240 ≤ (s[k].toNat : Int)) (b0 : (s[k].toNat : Int) ≤ 240) (h : (s.size : Int) - k < 4) : ((wd s k : Nat) : Int) = 1 := by
  rw [Cut.wd_cls, Cut.get_at s k hk, Cut.cls_F0 _ _ _ _ _ (by omega) (by omega), if_neg (by omega)]
  rfl
theorem wd_F0_lo1 (s : ByteArray) (k : Nat) (hk : k < s.size) (a0 : 240 ≤ (s[k].toNat : Int)) (b0 : (s[k].toNat : Int) ≤ 240) (k1 : k + 1 < s.size) (h : (s[k + 1].toNat : Int) < 144) : ((wd s k : Nat) : Int) = 1 := by
  rw [Cut.wd_cls, Cut.get_at s k hk, Cut.get_at s (k + 1) k1, Cut.cls_F0 _ _ _ _ _ (by omega) (by omega), if_neg (by omega)]
  rfl
theorem wd_F0_hi1 (s : ByteArray) (k : Nat) (hk : k < s.size) (a0 : 240 ≤ (s[k].toNat : Int)) (b0 : (s[k].toNat : Int) ≤ 240) (k1 : k + 1 < s.size) (h : 191 < (s[k + 1].toNat : Int)) : ((wd s k : Nat) : Int) = 1 := by
  rw [Cut.wd_cls, Cut.get_at s k hk, Cut.get_at s (k + 1) k1, Cut.cls_F0 _ _ _ _ _ (by omega) (by omega), if_neg (by omega)]
  rfl
theorem wd_F0_lo2 (s : ByteArray) (k : Nat) (hk : k < s.size) (a0 : 240 ≤ (s[k].toNat : Int)) (b0 : (s[k].toNat : Int) ≤ 240) (k2 : k + 2 < s.size) (h : (s[k + 2].toNat : Int) < 128) : ((wd s k : Nat) : Int) = 1 := by
  rw [Cut.wd_cls, Cut.get_at s k hk, Cut.get_at s (k + 2) k2, Cut.cls_F0 _ _ _ _ _ (by omega) (by omega), if_neg (by omega)]
  rfl
theorem wd_F0_hi2 (s : ByteArray) (k : Nat) (hk : k < s.size) (a0 : 240 ≤ (s[k].toNat : Int)) (b0 : (s[k].toNat : Int) ≤ 240) (k2 : k + 2 < s.size) (h : 191 < (s[k + 2].toNat : Int)) : ((wd s k : Nat) : Int) = 1 := by
  rw [Cut.wd_cls, Cut.get_at s k hk, Cut.get_at s (k + 2) k2, Cut.cls_F0 _ _ _ _ _ (by omega) (by omega), if_neg (by omega)]
  rfl
theorem wd_F0_lo3 (s : ByteArray) (k : Nat) (hk : k < s.size) (a0 : 240 ≤ (s[k].toNat : Int)) (b0 : (s[k].toNat : Int) ≤ 240) (k3 : k + 3 < s.size) (h : (s[k + 3].toNat : Int) < 128) : ((wd s k : Nat) : Int) = 1 := by
  rw [Cut.wd_cls, Cut.get_at s k hk, Cut.get_at s (k + 3) k3, Cut.cls_F0 _ _ _ _ _ (by omega) (by omega), if_neg (by omega)]
  rfl
theorem wd_F0_hi3 (s : ByteArray) (k : Nat) (hk : k < s.size) (a0 : 240 ≤ (s[k].toNat : Int)) (b0 : (s[k].toNat : Int) ≤ 240) (k3 : k + 3 < s.size) (h : 191 < (s[k + 3].toNat : Int)) : ((wd s k : Nat) : Int) = 1 := by
  rw [Cut.wd_cls, Cut.get_at s k hk, Cut.get_at s (k + 3) k3, Cut.cls_F0 _ _ _ _ _ (by omega) (by omega), if_neg (by omega)]
  rfl
theorem wd_F1_yes (s : ByteArray) (k : Nat) (hk : k < s.size) (a0 : 241 ≤ (s[k].toNat : Int)) (b0 : (s[k].toNat : Int) ≤ 243) (k1 : k + 1 < s.size) (a1 : 128 ≤ (s[k + 1].toNat : Int)) (b1 : (s[k + 1].toNat : Int) ≤ 191) (k2 : k + 2 < s.size) (a2 : 128 ≤ (s[k + 2].toNat : Int)) (b2 : (s[k + 2].toNat : Int) ≤ 191) (k3 : k + 3 < s.size) (a3 : 128 ≤ (s[k + 3].toNat : Int)) (b3 : (s[k + 3].toNat : Int) ≤ 191) : ((wd s k : Nat) : Int) = 4 := by
  rw [Cut.wd_cls, Cut.get_at s k hk, Cut.get_at s (k + 1) k1, Cut.get_at s (k + 2) k2, Cut.get_at s (k + 3) k3, Cut.cls_F1 _ _ _ _ _ (by omega) (by omega), if_pos (by omega)]
  rfl
theorem wd_F1_short (s : ByteArray) (k : Nat) (hk : k < s.size) (a0 : 241 ≤ (s[k].toNat : Int)) (b0 : (s[k].toNat : Int) ≤ 243) (h : (s.size : Int) - k < 4) : ((wd s k : Nat) : Int) = 1 := by
  rw [Cut.wd_cls, Cut.get_at s k hk, Cut.cls_F1 _ _ _ _ _ (by omega) (by omega), if_neg (by omega)]
  rfl
theorem wd_F1_lo1 (s : ByteArray) (k : Nat) (hk : k < s.size) (a0 : 241 ≤ (s[k].toNat : Int)) (b0 : (s[k].toNat : Int) ≤ 243) (k1 : k + 1 < s.size) (h : (s[k + 1].toNat : Int) < 128) : ((wd s k : Nat) : Int) = 1 := by
  rw [Cut.wd_cls, Cut.get_at s k hk, Cut.get_at s (k + 1) k1, Cut.cls_F1 _ _ _ _ _ (by omega) (by omega), if_neg (by omega)]
  rfl
theorem wd_F1_hi1 (s : ByteArray) (k : Nat) (hk : k < s.size) (a0 : 241 ≤ (s[k].toNat : Int)) (b0 : (s[k].toNat : Int) ≤ 243) (k1 : k + 1 < s.size) (h : 191 < (s[k + 1].toNat : Int)) : ((wd s k : Nat) : Int) = 1 := by
  rw [Cut.wd_cls, Cut.get_at s k hk, Cut.get_at s (k + 1) k1, Cut.cls_F1 _ _ _ _ _ (by omega) (by omega), if_neg (by omega)]
  rfl
theorem wd_F1_lo2 (s : ByteArray) (k : Nat) (hk : k < s.size) (a0 : 241 ≤ (s[k].toNat : Int)) (b0 : (s[k].toNat : Int) ≤ 243) (k2 : k + 2 < s.size) (h : (s[k + 2].toNat : Int) < 128) : ((wd s k : Nat) : Int) = 1 := by
  rw [Cut.wd_cls, Cut.get_at s k hk, Cut.get_at s (k + 2) k2, Cut.cls_F1 _ _ _ _ _ (by omega) (by omega), if_neg (by omega)]
  rfl
theorem wd_F1_hi2 (s : ByteArray) (k : Nat) (hk : k < s.size) (a0 : 241 ≤ (s[k].toNat : Int)) (b0 : (s[k].toNat : Int) ≤ 243) (k2 : k + 2 < s.size) (h : 191 < (s[k + 2].toNat : Int)) : ((wd s k : Nat) : Int) = 1 := by
  rw [Cut.wd_cls, Cut.get_at s k hk, Cut.get_at s (k + 2) k2, Cut.cls_F1 _ _ _ _ _ (by omega) (by omega), if_neg (by omega)]
  rfl
theorem wd_F1_lo3 (s : ByteArray) (k : Nat) (hk : k < s.size) (a0 : 241 ≤ (s[k].toNat : Int)) (b0 : (s[k].toNat : Int) ≤ 243) (k3 : k + 3 < s.size) (h : (s[k + 3].toNat : Int) < 128) : ((wd s k : Nat) : Int) = 1 := by
  rw [Cut.wd_cls, Cut.get_at s k hk, Cut.get_at s (k + 3) k3, Cut.cls_F1 _ _ _ _ _ (by omega) (by omega), if_neg (by omega)]
  rfl
theorem wd_F1_hi3 (s : ByteArray) (k : Nat) (hk : k < s.size) (a0 : 241 ≤ (s[k].toNat : Int)) (b0 : (s[k].toNat : Int) ≤ 243) (k3 : k + 3 < s.size) (h : 191 < (s[k + 3].toNat : Int)) : ((wd s k : Nat) : Int) = 1 := by
  rw [Cut.wd_cls, Cut.get_at s k hk, Cut.get_at s (k + 3) k3, Cut.cls_F1 _ _ _ _ _ (by omega) (by omega), if_neg (by omega)]
  rfl
theorem wd_F4_yes (s : ByteArray) (k : Nat) (hk : k < s.size) (a0 : 244 ≤ (s[k].toNat : Int)) (b0 : (s[k].toNat : Int) ≤ 244) (k1 : k + 1 < s.size) (a1 : 128 ≤ (s[k + 1].toNat : Int)) (b1 : (s[k + 1].toNat : Int) ≤ 143) (k2 : k + 2 < s.size) (a2 : 128 ≤ (s[k + 2].toNat : Int)) (b2 : (s[k + 2].toNat : Int) ≤ 191) (k3 : k + 3 < s.size) (a3 : 128 ≤ (s[k + 3].toNat : Int)) (b3 : (s[k + 3].toNat : Int) ≤ 191) : ((wd s k : Nat) : Int) = 4 := by
  rw [Cut.wd_cls, Cut.get_at s k hk, Cut.get_at s (k + 1) k1, Cut.get_at s (k + 2) k2, Cut.get_at s (k + 3) k3, Cut.cls_F4 _ _ _ _ _ (by omega) (by omega), if_pos (by omega)]
  rfl
theorem wd_F4_short (s : ByteArray) (k : Nat) (hk : k < s.size) (a0 : 244 ≤ (s[k].toNat : Int)) (b0 : (s[k].toNat : Int) ≤ 244) (h : (s.size : Int) - k < 4) : ((wd s k : Nat) : Int) = 1 := by
  rw [Cut.wd_cls, Cut.get_at s k hk, Cut.cls_F4 _ _ _ _ _ (by omega) (by omega), if_neg (by omega)]
  rfl
theorem wd_F4_lo1 (s : ByteArray) (k : Nat) (hk : k < s.size) (a0 : 244 ≤ (s[k].toNat : Int)) (b0 : (s[k].toNat : Int) ≤ 244) (k1 : k + 1 < s.size) (h : (s[k + 1].toNat : Int) < 128) : ((wd s k : Nat) : Int) = 1 := by
  rw [Cut.wd_cls, Cut.get_at s k hk, Cut.get_at s (k + 1) k1, Cut.cls_F4 _ _ _ _ _ (by omega) (by omega), if_neg (by omega)]
  rfl
theorem wd_F4_hi1 (s : ByteArray) (k : Nat) (hk : k < s.size) (a0 : 244 ≤ (s[k].toNat : Int)) (b0 : (s[k].toNat : Int) ≤ 244) (k1 : k + 1 < s.size) (h : 143 < (s[k + 1].toNat : Int)) : ((wd s k : Nat) : Int) = 1 := by
  rw [Cut.wd_cls, Cut.get_at s k hk, Cut.get_at s (k + 1) k1, Cut.cls_F4 _ _ _ _ _ (by omega) (by omega), if_neg (by omega)]
  rfl
theorem wd_F4_lo2 (s : ByteArray) (k : Nat) (hk : k < s.size) (a0 : 244 ≤ (s[k].toNat : Int)) (b0 : (s[k].toNat : Int) ≤ 244) (k2 : k + 2 < s.size) (h : (s[k + 2].toNat : Int) < 128) : ((wd s k : Nat) : Int) = 1 := by
  rw [Cut.wd_cls, Cut.get_at s k hk, Cut.get_at s (k + 2) k2, Cut.cls_F4 _ _ _ _ _ (by omega) (by omega), if_neg (by omega)]
  rfl
theorem wd_F4_hi2 (s : ByteArray) (k : Nat) (hk : k < s.size) (a0 : 244 ≤ (s[k].toNat : Int)) (b0 : (s[k].toNat : Int) ≤ 244) (k2 : k + 2 < s.size) (h : 191 < (s[k + 2].toNat : Int)) : ((wd s k : Nat) : Int) = 1 := by
  rw [Cut.wd_cls, Cut.get_at s k hk, Cut.get_at s (k + 2) k2, Cut.cls_F4 _ _ _ _ _ (by omega) (by omega), if_neg (by omega)]
  rfl
theorem wd_F4_lo3 (s : ByteArray) (k : Nat) (hk : k < s.size) (a0 : 244 ≤ (s[k].toNat : Int)) (b0 : (s[k].toNat : Int) ≤ 244) (k3 : k + 3 < s.size) (h : (s[k + 3].toNat : Int) < 128) : ((wd s k : Nat) : Int) = 1 := by
  rw [Cut.wd_cls, Cut.get_at s k hk, Cut.get_at s (k + 3) k3, Cut.cls_F4 _ _ _ _ _ (by omega) (by omega), if_neg (by omega)]
  rfl
theorem wd_F4_hi3 (s : ByteArray) (k : Nat) (hk : k < s.size) (a0 : 244 ≤ (s[k].toNat : Int)) (b0 : (s[k].toNat : Int) ≤ 244) (k3 : k + 3 < s.size) (h : 191 < (s[k + 3].toNat : Int)) : ((wd s k : Nat) : Int) = 1 := by
  rw [Cut.wd_cls, Cut.get_at s k hk, Cut.get_at s (k + 3) k3, Cut.cls_F4 _ _ _ _ _ (by omega) (by omega), if_neg (by omega)]
  rfl

set_option maxHeartbeats 1000000 in
set_option maxRecDepth 100000 in
theorem rune_A (s : ByteArray) (k : Nat) (w : World) (hs : s.size ≤ 1048576) (hk : k < s.size) (a0 : 0 ≤ (s[k].toNat : Int)) (b0 : (s[k].toNat : Int) ≤ 127) :
    Calls Edvg.prog 8 #[.string s, .int .i64 k] w fun e w' => e = .returned (.int .i64 (wd s k)) ∧ w = w' := by
  have HW : Hid (wd s k = 1) := wd_one s k hk (by omega)
  go_enter Edvg.func8, Edvg.ntmps8
  go_wp2
  go_ret
  exact ⟨ret_int' (by rw [HW.out]; rfl), rfl⟩

set_option maxHeartbeats 1000000 in
set_option maxRecDepth 100000 in
theorem rune_B (s : ByteArray) (k : Nat) (w : World) (hs : s.size ≤ 1048576) (hk : k < s.size) (a0 : 128 ≤ (s[k].toNat : Int)) (b0 : (s[k].toNat : Int) ≤ 193) :
    Calls Edvg.prog 8 #[.string s, .int .i64 k] w fun e w' => e = .returned (.int .i64 (wd s k)) ∧ w = w' := by
  have HW : Hid (wd s k = 1) := wd_one s k hk (by omega)
  go_enter Edvg.func8, Edvg.ntmps8
  go_wp2
  go_ret
  exact ⟨ret_int' (by rw [HW.out]; rfl), rfl⟩

set_option maxHeartbeats 1000000 in
set_option maxRecDepth 100000 in
theorem rune_I (s : ByteArray) (k : Nat) (w : World) (hs : s.size ≤ 1048576) (hk : k < s.size) (a0 : 245 ≤ (s[k].toNat : Int)) (b0 : (s[k].toNat : Int) ≤ 255) :
    Calls Edvg.prog 8 #[.string s, .int .i64 k] w fun e w' => e = .returned (.int .i64 (wd s k)) ∧ w = w' := by
  have HW : Hid (wd s k = 1) := wd_one s k hk (by omega)
  go_enter Edvg.func8, Edvg.ntmps8
  go_wp2
  go_ret
  exact ⟨ret_int' (by rw [HW.out]; rfl), rfl⟩

set_option maxHeartbeats 2000000 in
set_option maxRecDepth 100000 in
theorem rune_C2 (s : ByteArray) (k : Nat) (w : World) (hs : s.size ≤ 1048576) (hk : k < s.size) (a0 : 194 ≤ (s[k].toNat : Int)) (b0 : (s[k].toNat : Int) ≤ 223) :
    Calls Edvg.prog 8 #[.string s, .int .i64 k] w fun e w' => e = .returned (.int .i64 (wd s k)) ∧ w = w' := by
  go_enter Edvg.func8, Edvg.ntmps8
  go_wp2
  all_goals (
    go_ret
    refine ⟨ret_int' ?_, rfl⟩
    first | exact (wd_C2_yes s k hk a0 b0 (by omega) (by assumption) (by assumption)).symm | exact (wd_C2_short s k hk a0 b0 (by assumption)).symm | exact (wd_C2_lo1 s k hk a0 b0 (by omega) (by assumption)).symm | exact (wd_C2_hi1 s k hk a0 b0 (by omega) (by assumption)).symm)

set_option maxHeartbeats 2000000 in
set_option maxRecDepth 100000 in
theorem rune_E0 (s : ByteArray) (k : Nat) (w : World) (hs : s.size ≤ 1048576) (hk : k < s.size) (a0 : 224 ≤ (s[k].toNat : Int)) (b0 : (s[k].toNat : Int) ≤ 224) :
    Calls Edvg.prog 8 #[.string s, .int .i64 k] w fun e w' => e = .returned (.int .i64 (wd s k)) ∧ w = w' := by
  go_enter Edvg.func8, Edvg.ntmps8
  go_wp2
  all_goals (
    go_ret
    refine ⟨ret_int' ?_, rfl⟩
    first | exact (wd_E0_yes s k hk a0 b0 (by omega) (by assumption) (by assumption) (by omega) (by assumption) (by assumption)).symm | exact (wd_E0_short s k hk a0 b0 (by assumption)).symm | exact (wd_E0_lo1 s k hk a0 b0 (by omega) (by assumption)).symm | exact (wd_E0_hi1 s k hk a0 b0 (by omega) (by assumption)).symm | exact (wd_E0_lo2 s k hk a0 b0 (by omega) (by assumption)).symm | exact (wd_E0_hi2 s k hk a0 b0 (by omega) (by assumption)).symm)

set_option maxHeartbeats 2000000 in
set_option maxRecDepth 100000 in
theorem rune_E1 (s : ByteArray) (k : Nat) (w : World) (hs : s.size ≤ 1048576) (hk : k < s.size) (a0 : 225 ≤ (s[k].toNat : Int)) (b0 : (s[k].toNat : Int) ≤ 236) :
    Calls Edvg.prog 8 #[.string s, .int .i64 k] w fun e w' => e = .returned (.int .i64 (wd s k)) ∧ w = w' := by
  go_enter Edvg.func8, Edvg.ntmps8
  go_wp2
  all_goals (
    go_ret
    refine ⟨ret_int' ?_, rfl⟩
    first | exact (wd_E1_yes s k hk a0 b0 (by omega) (by assumption) (by assumption) (by omega) (by assumption) (by assumption)).symm | exact (wd_E1_short s k hk a0 b0 (by assumption)).symm | exact (wd_E1_lo1 s k hk a0 b0 (by omega) (by assumption)).symm | exact (wd_E1_hi1 s k hk a0 b0 (by omega) (by assumption)).symm | exact (wd_E1_lo2 s k hk a0 b0 (by omega) (by assumption)).symm | exact (wd_E1_hi2 s k hk a0 b0 (by omega) (by assumption)).symm)

set_option maxHeartbeats 2000000 in
set_option maxRecDepth 100000 in
theorem rune_ED (s : ByteArray) (k : Nat) (w : World) (hs : s.size ≤ 1048576) (hk : k < s.size) (a0 : 237 ≤ (s[k].toNat : Int)) (b0 : (s[k].toNat : Int) ≤ 237) :
    Calls Edvg.prog 8 #[.string s, .int .i64 k] w fun e w' => e = .returned (.int .i64 (wd s k)) ∧ w = w' := by
  go_enter Edvg.func8, Edvg.ntmps8
  go_wp2
  all_goals (
    go_ret
    refine ⟨ret_int' ?_, rfl⟩
    first | exact (wd_ED_yes s k hk a0 b0 (by omega) (by assumption) (by assumption) (by omega) (by assumption) (by assumption)).symm | exact (wd_ED_short s k hk a0 b0 (by assumption)).symm | exact (wd_ED_lo1 s k hk a0 b0 (by omega) (by assumption)).symm | exact (wd_ED_hi1 s k hk a0 b0 (by omega) (by assumption)).symm | exact (wd_ED_lo2 s k hk a0 b0 (by omega) (by assumption)).symm | exact (wd_ED_hi2 s k hk a0 b0 (by omega) (by assumption)).symm)

set_option maxHeartbeats 2000000 in
set_option maxRecDepth 100000 in
theorem rune_EE (s : ByteArray) (k : Nat) (w : World) (hs : s.size ≤ 1048576) (hk : k < s.size) (a0 : 238 ≤ (s[k].toNat : Int)) (b0 : (s[k].toNat : Int) ≤ 239) :
    Calls Edvg.prog 8 #[.string s, .int .i64 k] w fun e w' => e = .returned (.int .i64 (wd s k)) ∧ w = w' := by
  go_enter Edvg.func8, Edvg.ntmps8
  go_wp2
  all_goals (
    go_ret
    refine ⟨ret_int' ?_, rfl⟩
    first | exact (wd_EE_yes s k hk a0 b0 (by omega) (by assumption) (by assumption) (by omega) (by assumption) (by assumption)).symm | exact (wd_EE_short s k hk a0 b0 (by assumption)).symm | exact (wd_EE_lo1 s k hk a0 b0 (by omega) (by assumption)).symm | exact (wd_EE_hi1 s k hk a0 b0 (by omega) (by assumption)).symm | exact (wd_EE_lo2 s k hk a0 b0 (by omega) (by assumption)).symm | exact (wd_EE_hi2 s k hk a0 b0 (by omega) (by assumption)).symm)

set_option maxHeartbeats 2000000 in
set_option maxRecDepth 100000 in
theorem rune_F0 (s : ByteArray) (k : Nat) (w : World) (hs : s.size ≤ 1048576) (hk : k < s.size) (a0 : 240 ≤ (s[k].toNat : Int)) (b0 : (s[k].toNat : Int) ≤ 240) :
    Calls Edvg.prog 8 #[.string s, .int .i64 k] w fun e w' => e = .returned (.int .i64 (wd s k)) ∧ w = w' := by
  go_enter Edvg.func8, Edvg.ntmps8
  go_wp2
  all_goals (
    go_ret
    refine ⟨ret_int' ?_, rfl⟩
    first | exact (wd_F0_yes s k hk a0 b0 (by omega) (by assumption) (by assumption) (by omega) (by assumption) (by assumption) (by omega) (by assumption) (by assumption)).symm | exact (wd_F0_short s k hk a0 b0 (by assumption)).symm | exact (wd_F0_lo1 s k hk a0 b0 (by omega) (by assumption)).symm | exact (wd_F0_hi1 s k hk a0 b0 (by omega) (by assumption)).symm | exact (wd_F0_lo2 s k hk a0 b0 (by omega) (by assumption)).symm | exact (wd_F0_hi2 s k hk a0 b0 (by omega) (by assumption)).symm | exact (wd_F0_lo3 s k hk a0 b0 (by omega) (by assumption)).symm | exact (wd_F0_hi3 s k hk a0 b0 (by omega) (by assumption)).symm)

set_option maxHeartbeats 2000000 in
set_option maxRecDepth 100000 in
theorem rune_F1 (s : ByteArray) (k : Nat) (w : World) (hs : s.size ≤ 1048576) (hk : k < s.size) (a0 : 241 ≤ (s[k].toNat : Int)) (b0 : (s[k].toNat : Int) ≤ 243) :
    Calls Edvg.prog 8 #[.string s, .int .i64 k] w fun e w' => e = .returned (.int .i64 (wd s k)) ∧ w = w' := by
  go_enter Edvg.func8, Edvg.ntmps8
  go_wp2
  all_goals (
    go_ret
    refine ⟨ret_int' ?_, rfl⟩
    first | exact (wd_F1_yes s k hk a0 b0 (by omega) (by assumption) (by assumption) (by omega) (by assumption) (by assumption) (by omega) (by assumption) (by assumption)).symm | exact (wd_F1_short s k hk a0 b0 (by assumption)).symm | exact (wd_F1_lo1 s k hk a0 b0 (by omega) (by assumption)).symm | exact (wd_F1_hi1 s k hk a0 b0 (by omega) (by assumption)).symm | exact (wd_F1_lo2 s k hk a0 b0 (by omega) (by assumption)).symm | exact (wd_F1_hi2 s k hk a0 b0 (by omega) (by assumption)).symm | exact (wd_F1_lo3 s k hk a0 b0 (by omega) (by assumption)).symm | exact (wd_F1_hi3 s k hk a0 b0 (by omega) (by assumption)).symm)

set_option maxHeartbeats 2000000 in
set_option maxRecDepth 100000 in
theorem rune_F4 (s : ByteArray) (k : Nat) (w : World) (hs : s.size ≤ 1048576) (hk : k < s.size) (a0 : 244 ≤ (s[k].toNat : Int)) (b0 : (s[k].toNat : Int) ≤ 244) :
    Calls Edvg.prog 8 #[.string s, .int .i64 k] w fun e w' => e = .returned (.int .i64 (wd s k)) ∧ w = w' := by
  go_enter Edvg.func8, Edvg.ntmps8
  go_wp2
  all_goals (
    go_ret
    refine ⟨ret_int' ?_, rfl⟩
    first | exact (wd_F4_yes s k hk a0 b0 (by omega) (by assumption) (by assumption) (by omega) (by assumption) (by assumption) (by omega) (by assumption) (by assumption)).symm | exact (wd_F4_short s k hk a0 b0 (by assumption)).symm | exact (wd_F4_lo1 s k hk a0 b0 (by omega) (by assumption)).symm | exact (wd_F4_hi1 s k hk a0 b0 (by omega) (by assumption)).symm | exact (wd_F4_lo2 s k hk a0 b0 (by omega) (by assumption)).symm | exact (wd_F4_hi2 s k hk a0 b0 (by omega) (by assumption)).symm | exact (wd_F4_lo3 s k hk a0 b0 (by omega) (by assumption)).symm | exact (wd_F4_hi3 s k hk a0 b0 (by omega) (by assumption)).symm)

theorem runeLen (s : ByteArray) (k : Nat) (w : World) (hs : s.size ≤ 1048576) (hk : k < s.size) :
    Calls Edvg.prog 8 #[.string s, .int .i64 k] w fun e w' => e = .returned (.int .i64 (wd s k)) ∧ w = w' := by
  have h256 := s[k].toNat_lt
  by_cases hA : (s[k].toNat : Int) ≤ 127
  · exact rune_A s k w hs hk (by omega) hA
  by_cases hB : (s[k].toNat : Int) ≤ 193
  · exact rune_B s k w hs hk (by omega) hB
  by_cases hC2 : (s[k].toNat : Int) ≤ 223
  · exact rune_C2 s k w hs hk (by omega) hC2
  by_cases hE0 : (s[k].toNat : Int) ≤ 224
  · exact rune_E0 s k w hs hk (by omega) hE0
  by_cases hE1 : (s[k].toNat : Int) ≤ 236
  · exact rune_E1 s k w hs hk (by omega) hE1
  by_cases hED : (s[k].toNat : Int) ≤ 237
  · exact rune_ED s k w hs hk (by omega) hED
  by_cases hEE : (s[k].toNat : Int) ≤ 239
  · exact rune_EE s k w hs hk (by omega) hEE
  by_cases hF0 : (s[k].toNat : Int) ≤ 240
  · exact rune_F0 s k w hs hk (by omega) hF0
  by_cases hF1 : (s[k].toNat : Int) ≤ 243
  · exact rune_F1 s k w hs hk (by omega) hF1
  by_cases hF4 : (s[k].toNat : Int) ≤ 244
  · exact rune_F4 s k w hs hk (by omega) hF4
  exact rune_I s k w hs hk (by omega) (by omega)
end Go.Proofs.Yoedvw
