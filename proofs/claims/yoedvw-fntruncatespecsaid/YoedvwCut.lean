/- THE PLAIN PART: how many bytes the first n runes of a string take up. No Go in sight but the model's own decoding of a rune. -/
import GoSem.Core.Utf8
import Derived.Lib.DecodeN
namespace Go.Proofs.Yoedvw.Cut
open Go

/-- The width, in bytes, of the rune at a place. -/
def wd (s : ByteArray) (pos : Nat) : Nat := (Utf8.decode s pos).2

/-- The place behind n runes from 'pos' on (the string's end, if there are fewer). -/
def cutN (s : ByteArray) : Nat → Nat → Nat
  | 0, pos => pos
  | n + 1, pos => if pos < s.size then cutN s n (pos + wd s pos) else pos

theorem decodeN_wd (n b0 b1 b2 b3 : Nat) : 1 ≤ (Lib.decodeN n b0 b1 b2 b3).2 ∧ (1 ≤ n → (Lib.decodeN n b0 b1 b2 b3).2 ≤ n) := by
  unfold Lib.decodeN
  repeat' split
  all_goals (dsimp only; constructor <;> (try intro _) <;> omega)

theorem wd_pos (s : ByteArray) (pos : Nat) : 1 ≤ wd s pos := by
  unfold wd; rw [Lib.decode_at]; exact (decodeN_wd _ _ _ _ _).1

theorem wd_le (s : ByteArray) (pos : Nat) (h : pos < s.size) : pos + wd s pos ≤ s.size := by
  have : wd s pos ≤ s.size - pos := by unfold wd; rw [Lib.decode_at]; exact (decodeN_wd _ _ _ _ _).2 (by omega)
  omega

theorem cutN_ge (s : ByteArray) (n pos : Nat) : pos ≤ cutN s n pos := by
  induction n generalizing pos with
  | zero => exact Nat.le_refl _
  | succ n ih =>
    unfold cutN
    split
    · have := ih (pos + wd s pos); omega
    · exact Nat.le_refl _

theorem cutN_le (s : ByteArray) (n pos : Nat) (h : pos ≤ s.size) : cutN s n pos ≤ s.size := by
  induction n generalizing pos with
  | zero => exact h
  | succ n ih =>
    unfold cutN
    split
    · exact ih _ (wd_le s pos (by assumption))
    · exact h

theorem cutN_end (s : ByteArray) (n pos : Nat) (h : ¬ pos < s.size) : cutN s n pos = pos := by
  cases n with
  | zero => rfl
  | succ n => unfold cutN; rw [if_neg h]

theorem cutN_mono (s : ByteArray) (n m pos : Nat) (h : n ≤ m) : cutN s n pos ≤ cutN s m pos := by
  induction n generalizing pos m with
  | zero => exact cutN_ge s m pos
  | succ n ih =>
    cases m with
    | zero => omega
    | succ m =>
      unfold cutN
      split
      · exact ih m _ (by omega)
      · exact Nat.le_refl _

/-- The n bytes at hand being fewer, but enough for the rune, it decodes to the same width. -/
theorem decodeN_less (n m b0 b1 b2 b3 c1 c2 c3 : Nat) (hm : (Lib.decodeN n b0 b1 b2 b3).2 ≤ m) (hn : m ≤ n)
    (e1 : 1 < m → c1 = b1) (e2 : 2 < m → c2 = b2) (e3 : 3 < m → c3 = b3) :
    (Lib.decodeN m b0 c1 c2 c3).2 = (Lib.decodeN n b0 b1 b2 b3).2 := by
  have key : ∀ a : Nat, a < 4 → (a = 0 → m ≤ 1) → (a = 1 → m = 2) → (a = 2 → m = 3) → (a = 3 → 3 < m) → (Lib.decodeN m b0 c1 c2 c3).2 = (Lib.decodeN n b0 b1 b2 b3).2 := by
    intro a ha a0 a1 a2 a3
    have hc : a = 0 ∨ a = 1 ∨ a = 2 ∨ a = 3 := by omega
    rcases hc with rfl | rfl | rfl | rfl
    · have := a0 rfl
      revert hm
      unfold Lib.decodeN
      repeat' split
      all_goals (dsimp only; intro hm; first | rfl | omega)
    · have := a1 rfl
      obtain rfl := e1 (by omega)
      revert hm
      unfold Lib.decodeN
      repeat' split
      all_goals (dsimp only; intro hm; first | rfl | omega)
    · have := a2 rfl
      obtain rfl := e1 (by omega)
      obtain rfl := e2 (by omega)
      revert hm
      unfold Lib.decodeN
      repeat' split
      all_goals (dsimp only; intro hm; first | rfl | omega)
    · have := a3 rfl
      obtain rfl := e1 (by omega)
      obtain rfl := e2 (by omega)
      obtain rfl := e3 (by omega)
      revert hm
      unfold Lib.decodeN
      repeat' split
      all_goals (dsimp only; intro hm; first | rfl | omega)
  by_cases h1 : m ≤ 1
  · exact key 0 (by omega) (fun _ => h1) (by omega) (by omega) (by omega)
  · by_cases h2 : m = 2
    · exact key 1 (by omega) (by omega) (fun _ => h2) (by omega) (by omega)
    · by_cases h3 : m = 3
      · exact key 2 (by omega) (by omega) (by omega) (fun _ => h3) (by omega)
      · exact key 3 (by omega) (by omega) (by omega) (by omega) (fun _ => by omega)

theorem get_at (s : ByteArray) (j : Nat) (h : j < s.size) : s.get! j = s[j] := by
  simp [ByteArray.get!, getElem!_pos, h]
  rfl
theorem get_extract (s : ByteArray) (k j : Nat) (h : j < k) (hk : k ≤ s.size) : (s.extract 0 k).get! j = s.get! j := by
  have hj : j < (s.extract 0 k).size := by simp; omega
  have hj' : j < s.size := by omega
  rw [get_at _ j hj, get_at _ j hj', ByteArray.getElem_extract]
  simp

theorem wd_head (s : ByteArray) (k pos : Nat) (h : pos + wd s pos ≤ k) (hk : k ≤ s.size) : wd (s.extract 0 k) pos = wd s pos := by
  have hp := wd_pos s pos
  revert h hp
  unfold wd
  rw [Lib.decode_at, Lib.decode_at]
  have hs : (s.extract 0 k).size = k := by simp; omega
  rw [hs]
  intro h hp
  rw [get_extract s k pos (by omega) hk]
  refine decodeN_less _ _ _ _ _ _ _ _ _ (by omega) (by omega) (fun _ => ?_) (fun _ => ?_) (fun _ => ?_)
  · rw [get_extract s k _ (by omega) hk]
  · rw [get_extract s k _ (by omega) hk]
  · rw [get_extract s k _ (by omega) hk]

theorem cutN_head (s : ByteArray) (k n pos : Nat) (hk : k ≤ s.size) (h : cutN s n pos ≤ k) : cutN (s.extract 0 k) n pos = cutN s n pos := by
  induction n generalizing pos with
  | zero => rfl
  | succ n ih =>
    have hs : (s.extract 0 k).size = k := by simp; omega
    revert h
    unfold cutN
    rw [hs]
    intro h
    by_cases hp : pos < s.size
    · rw [if_pos hp] at h ⊢
      have h1 := cutN_ge s n (pos + wd s pos)
      have h2 := wd_pos s pos
      rw [if_pos (by omega), wd_head s k pos (by omega) hk]
      exact ih _ h
    · rw [if_neg hp] at h ⊢
      rw [if_neg (by omega)]

theorem extract_all (s : ByteArray) : s.extract 0 s.size = s := by simp
theorem extract_extract (s : ByteArray) (k j : Nat) (h : j ≤ k) : (s.extract 0 k).extract 0 j = s.extract 0 j := by
  rw [ByteArray.extract_extract]; congr 1; omega
theorem size_extract (s : ByteArray) (k : Nat) (hk : k ≤ s.size) : (s.extract 0 k).size = k := by simp; omega
end Go.Proofs.Yoedvw.Cut
