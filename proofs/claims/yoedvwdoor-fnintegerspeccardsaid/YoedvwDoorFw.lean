/- THE PLAIN PART of zzRepr: the digits from the left, by falling powers of the base. -/
import Derived.Test.YoedvwDoorNum
namespace Go.Proofs.YoedvwDoor
set_option linter.unusedVariables false

/-- j + 1 digits, by the powers base ^ j, .., base ^ 0. -/
def fw (D : ByteArray) (base : Nat) : Nat → Nat → List UInt8
  | 0, u => [D.get! u]
  | j + 1, u => D.get! (u / base ^ (j + 1)) :: fw D base j (u % base ^ (j + 1))

theorem fw_snoc (D : ByteArray) (base : Nat) (hb : 0 < base) : ∀ j u, fw D base (j + 1) u = fw D base j (u / base) ++ [D.get! (u % base)]
  | 0, u => by simp [fw]
  | j + 1, u => by
    rw [fw, fw_snoc D base hb j (u % base ^ (j + 2)), fw]
    have e1 : base ^ (j + 2) = base * base ^ (j + 1) := by rw [Nat.pow_succ, Nat.mul_comm]
    have e2 : u / base / base ^ (j + 1) = u / base ^ (j + 2) := by rw [Nat.div_div_eq_div_mul, e1]
    have e3 : u % base ^ (j + 2) / base = u / base % base ^ (j + 1) := by rw [e1, Nat.mod_mul_right_div_self]
    have e4 : u % base ^ (j + 2) % base = u % base := Nat.mod_mod_of_dvd _ ⟨base ^ (j + 1), e1⟩
    rw [e2, e3, e4]; rfl

theorem fw_repr (D : ByteArray) (base : Nat) (hb : 2 ≤ base) : ∀ k j u, u < base ^ (j + 1) → (j = 0 ∨ base ^ j ≤ u) → j ≤ k → fw D base j u = repr D base k u
  | k, 0, u, h1, h2, h3 => by
    rw [repr_small D base k u (by simpa using h1)]; rfl
  | 0, j + 1, u, h1, h2, h3 => by omega
  | k + 1, j + 1, u, h1, h2, h3 => by
    have hp : base ^ (j + 1) ≤ u := by rcases h2 with e | e; omega; exact e
    have hge : base ≤ u := by
      have : base ^ 1 ≤ base ^ (j + 1) := Nat.pow_le_pow_right (by omega) (by omega)
      simp at this; omega
    rw [fw_snoc D base (by omega) j u, repr_step D base k u (by omega)]
    rw [fw_repr D base hb k j (u / base) ?_ ?_ (by omega)]
    · rw [Nat.div_lt_iff_lt_mul (by omega), ← Nat.pow_succ]; exact h1
    · by_cases hj : j = 0
      · exact Or.inl hj
      · refine Or.inr ?_
        rw [Nat.le_div_iff_mul_le (by omega), ← Nat.pow_succ]; exact hp
theorem fw_len (D : ByteArray) (base : Nat) : ∀ j u, (fw D base j u).length = j + 1
  | 0, u => rfl
  | j + 1, u => by rw [fw, List.length_cons, fw_len D base j]
theorem pow_lt64 (base : Nat) (hb : 2 ≤ base) (j u : Nat) (h : base ^ j ≤ u) (hu : u < 18446744073709551616) : j < 64 := by
  apply Classical.byContradiction
  intro hj
  have h1 : (2 : Nat) ^ 64 ≤ base ^ 64 := Nat.pow_le_pow_left hb 64
  have h2 : base ^ 64 ≤ base ^ j := Nat.pow_le_pow_right (by omega) (by omega)
  have e : (2 : Nat) ^ 64 = 18446744073709551616 := by decide
  omega
end Go.Proofs.YoedvwDoor
