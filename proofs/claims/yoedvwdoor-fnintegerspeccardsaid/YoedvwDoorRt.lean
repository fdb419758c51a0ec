/- THE PLAIN PART of the round trip: the digits as numbers, and their value. -/
import Derived.Test.YoedvwDoorNum
namespace Go.Proofs.YoedvwDoor
set_option linter.unusedVariables false

def lowD : ByteArray := ⟨#[48, 49, 50, 51, 52, 53, 54, 55, 56, 57, 97, 98, 99, 100, 101, 102, 120]⟩
def uppD : ByteArray := ⟨#[48, 49, 50, 51, 52, 53, 54, 55, 56, 57, 65, 66, 67, 68, 69, 70, 88]⟩
/-- No two of the first sixteen are one. -/
def Inj (D : ByteArray) : Prop := ∀ i, i < 16 → ∀ j, j < 16 → (D.get! i).toNat = (D.get! j).toNat → i = j

theorem low_digs : Digs lowD := ⟨by decide, by decide, by decide⟩
theorem upp_digs : Digs uppD := ⟨by decide, by decide, by decide⟩
theorem low_inj : Inj lowD := by unfold Inj; decide
theorem upp_inj : Inj uppD := by unfold Inj; decide

def reprN (base : Nat) : Nat → Nat → List Nat
  | 0, u => [u]
  | k + 1, u => if u < base then [u] else reprN base k (u / base) ++ [u % base]

theorem repr_map (D : ByteArray) (base : Nat) : ∀ k u, repr D base k u = (reprN base k u).map D.get!
  | 0, u => rfl
  | k + 1, u => by
    unfold repr reprN
    split
    · rfl
    · rw [repr_map D base k (u / base), List.map_append]; rfl

def horner (base : Nat) (l : List Nat) : Nat := l.foldl (fun a d => a * base + d) 0
theorem horner_snoc (base : Nat) (l : List Nat) (d : Nat) : horner base (l ++ [d]) = horner base l * base + d := by simp [horner]
theorem horner_repr (base : Nat) : ∀ k u, horner base (reprN base k u) = u
  | 0, u => by simp [reprN, horner]
  | k + 1, u => by
    unfold reprN
    split
    · simp [horner]
    · rw [horner_snoc, horner_repr base k (u / base)]
      exact Nat.div_add_mod' u base
theorem horner_zero (base : Nat) (l : List Nat) : horner base (0 :: l) = horner base l := by simp [horner]
theorem reprN_lt (base : Nat) (hb : 2 ≤ base) : ∀ k u, u < 2 ^ k → ∀ d ∈ reprN base k u, d < base
  | 0, u, hu, d, hd => by simp [reprN] at hd hu; omega
  | k + 1, u, hu, d, hd => by
    unfold reprN at hd
    split at hd
    · simp at hd; omega
    · rcases List.mem_append.1 hd with h | h
      · refine reprN_lt base hb k (u / base) ?_ d h
        rw [Nat.div_lt_iff_lt_mul (by omega)]
        rw [Nat.pow_succ] at hu
        exact Nat.lt_of_lt_of_le hu (Nat.mul_le_mul_left _ hb)
      · simp at h; subst h; exact Nat.mod_lt _ (by omega)
theorem reprN_ne (base k u : Nat) : reprN base k u ≠ [] := by
  cases k with
  | zero => simp [reprN]
  | succ k => unfold reprN; split <;> simp
/-- A leading zero is the number 0, alone. -/
theorem reprN_head (base : Nat) (hb : 2 ≤ base) : ∀ k u (d : Nat) (r : List Nat), reprN base k u = d :: r → d = 0 → u = 0 ∧ r = []
  | 0, u, d, r, h, hd => by simp [reprN] at h; exact ⟨by omega, h.2⟩
  | k + 1, u, d, r, h, hd => by
    unfold reprN at h
    split at h
    · simp at h; exact ⟨by omega, h.2⟩
    · rename_i hlt
      cases hq : reprN base k (u / base) with
      | nil => exact absurd hq (reprN_ne _ _ _)
      | cons d' r' =>
        rw [hq] at h
        simp at h
        have := (reprN_head base hb k (u / base) d' r' hq (by omega)).1
        have h1 : 1 ≤ u / base := by rw [Nat.le_div_iff_mul_le (by omega)]; omega
        omega
theorem horner_take_le (base : Nat) (hb : 1 ≤ base) (l : List Nat) (j : Nat) : horner base (l.take j) ≤ horner base l := by
  by_cases h : l.length ≤ j
  · rw [List.take_of_length_le h]; exact Nat.le_refl _
  · have key : ∀ (m n : List Nat), horner base m ≤ horner base (m ++ n) := by
      intro m n
      induction n generalizing m with
      | nil => simp
      | cons d n ih =>
        have h1 := ih (m ++ [d])
        rw [List.append_assoc] at h1
        have h2 : horner base m ≤ horner base (m ++ [d]) := by
          rw [horner_snoc]
          have := Nat.mul_le_mul_left (horner base m) hb
          omega
        exact Nat.le_trans h2 h1
    have := key (l.take j) (l.drop j)
    rw [List.take_append_drop] at this
    exact this
theorem horner_step (base : Nat) (l : List Nat) (j : Nat) (h : j < l.length) : horner base (l.take (j + 1)) = horner base (l.take j) * base + l[j] := by
  rw [List.take_succ_eq_append_getElem h, horner_snoc]
end Go.Proofs.YoedvwDoor
