/- THE PLAIN PART of fmtInteger: digits, zeros, marks and sign, as lists of bytes. No walk, no program. -/
namespace Go.Proofs.YoedvwDoor

/-- A table of digits as the law hands it in: seventeen ASCII bytes, the first ten of them the decimal digits. -/
structure Digs (D : ByteArray) : Prop where
  sz : D.size = 17
  ten : ∀ d, d < 10 → (D.get! d).toNat = 48 + d
  asc : ∀ d, d < 17 → (D.get! d).toNat < 128

/-- u in base 'base', the most significant digit first (k rounds at the most). -/
def repr (D : ByteArray) (base : Nat) : Nat → Nat → List UInt8
  | 0, u => [D.get! u]
  | k + 1, u => if u < base then [D.get! u] else repr D base k (u / base) ++ [D.get! (u % base)]

theorem repr_small (D : ByteArray) (base k u : Nat) (h : u < base) : repr D base k u = [D.get! u] := by
  cases k with
  | zero => rfl
  | succ k => unfold repr; rw [if_pos h]
theorem repr_step (D : ByteArray) (base k u : Nat) (h : ¬ u < base) : repr D base (k + 1) u = repr D base k (u / base) ++ [D.get! (u % base)] := by
  rw [repr, if_neg h]
theorem repr_pos (D : ByteArray) (base k u : Nat) : 1 ≤ (repr D base k u).length := by
  cases k with
  | zero => simp [repr]
  | succ k =>
    unfold repr
    split <;> simp
theorem repr_le (D : ByteArray) (base : Nat) (hb : 2 ≤ base) : ∀ (m k u : Nat), u < base ^ (m + 1) → (repr D base k u).length ≤ m + 1
  | m, 0, u, _ => by simp [repr]
  | m, k + 1, u, h => by
    by_cases hu : u < base
    · rw [repr_small D base _ u hu]; simp
    · rw [repr_step D base k u hu, List.length_append, List.length_singleton]
      cases m with
      | zero => simp at h; omega
      | succ m =>
        have : u / base < base ^ (m + 1) := by
          rw [Nat.div_lt_iff_lt_mul (by omega)]
          rw [Nat.pow_succ] at h; exact h
        have := repr_le D base hb m k (u / base) this
        omega

def withZeros (p : Int) (ds : List UInt8) : List UInt8 := List.replicate (p - ds.length).toNat 48 ++ ds
def sharpT (D : ByteArray) (base : Nat) (sh : Bool) (n : List UInt8) : List UInt8 :=
  if sh = false then n else if base = 2 then 48 :: 98 :: n else if base = 8 then (if n.head? = some 48 then n else 48 :: n) else if base = 16 then 48 :: D.get! 16 :: n else n
def verbT (o : Bool) (n : List UInt8) : List UInt8 := if o then 48 :: 111 :: n else n
def signT (neg pl sp : Bool) (n : List UInt8) : List UInt8 := if neg then 45 :: n else if pl then 43 :: n else if sp then 32 :: n else n

/-- How many digits the text has at the least. -/
def precOf (pp : Bool) (prec : Int) (ze wp : Bool) (wid : Int) (neg pl sp : Bool) : Int :=
  if pp then prec else if ze && wp then (if neg || pl || sp then wid - 1 else wid) else 0

/-- The scratch's length. -/
def bufLen (wp pp : Bool) (wid prec : Nat) : Nat := if (wp || pp) = true ∧ 68 < 3 + wid + prec then 3 + wid + prec else 68

theorem repr_len (D : ByteArray) (base u : Nat) (hu : u < 18446744073709551616) (hb : base = 2 ∨ base = 8 ∨ base = 10 ∨ base = 16) :
    1 ≤ (repr D base 64 u).length ∧ (repr D base 64 u).length ≤ 64 ∧ (base = 8 → (repr D base 64 u).length ≤ 22) := by
  refine ⟨repr_pos _ _ _ _, ?_, ?_⟩
  · have h2 : u < base ^ (63 + 1) := by
      rcases hb with rfl | rfl | rfl | rfl
      · exact Nat.lt_of_lt_of_le hu (by decide)
      · exact Nat.lt_of_lt_of_le hu (by decide)
      · exact Nat.lt_of_lt_of_le hu (by decide)
      · exact Nat.lt_of_lt_of_le hu (by decide)
    exact repr_le D base (by omega) 63 64 u h2
  · rintro rfl
    exact repr_le D 8 (by omega) 21 64 u (Nat.lt_of_lt_of_le hu (by decide))

theorem withZeros_len (p : Int) (ds : List UInt8) : (withZeros p ds).length = (p - ds.length).toNat + ds.length := by simp [withZeros]

/-- The whole text fits the scratch. -/
theorem fits (D : ByteArray) (base u : Nat) (hu : u < 18446744073709551616) (hb : base = 2 ∨ base = 8 ∨ base = 10 ∨ base = 16) (o : Bool) (ho : o = true → base = 8)
    (wp pp : Bool) (wid prec : Nat) (ze neg pl sp sh : Bool) (n0 n1 n2 n3 : List UInt8) (h0 : n0 = withZeros (precOf pp prec ze wp wid neg pl sp) (repr D base 64 u)) (h1 : n1 = sharpT D base sh n0) (h2 : n2 = verbT o n1) (h3 : n3 = signT neg pl sp n2) :
    1 ≤ n0.length ∧ n0.length ≤ n1.length ∧ n1.length ≤ n2.length ∧ n2.length ≤ n3.length ∧ n3.length ≤ bufLen wp pp wid prec := by
  obtain ⟨l1, l2, l3⟩ := repr_len D base u hu hb
  have e0 := withZeros_len (precOf pp prec ze wp wid neg pl sp) (repr D base 64 u)
  rw [← h0] at e0
  have e3 : n2.length ≤ n3.length ∧ n3.length ≤ n2.length + 1 := by
    rw [h3]; unfold signT
    repeat' split
    all_goals simp
  have e2 : n1.length ≤ n2.length ∧ n2.length ≤ n1.length + 2 ∧ (base ≠ 8 → n2.length = n1.length) := by
    rw [h2]; unfold verbT
    cases o with
    | true => simp [ho rfl]; omega
    | false => simp
  have hp : precOf pp prec ze wp wid neg pl sp ≤ 0 ∨ ((wp || pp) = true ∧ precOf pp prec ze wp wid neg pl sp ≤ wid + prec) := by
    unfold precOf
    cases pp <;> cases ze <;> cases wp <;> simp <;> (try split) <;> (try omega)
  have e1 : n0.length ≤ n1.length ∧ n1.length ≤ n0.length + 2 ∧ (base = 10 → n1.length = n0.length) ∧ (base = 8 → n1.length = n0.length ∨ (n1.length = n0.length + 1 ∧ n0.length ≤ 22)) := by
    rw [h1]; unfold sharpT
    by_cases hs : sh = false
    · rw [if_pos hs]; omega
    · rw [if_neg hs]
      by_cases b2 : base = 2
      · rw [if_pos b2]; simp; omega
      · rw [if_neg b2]
        by_cases b8 : base = 8
        · rw [if_pos b8]
          by_cases hh : n0.head? = some 48
          · rw [if_pos hh]; omega
          · rw [if_neg hh]
            have : (precOf pp prec ze wp wid neg pl sp - (repr D base 64 u).length).toNat = 0 := by
              apply Classical.byContradiction
              intro hne
              obtain ⟨m, hm⟩ : ∃ m, (precOf pp prec ze wp wid neg pl sp - (repr D base 64 u).length).toNat = m + 1 := ⟨_, (Nat.succ_pred_eq_of_ne_zero hne).symm⟩
              apply hh
              rw [h0]; unfold withZeros; rw [hm]; simp [List.replicate_succ]
            have := l3 b8
            simp; omega
        · rw [if_neg b8]
          by_cases b16 : base = 16
          · rw [if_pos b16]; simp; omega
          · rw [if_neg b16]; omega
  refine ⟨by omega, by omega, by omega, by omega, ?_⟩
  unfold bufLen
  split
  · rename_i hc
    rcases hb with rfl | rfl | rfl | rfl <;> simp at e1 e2 l3 <;> omega
  · rename_i hc
    rcases hp with hp | ⟨hw, hp⟩
    · rcases hb with rfl | rfl | rfl | rfl <;> simp at e1 e2 l3 <;> omega
    · have : ¬ 68 < 3 + wid + prec := fun e => hc ⟨hw, e⟩
      rcases hb with rfl | rfl | rfl | rfl <;> simp at e1 e2 l3 <;> omega
end Go.Proofs.YoedvwDoor
