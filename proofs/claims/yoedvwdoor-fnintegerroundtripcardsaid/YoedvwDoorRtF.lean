/- WHAT IS KNOWN OF THE TEXT that the round trip reads: where its sign, its mark and its digits lie. No walk. -/
import Derived.Test.YoedvwDoorRt
import Derived.Test.YoedvwDoorIntZ
namespace Go.Proofs.YoedvwDoor
set_option linter.unusedVariables false

structure RtF (D : ByteArray) (base : Nat) (sh neg pl : Bool) (mag : Nat) (O : ByteArray) (sl st : Nat) (bd : List Nat) : Prop where
  size : O.size = st + bd.length
  pos : 1 ≤ bd.length
  small : O.size ≤ 70
  mks : st = sl + (if sh = true ∧ (base = 2 ∨ base = 16) then 2 else 0)
  sneg : neg = true → sl = 1 ∧ (O.get! 0).toNat = 45
  spl : neg = false → pl = true → sl = 1 ∧ (O.get! 0).toNat = 43
  snone : neg = false → pl = false → sl = 0 ∧ 48 ≤ (O.get! 0).toNat
  mk2 : sh = true → base = 2 → (O.get! sl).toNat = 48 ∧ (O.get! (sl + 1)).toNat = 98
  mk16 : sh = true → base = 16 → (O.get! sl).toNat = 48 ∧ O.get! (sl + 1) = D.get! 16
  bdy : ∀ j (h : j < bd.length), O.get! (st + j) = D.get! bd[j]
  lt : ∀ j (h : j < bd.length), bd[j] < base
  val : horner base bd = mag
  hd8 : sh = true → base = 8 → (O.get! st).toNat = 48
  hd : ¬ (sh = true ∧ base = 8) → (O.get! st).toNat = 48 → bd.length = 1

def sgnL (neg pl : Bool) : List UInt8 := if neg then [45] else if pl then [43] else []
def mkL (D : ByteArray) (base : Nat) (sh : Bool) : List UInt8 := if sh = true ∧ base = 2 then [48, 98] else if sh = true ∧ base = 16 then [48, D.get! 16] else []
def bodyN (base : Nat) (sh : Bool) (ds : List Nat) : List Nat := if sh = true ∧ base = 8 ∧ ds.head? ≠ some 0 then 0 :: ds else ds

theorem dig_inj0 {D : ByteArray} (hD : Digs D) (hi : Inj D) (d : Nat) (h : d < 16) : (D.get! d).toNat = 48 ↔ d = 0 := by
  constructor
  · intro e
    have h0 : (D.get! 0).toNat = 48 := hD.ten 0 (by omega)
    exact hi d h 0 (by omega) (e.trans h0.symm)
  · rintro rfl; exact hD.ten 0 (by omega)
theorem dig0 {D : ByteArray} (hD : Digs D) : D.get! 0 = 48 := UInt8.toNat.inj (hD.ten 0 (by omega))

theorem sharp_form {D : ByteArray} (hD : Digs D) (hi : Inj D) (base : Nat) (hb : base = 2 ∨ base = 8 ∨ base = 10 ∨ base = 16) (sh : Bool) (ds : List Nat) (hne : ds ≠ []) (hlt : ∀ d ∈ ds, d < 16) :
    sharpT D base sh (ds.map D.get!) = mkL D base sh ++ (bodyN base sh ds).map D.get! := by
  cases sh with
  | false => simp [sharpT, mkL, bodyN]
  | true =>
    rcases hb with rfl | rfl | rfl | rfl
    · simp [sharpT, mkL, bodyN]
    · cases ds with
      | nil => exact absurd rfl hne
      | cons d r =>
        have e1 : (D.get! d = 48) ↔ d = 0 := by
          rw [← dig_inj0 hD hi d (hlt d (by simp))]
          exact ⟨fun e => by rw [e]; rfl, fun e => UInt8.toNat.inj e⟩
        by_cases h0 : d = 0
        · simp [sharpT, mkL, bodyN, h0, dig0 hD]
        · have : ¬ D.get! d = 48 := fun e => h0 (e1.1 e)
          simp [sharpT, mkL, bodyN, h0, this, dig0 hD]
    · simp [sharpT, mkL, bodyN]
    · simp [sharpT, mkL, bodyN]

theorem out_form {D : ByteArray} (hD : Digs D) (hi : Inj D) (base : Nat) (hb : base = 2 ∨ base = 8 ∨ base = 10 ∨ base = 16) (isS pl sh : Bool) (u : Nat) (hu : u < 18446744073709551616) :
    intOut D base isS u false ⟨false, 0, false, 0, false, pl, sh, false, false⟩ 0 0 = sgnL (negOf isS u) pl ++ (mkL D base sh ++ (bodyN base sh (reprN base 64 (magOf isS u))).map D.get!) := by
  have hz : ∀ ds : List UInt8, withZeros 0 ds = ds := by
    intro ds
    have : (0 - (ds.length : Int)).toNat = 0 := by omega
    unfold withZeros; rw [this]; rfl
  have e0 : intOut D base isS u false ⟨false, 0, false, 0, false, pl, sh, false, false⟩ 0 0 = signT (negOf isS u) pl false (sharpT D base sh (withZeros 0 (repr D base 64 (magOf isS u)))) := by
    simp [intOut, padded, textOf, verbT, precOf]
  rw [e0, hz, repr_map, sharp_form hD hi base hb sh _ (reprN_ne _ _ _) (fun d hd => by
    have := reprN_lt base (by omega) 64 _ (mag_lt isS u hu) d hd
    omega)]
  unfold signT sgnL
  cases negOf isS u <;> cases pl <;> simp

theorem get_list (l : List UInt8) (j : Nat) (h : j < l.length) : (⟨l.toArray⟩ : ByteArray).get! j = l[j] := by
  show (l.toArray)[j]! = l[j]
  simp [h]

theorem low_big : ∀ d, d < 16 → 48 ≤ (lowD.get! d).toNat := by decide
theorem upp_big : ∀ d, d < 16 → 48 ≤ (uppD.get! d).toNat := by decide

theorem rt_facts {D : ByteArray} (hD : Digs D) (hi : Inj D) (hbg : ∀ d, d < 16 → 48 ≤ (D.get! d).toNat) (base : Nat) (hb : base = 2 ∨ base = 8 ∨ base = 10 ∨ base = 16) (isS pl sh : Bool) (u : Nat) (hu : u < 18446744073709551616) :
    ∃ sl st bd, RtF D base sh (negOf isS u) pl (magOf isS u) ⟨(intOut D base isS u false ⟨false, 0, false, 0, false, pl, sh, false, false⟩ 0 0).toArray⟩ sl st bd := by
  obtain ⟨neg, hneg⟩ : ∃ n, n = negOf isS u := ⟨_, rfl⟩
  obtain ⟨mag, hmag⟩ : ∃ n, n = magOf isS u := ⟨_, rfl⟩
  have hm : mag < 2 ^ 64 := by rw [hmag]; exact mag_lt isS u hu
  rw [out_form hD hi base hb isS pl sh u hu, ← hneg, ← hmag]
  obtain ⟨ds, hds⟩ : ∃ ds, ds = reprN base 64 mag := ⟨_, rfl⟩
  have hne : ds ≠ [] := by rw [hds]; exact reprN_ne _ _ _
  have hlt : ∀ d ∈ ds, d < base := by rw [hds]; exact reprN_lt base (by omega) 64 mag hm
  have hval : horner base ds = mag := by rw [hds]; exact horner_repr _ _ _
  have hlen : ds.length ≤ 64 ∧ (base = 8 → ds.length ≤ 22) := by
    have h1 := repr_len D base mag hm hb
    rw [repr_map, ← hds, List.length_map] at h1
    exact ⟨h1.2.1, h1.2.2⟩
  have hhead : ∀ d r, ds = d :: r → d = 0 → ds.length = 1 := by
    intro d r h1 h2
    have := reprN_head base (by omega) 64 mag d r (by rw [← hds]; exact h1) h2
    rw [h1, this.2]; rfl
  rw [← hds]
  obtain ⟨bd, hbd⟩ : ∃ bd, bd = bodyN base sh ds := ⟨_, rfl⟩
  have hbl : 1 ≤ bd.length ∧ bd.length ≤ 65 ∧ ((sh = true ∧ base = 8) → bd.length ≤ 23) ∧ (¬ (sh = true ∧ base = 8) → bd = ds) := by
    have : 1 ≤ ds.length := by cases ds with | nil => exact absurd rfl hne | cons _ _ => simp
    rw [hbd]; unfold bodyN
    split
    · rename_i hc
      have := hlen.2 hc.2.1
      refine ⟨by simp, by simp; omega, fun _ => by simp; omega, fun h => absurd ⟨hc.1, hc.2.1⟩ h⟩
    · exact ⟨this, by omega, fun h => by have := hlen.2 h.2; omega, fun _ => rfl⟩
  have hbv : horner base bd = mag := by
    rw [hbd]; unfold bodyN; split
    · rw [horner_zero]; exact hval
    · exact hval
  have hblt : ∀ d ∈ bd, d < base := by
    rw [hbd]; unfold bodyN; split
    · intro d hd
      rcases List.mem_cons.1 hd with h | h
      · omega
      · exact hlt d h
    · exact hlt
  rw [← hbd]
  have hsl : (sgnL neg pl).length ≤ 1 := by unfold sgnL; (repeat' split) <;> simp
  have hml : (mkL D base sh).length = (if sh = true ∧ (base = 2 ∨ base = 16) then 2 else 0) := by
    unfold mkL
    cases sh
    · simp
    · rcases hb with rfl | rfl | rfl | rfl <;> simp
  have hml2 : (mkL D base sh).length ≤ 2 := by rw [hml]; split <;> omega
  obtain ⟨R, hR⟩ : ∃ R, R = sgnL neg pl ++ (mkL D base sh ++ bd.map D.get!) := ⟨_, rfl⟩
  have hRl : R.length = (sgnL neg pl).length + ((mkL D base sh).length + bd.length) := by rw [hR]; simp
  rw [← hR]
  have get := fun j (h : j < R.length) => get_list R j h
  have hb0 : ∀ j (h : j < bd.length), (⟨R.toArray⟩ : ByteArray).get! ((sgnL neg pl).length + (mkL D base sh).length + j) = D.get! bd[j] := by
    intro j h
    rw [get _ (by omega)]
    simp only [hR]
    rw [List.getElem_append_right (by omega), List.getElem_append_right (by omega), List.getElem_map]
    congr 2
    omega
  have hmkg : ∀ j (h : j < (mkL D base sh).length), (⟨R.toArray⟩ : ByteArray).get! ((sgnL neg pl).length + j) = (mkL D base sh)[j] := by
    intro j h
    rw [get _ (by omega)]
    simp only [hR]
    rw [List.getElem_append_right (by omega), List.getElem_append_left (by omega)]
    congr 1
    omega
  have hfirst : (⟨R.toArray⟩ : ByteArray).get! ((sgnL neg pl).length + (mkL D base sh).length) = D.get! (bd[0]'(by omega)) := hb0 0 (by omega)
  have hst48 : ((⟨R.toArray⟩ : ByteArray).get! ((sgnL neg pl).length + (mkL D base sh).length)).toNat = 48 ↔ bd[0]'(by omega) = 0 := by
    rw [hfirst]
    refine dig_inj0 hD hi _ ?_
    have := hblt _ (List.getElem_mem (show 0 < bd.length by omega))
    omega
  refine ⟨(sgnL neg pl).length, (sgnL neg pl).length + (mkL D base sh).length, bd, ?_, hbl.1, ?_, by rw [hml], ?_, ?_, ?_, ?_, ?_, hb0, fun j h => hblt _ (List.getElem_mem h), hbv, ?_, ?_⟩
  · show R.length = _; omega
  · show R.length ≤ 70
    omega
  · rintro rfl
    refine ⟨rfl, ?_⟩
    rw [get 0 (by omega)]; simp only [hR]; rfl
  · rintro rfl rfl
    refine ⟨rfl, ?_⟩
    rw [get 0 (by omega)]; simp only [hR]; rfl
  · rintro rfl rfl
    refine ⟨rfl, ?_⟩
    by_cases hm0 : 0 < (mkL D base sh).length
    · have := hmkg 0 hm0
      have e1 : (sgnL false false).length + 0 = 0 := rfl
      rw [e1] at this
      rw [this]
      have : (mkL D base sh)[0] = 48 := by
        revert hm0
        unfold mkL
        cases sh
        · simp
        · rcases hb with rfl | rfl | rfl | rfl <;> simp
      rw [this]; decide
    · have e1 : (sgnL false false).length + (mkL D base sh).length = 0 := by show 0 + _ = 0; omega
      rw [e1] at hfirst
      rw [hfirst]
      refine hbg _ ?_
      have := hblt _ (List.getElem_mem (show 0 < bd.length by omega))
      omega
  · rintro rfl rfl
    have e : mkL D 2 true = [48, 98] := rfl
    rw [e] at hmkg
    exact ⟨by have := hmkg 0 (by simp); rw [Nat.add_zero] at this; rw [this]; rfl, by rw [hmkg 1 (by simp)]; rfl⟩
  · rintro rfl rfl
    have e : mkL D 16 true = [48, D.get! 16] := rfl
    rw [e] at hmkg
    exact ⟨by have := hmkg 0 (by simp); rw [Nat.add_zero] at this; rw [this]; rfl, by rw [hmkg 1 (by simp)]; rfl⟩
  · rintro rfl rfl
    rw [hst48]
    obtain ⟨d, r, hd⟩ : ∃ d r, ds = d :: r := by
      cases hd : ds with
      | nil => exact absurd hd hne
      | cons d r => exact ⟨d, r, rfl⟩
    have hq : bd[0]? = some 0 := by
      rw [hbd, hd]
      by_cases h0 : d = 0
      · simp [bodyN, h0]
      · simp [bodyN, h0]
    rw [List.getElem?_eq_getElem (by omega)] at hq
    exact Option.some.inj hq
  · intro hn h48
    have h0 := hst48.1 h48
    have he := hbl.2.2.2 hn
    subst he
    cases hd : bd with
    | nil => exact absurd hd hne
    | cons d r =>
      have := hhead d r hd (by simpa [hd] using h0)
      rw [← hd]; exact this
end Go.Proofs.YoedvwDoor
