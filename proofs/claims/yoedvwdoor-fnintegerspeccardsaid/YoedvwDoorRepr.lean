/- zzRepr, walked. -/
import Derived.Test.YoedvwDoorRep
import Derived.Test.YoedvwDoorFw
import Derived.Test.YoedvwDoorInt
namespace Go.Proofs.YoedvwDoor
open Go.RowKit
set_option linter.unusedVariables false

theorem quo64 (u P : Nat) (hu : u < 18446744073709551616) : IntKind.u64.wrap ((u : Int) / (P : Int)) = ((u / P : Nat) : Int) := by
  rw [IntKind.wrap_u64, ← Int.natCast_ediv]
  have h1 : u / P ≤ u := Nat.div_le_self _ _
  obtain ⟨Q, hQ⟩ : ∃ Q, Q = u / P := ⟨_, rfl⟩
  rw [← hQ] at h1 ⊢
  omega
theorem mul64 (P b : Nat) (h : P * b < 18446744073709551616) : IntKind.u64.wrap ((P : Int) * (b : Int)) = ((P * b : Nat) : Int) := by
  rw [IntKind.wrap_u64, ← Int.natCast_mul]
  omega

theorem owns_len {W : World} {B : Nat} {e : TypeId} {v : Value} {n : Nat} {xs : List Value} (h : W.ownsRow B e 1 v n xs) : ∃ vb vc, v = .slice vb n vc := by
  rcases h.2 with ⟨rfl, h2⟩ | ⟨g', cap, cur, rfl, _⟩
  · exact ⟨_, _, by rw [h2]⟩
  · exact ⟨_, _, rfl⟩

theorem fw_step (D : ByteArray) (base : Nat) (hb2 : 2 ≤ base) (j x P : Nat) (t A : List UInt8) (hP : P = base ^ j) (hx : x < base ^ (j + 1)) (hA : A = t ++ fw D base j x) (d : Nat) (hd : d = x / P) (M : Nat) (hM : M = d * P) (P' : Nat) (hP' : P' = P / base) :
    (P' = 0 ∧ A = t ++ [D.get! d]) ∨ ∃ j, P' = base ^ j ∧ x - M < base ^ (j + 1) ∧ A = (t ++ [D.get! d]) ++ fw D base j (x - M) := by
  have hPp : 0 < P := by rw [hP]; exact Nat.pow_le_pow_right (show 0 < base by omega) (Nat.zero_le j)
  have hmod : x - M = x % P := by
    have := Nat.div_add_mod x P
    rw [hM, hd, Nat.mul_comm]; omega
  cases j with
  | zero =>
    refine Or.inl ⟨?_, ?_⟩
    · rw [hP', hP, Nat.pow_zero]; exact Nat.div_eq_of_lt (by omega)
    · have : d = x := by rw [hd, hP, Nat.pow_zero, Nat.div_one]
      rw [hA, this]; rfl
  | succ j =>
    refine Or.inr ⟨j, ?_, ?_, ?_⟩
    · rw [hP', hP, Nat.pow_succ]; exact Nat.mul_div_cancel _ (by omega)
    · rw [hmod, ← hP]; exact Nat.mod_lt _ hPp
    · rw [hA, hmod, fw, hd, hP]; simp

set_option maxHeartbeats 1000000 in
theorem zzRepr (u base : Nat) (D : ByteArray) (hD : Digs D) (hb : base = 2 ∨ base = 8 ∨ base = 10 ∨ base = 16) (hu : u < 18446744073709551616) (W : World) (S : ByteArray) (hS : S = ⟨(repr D base 64 u).toArray⟩) :
    Calls Edvg.prog 13 #[.int .u64 u, .int .u64 base, .string D] W fun e W' => e = .returned (.string S) ∧ Below W.heap.size W W' := by
  have hD17 : D.size = 17 := hD.sz
  have hb2 : 2 ≤ base := by omega
  have hb16 : base ≤ 16 := by omega
  have HBS : Hid (base = 2 ∨ base = 8 ∨ base = 10 ∨ base = 16) := hb
  have HS : Hid (S = ⟨(repr D base 64 u).toArray⟩) := hS
  obtain ⟨i, hi, hz, hsi, hby⟩ := info_parts info5
  clear hS hb hD
  go_enter Edvg.func13, Edvg.ntmps13
  go_upto_block 0 with fail
  go_cut [7] from 10 to 17 (fun s7 w => ∃ P j : Nat, s7 = .int .u64 P ∧ P = base ^ j ∧ u < base ^ (j + 1) ∧ (j = 0 ∨ base ^ j ≤ u) ∧ W = w)
  case first =>
    go_wp2_with fail
    go_loop [7] (fun s7 => ∃ P j : Nat, s7 = .int .u64 P ∧ P = base ^ j ∧ (j = 0 ∨ base ^ j ≤ u)) (fun s7 => u + 1 - (intOf s7).toNat)
    case atStart => exact ⟨1, 0, rfl, by simp, Or.inl rfl⟩
    case round =>
      obtain ⟨P, j, rfl, hPj, hju⟩ := hrel
      have hP1 : 1 ≤ P := by rw [hPj]; exact Nat.pow_le_pow_right (show 0 < base by omega) (Nat.zero_le j)
      have HPJ : Hid (P = base ^ j) := hPj
      have HJU : Hid (j = 0 ∨ base ^ j ≤ u) := hju
      clear hPj hju
      obtain ⟨Q, hQ⟩ : ∃ Q, Q = u / P := ⟨_, rfl⟩
      have hq : IntKind.u64.wrap ((u : Int) / (P : Int)) = (Q : Int) := by rw [hQ]; exact quo64 u P hu
      have HQ : Hid (Q = u / P) := hQ
      clear hQ
      by_cases hlt : Q < base
      · go_wp2_with fail
        go_meet
        case rel => exact ⟨P, j, rfl, HPJ.out, by
          have h1 := HQ.out
          rw [h1, Nat.div_lt_iff_lt_mul (by omega), HPJ.out, Nat.mul_comm] at hlt
          rw [Nat.pow_succ, Nat.mul_comm]
          rw [Nat.mul_comm] at hlt ⊢
          rw [Nat.mul_comm]; exact hlt, HJU.out, rfl⟩
      · have hPb : P * base ≤ u := by
          have h1 := HQ.out
          have h2 : base ≤ u / P := by omega
          rw [Nat.le_div_iff_mul_le (by omega), Nat.mul_comm] at h2
          exact h2
        have hpm : IntKind.u64.wrap ((P : Int) * (base : Int)) = ((P * base : Nat) : Int) := mul64 P base (by omega)
        have hgt : P < P * base := by
          have := Nat.mul_le_mul_left P hb2
          omega
        obtain ⟨PB, hPB⟩ : ∃ PB, PB = P * base := ⟨_, rfl⟩
        rw [← hPB] at hpm hPb hgt
        have HPB : Hid (PB = P * base) := hPB
        clear hPB
        go_wp2_with fail
        go_round
        case rel => exact ⟨PB, j + 1, rfl, by rw [HPB.out, HPJ.out, Nat.pow_succ], Or.inr (by rw [Nat.pow_succ, ← HPJ.out, ← HPB.out]; exact hPb)⟩
        case measure => simp [intOf]; omega
  case rest =>
    obtain ⟨P, j, rfl, hPj, huj, hju, rfl⟩ := hcut
    obtain ⟨A, hA⟩ : ∃ A, A = repr D base 64 u := ⟨_, rfl⟩
    have HA : Hid (A = repr D base 64 u) := hA
    have HSA : Hid (S = ⟨A.toArray⟩) := by show S = _; rw [HS.out, hA]
    have hAl : A.length ≤ 64 := by rw [hA]; exact (repr_len D base u hu HBS.out).2.1
    have HF : Hid (A = fw D base j u) := by
      show A = _
      rw [hA, fw_repr D base hb2 64 j u huj hju]
      rcases hju with e | e
      · omega
      · have := pow_lt64 base hb2 j u e hu; omega
    have hP64 : P < 18446744073709551616 := by
      rcases hju with e | e
      · rw [hPj, e]; simp
      · rw [hPj]; omega
    have HPJ : Hid (P = base ^ j) := hPj
    have HUJ : Hid (u < base ^ (j + 1)) := huj
    clear hPj huj hju hA HS
    go_wp2_with (at_make; refine wpList_make_own _ rfl (.const (.int .i64 0)) (.const (.int .i64 64)) 48 rfl W.heap.size 5 i (.int .u8 0) 1 Edvg.underlying48 hi hz hsi .i64 .i64 64 64 rfl rfl rfl ?l1 ?l2 ?l3 ?_)
    case l1 => rw [hby]; omega
    case l2 => unfold maxLen; omega
    case l3 => exact Nat.le_refl _
    intro w1 ho1 hg1
    have HO1 : Hid (w1.ownsRow W.heap.size 5 1 (Value.slice (some ⟨W.heap.size, 0, none⟩) 0 64) 0 []) := ho1
    have HB1 : Hid (Below W.heap.size W w1) := ⟨hg1.os, hg1.tape, hg1.output, hg1.size, fun k hk => hg1.block k hk (by simp)⟩
    clear ho1 hg1
    go_wp2_with fail
    go_loopw [0, 7, 8] (fun s0 s7 s8 w => ∃ (x P : Nat) (t : List UInt8) (vb : Option Addr) (vc : Nat), s0 = .int .u64 x ∧ s7 = .int .u64 P ∧ s8 = .slice vb t.length vc ∧ x < 18446744073709551616 ∧ P < 18446744073709551616 ∧ w.ownsRow W.heap.size 5 1 (.slice vb t.length vc) t.length (cellsOf t) ∧ Below W.heap.size W w ∧ ((P = 0 ∧ A = t) ∨ ∃ j, P = base ^ j ∧ x < base ^ (j + 1) ∧ A = t ++ fw D base j x)) (fun _ s7 _ _ => (intOf s7).toNat)
    case atStart => exact ⟨u, P, [], _, _, rfl, rfl, rfl, hu, hP64, HO1.out, HB1.out, Or.inr ⟨j, HPJ.out, HUJ.out, HF.out⟩⟩
    case round =>
      obtain ⟨x, P, t, vb, vc, rfl, rfl, rfl, hx, hP, hown, hB, hcase⟩ := hrel
      have HO : Hid (wr.ownsRow W.heap.size 5 1 (.slice vb t.length vc) t.length (cellsOf t)) := hown
      have HB : Hid (Below W.heap.size W wr) := hB
      have HBz : Hid (W.heap.size ≤ wr.heap.size) := hB.size
      clear hown hB HO1 HB1
      rcases hcase with ⟨hP0, hAt⟩ | ⟨j', hPj, hxj, hAt⟩
      · have hcv := conv_row Edvg.underlying48 HO.out
        rw [← hAt, ← HSA.out] at hcv
        have HAT : Hid (A = t) := hAt
        rw [hAt] at hcv
        clear hAt
        subst hP0
        go_wp2_with fail
        go_ret
        exact ⟨rfl, HB.out⟩
      · have hP1 : 1 ≤ P := by rw [hPj]; exact Nat.pow_le_pow_right (show 0 < base by omega) (Nat.zero_le j')
        obtain ⟨d, hd⟩ : ∃ d, d = x / P := ⟨_, rfl⟩
        have hdb : d < base := by
          rw [hd, Nat.div_lt_iff_lt_mul (by omega), hPj, Nat.mul_comm, ← Nat.pow_succ]; exact hxj
        have hdP : d * P ≤ x := by rw [hd]; exact Nat.div_mul_le_self x P
        have hq : IntKind.u64.wrap ((x : Int) / (P : Int)) = (d : Int) := by rw [hd]; exact quo64 x P hx
        obtain ⟨M, hM⟩ : ∃ M, M = d * P := ⟨_, rfl⟩
        rw [← hM] at hdP
        have hmm : IntKind.u64.wrap ((d : Int) * (P : Int)) = (M : Int) := by rw [hM]; exact mul64 d P (by rw [← hM]; omega)
        obtain ⟨P', hP'⟩ : ∃ P', P' = P / base := ⟨_, rfl⟩
        have hqp : IntKind.u64.wrap ((P : Int) / (base : Int)) = (P' : Int) := by rw [hP']; exact quo64 P base hP
        have hPlt : P' < P := by rw [hP']; exact Nat.div_lt_self (by omega) (by omega)
        have htl : t.length ≤ 64 := by
          have := hAl; rw [hAt, List.length_append] at this; omega
        have HST : Hid ((P' = 0 ∧ A = t ++ [D.get! d]) ∨ ∃ j, P' = base ^ j ∧ x - M < base ^ (j + 1) ∧ A = (t ++ [D.get! d]) ++ fw D base j (x - M)) := fw_step D base hb2 j' x P t A hPj hxj hAt d hd M hM P' hP'
        clear hPj hxj hAt hd hM hP'
        go_wp2_with (at_builtin; refine wpList_append_own_src _ rfl (.tmp 24) (.tmp 28) 48 48 rfl W.heap.size 5 i (.int .u8 0) Edvg.underlying48 hi hz hsi hby rfl (.slice vb t.length vc) t.length (cellsOf t) rfl ?own (.slice (some ⟨wr.heap.size, 0, none⟩) 1 1) 1 [.int .u8 ((D[d]'(by omega)).toNat : Int)] rfl ?src ?b1 ?b2 ?b3 ?_)
        case own => exact HO.out.alloc _
        case src => rw [hsi]; exact Src.ofSlice _ Edvg.underlying48 _ _ _ _ (by simp) (cell_one_new _ _ _) (by intro u hu; simp at hu; subst hu; rfl)
        case b1 => unfold maxLen; omega
        case b2 => omega
        case b3 => have := HBz.out; simp; omega
        intro v' w' ho hg hr
        obtain ⟨vb', vc', hv'⟩ := owns_len ho
        have HO' : Hid (w'.ownsRow W.heap.size 5 1 v' (t.length + 1) (cellsOf t ++ [Value.int IntKind.u8 ((D[d]'(by omega)).toNat : Int)])) := ho
        have HB' : Hid (Below W.heap.size W w') := (HB.out.alloc HBz.out _).grown hg (by have := HBz.out; simp; omega) (fun k hk => (HO.out.lt k hk).1)
        clear ho hg hr
        rw [hv'] at HO' ⊢
        clear hv' hi hz hsi hby
        go_wp2_with fail
        go_roundw
        case rel =>
          refine ⟨x - M, P', t ++ [D.get! d], vb', vc', by go_num, rfl, by simp, by omega, by omega, ?_, HB'.out, HST.out⟩
          have h1 := HO'.out
          rw [← getB D d (by omega)] at h1
          rw [cellsOf_append, List.length_append]
          exact h1
        case measure => simp [intOf]; omega
end Go.Proofs.YoedvwDoor
