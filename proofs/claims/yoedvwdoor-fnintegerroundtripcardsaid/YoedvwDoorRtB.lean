/- FnIntegerRoundTrip, walked: bases 10 and 16. -/
import Derived.Test.YoedvwDoorRtW
namespace Go.Proofs.YoedvwDoor
open Go.RowKit
set_option linter.unusedVariables false

set_option maxHeartbeats 4000000 in
set_option maxRecDepth 100000 in
theorem rt_10_false (u : Nat) (hu : u < 18446744073709551616) (isS up pl : Bool) (w : World) (hbig : 5 < w.heap.size) (hmax : w.cell? ⟨4, 0, none⟩ = some (.int .i64 2147483647)) :
    Calls Edvg.prog 7 #[.int .u64 u, .int .i64 10, .bool isS, .bool up, .bool pl, .bool false] w fun e w' => e = .returned (.bool true) ∧ Below w.heap.size w w' := by
  obtain ⟨D, hD⟩ : ∃ D, D = if up then uppD else lowD := ⟨_, rfl⟩
  have HDu : Hid (D = if up then uppD else lowD) := hD
  have HDG : Hid (Digs D) := by rw [hD]; cases up; exact low_digs; exact upp_digs
  have HDI : Hid (Inj D) := by rw [hD]; cases up; exact low_inj; exact upp_inj
  have HDB : Hid (∀ d, d < 16 → 48 ≤ (D.get! d).toNat) := by rw [hD]; cases up; exact low_big; exact upp_big
  have HM : Hid (w.cell? ⟨4, 0, none⟩ = some (.int .i64 2147483647)) := hmax
  have hD17 : D.size = 17 := HDG.out.sz
  obtain ⟨neg, hneg⟩ : ∃ n, n = negOf isS u := ⟨_, rfl⟩
  obtain ⟨mag, hmag⟩ : ∃ n, n = magOf isS u := ⟨_, rfl⟩
  have HN : Hid (neg = negOf isS u) := hneg
  have HMg : Hid (mag = magOf isS u) := hmag
  have HU : Hid (u < 18446744073709551616) := hu
  have hm64 : mag ≤ 18446744073709551615 := by have := mag_lt isS u hu; have e : (2 : Nat) ^ 64 = 18446744073709551616 := by decide
                                               rw [← hmag, e] at this; omega
  clear hD hmax hneg hmag
  go_enter Edvg.func7, Edvg.ntmps7
  go_upto_if 38 with fail
  go_cut [13] from 24 to 38 (fun s13 w' => s13 = .string D ∧ w = w')
  case first =>
    rcases up with _ | _
    · go_wp2_with fail
      go_meet
      case rel => exact ⟨by rw [HDu.out]; rfl, rfl⟩
    · go_wp2_with fail
      go_meet
      case rel => exact ⟨by rw [HDu.out]; rfl, rfl⟩
  case rest =>
    obtain ⟨rfl, rfl⟩ := hcut
    go_wp2_with fail
    refine (new_fmt false 0 false 0 false pl false false false _ hbig HM.out).mono ?_
    rintro e w1 ⟨rfl, hb1, hv1⟩
    have H1 : Hid (FmtV w1 w.heap.size w.heap.size (w.heap.size + 1) (.slice none 0 0) ⟨false, 0, false, 0, false, pl, false, false, false⟩ []) := hv1
    have B1 : Hid (Below w.heap.size w w1) := hb1
    clear hv1 hb1
    go_wp2_with fail
    refine (zzInteger u 10 isS 118 D _ w.heap.size w.heap.size (w.heap.size + 1) _ _ [] H1.out HU.out HDG.out 0 0 rfl rfl (by omega) (by omega) (by omega) (by omega) (by simp) _ rfl).mono ?_
    rintro e w3 ⟨rfl, hb3, v3, hv3⟩
    have H3 : Hid (FmtV w3 w.heap.size w.heap.size (w.heap.size + 1) v3 ⟨false, 0, false, 0, false, pl, false, false, false⟩ (intOut D 10 isS u false ⟨false, 0, false, 0, false, pl, false, false, false⟩ 0 0)) := hv3
    have B3 : Hid (Below w.heap.size w w3) := B1.out.trans hb3
    clear hv3 hb3 H1 B1
    go_wp2_with fail
    refine (zzOut _ _ _ _ _ _ _ H3.out).mono ?_
    rintro e w' ⟨rfl, rfl⟩
    obtain ⟨sl, st, bd, hrf⟩ := rt_facts HDG.out HDI.out HDB.out 10 (by omega) isS pl false u HU.out
    rw [← HN.out, ← HMg.out] at hrf
    obtain ⟨O, hO⟩ : ∃ O : ByteArray, O = ⟨(intOut D 10 isS u false ⟨false, 0, false, 0, false, pl, false, false, false⟩ 0 0).toArray⟩ := ⟨_, rfl⟩
    rw [← hO] at hrf ⊢
    have HRF : Hid (RtF D 10 false neg pl mag O sl st bd) := hrf
    have hst : st = sl := by rw [HRF.out.mks]; rfl
    have hsz : O.size = st + bd.length := hrf.size
    have hpos : 1 ≤ bd.length := hrf.pos
    have hsm : O.size ≤ 70 := hrf.small
    clear hrf hO H3
    have HSZ : Hid (O.size = st + bd.length) := hsz
    have hO0 : 0 < O.size := by omega
    obtain ⟨hp, hhp⟩ : ∃ hp, hp = (!neg && pl) := ⟨_, rfl⟩
    have HHP : Hid (hp = (!neg && pl)) := hhp
    have HST : Hid (st = sl) := hst
    have hst1 : st + 1 ≤ O.size := by omega
    have hsl1 : sl ≤ 1 := by
      rcases neg with _ | _
      · rcases pl with _ | _
        · have := (HRF.out.snone rfl rfl).1; omega
        · have := (HRF.out.spl rfl rfl).1; omega
      · have := (HRF.out.sneg rfl).1; omega
    have hsl2 : sl + 1 ≤ O.size := by omega
    clear hhp hsz hst
    go_upto_if 59 with fail
    go_cut [16, 17, 18] from 50 to 73 (fun s16 s17 s18 w' => s16 = .int .i64 sl ∧ s17 = .bool neg ∧ s18 = .bool hp ∧ w3 = w')
    case first =>
      rcases neg with _ | _
      · rcases pl with _ | _
        · obtain ⟨a1, a2⟩ := HRF.out.snone rfl rfl
          rw [getB O 0 hO0] at a2
          have HA1 : Hid (sl = 0) := a1
          have t1 : (((O[0]'hO0).toNat : Int) == 45) = false := by simp; omega
          have t2 : (((O[0]'hO0).toNat : Int) == 43) = false := by simp; omega
          clear a1 a2
          go_wp2_with fail
          go_meet
          case rel => exact ⟨by rw [HA1.out]; rfl, rfl, by rw [HHP.out]; rfl, rfl⟩
        · obtain ⟨a1, a2⟩ := HRF.out.spl rfl rfl
          rw [getB O 0 hO0] at a2
          have HA1 : Hid (sl = 1) := a1
          have t1 : (((O[0]'hO0).toNat : Int) == 45) = false := by rw [a2]; rfl
          have t2 : (((O[0]'hO0).toNat : Int) == 43) = true := by rw [a2]; rfl
          clear a1 a2
          go_wp2_with fail
          go_meet
          case rel => exact ⟨by rw [HA1.out]; rfl, rfl, by rw [HHP.out]; rfl, rfl⟩
      · obtain ⟨a1, a2⟩ := HRF.out.sneg rfl
        rw [getB O 0 hO0] at a2
        have HA1 : Hid (sl = 1) := a1
        have t1 : (((O[0]'hO0).toNat : Int) == 45) = true := by rw [a2]; rfl
        clear a1 a2
        go_wp2_with fail
        go_meet
        case rel => exact ⟨by rw [HA1.out]; rfl, rfl, by rw [HHP.out]; rfl, rfl⟩
    case rest =>
      obtain ⟨rfl, rfl, rfl, rfl⟩ := hcut
      have hns1 : ¬ O.size ≤ sl := by omega
      have hns2 : ¬ O.size < sl := by omega
      go_wp2_with fail
      go_loop [16, 21] (fun s16 s21 => ∃ (i j : Nat), s16 = .int .i64 i ∧ i = st + j ∧ j ≤ bd.length ∧ s21 = .int .u64 (horner 10 (bd.take j))) (fun s16 _ => O.size - (intOf s16).toNat)
      case atStart => exact ⟨st, 0, by rw [HST.out] <;> go_num, rfl, by omega, rfl⟩
      case round =>
        obtain ⟨i, j, rfl, hij, hj, rfl⟩ := hrel
        have HIJ : Hid (i = st + j) := hij
        by_cases hlt : j < bd.length
        · have hi : i < O.size := by rw [HSZ.out]; omega
          obtain ⟨dv, hdv⟩ : ∃ dv, dv = bd[j] := ⟨_, rfl⟩
          have hdb : dv < 10 := by rw [hdv]; exact HRF.out.lt j hlt
          have hOi : (O[i]'hi).toNat = (D.get! dv).toNat := by
            rw [← getB O i hi, HIJ.out, HRF.out.bdy j hlt, ← hdv]
          have HST2 : Hid (horner 10 (bd.take (j + 1)) = horner 10 (bd.take j) * 10 + dv) := by
            show _ = _
            rw [horner_step 10 bd j hlt, ← hdv]
          have HLE : Hid (horner 10 (bd.take (j + 1)) ≤ mag) := by
            show _ ≤ _
            have := horner_take_le 10 (by omega) bd (j + 1)
            rw [HRF.out.val] at this; exact this
          obtain ⟨val, hval⟩ : ∃ val, val = horner 10 (bd.take j) := ⟨_, rfl⟩
          rw [← hval]
          have hvb : val * 10 + dv ≤ 18446744073709551615 := by
            have h1 := HLE.out; rw [HST2.out, ← hval] at h1; omega
          have HVAL : Hid (val = horner 10 (bd.take j)) := hval
          clear hdv hval hij
          go_wp2_with (go_at_call 19; refine (digitVal D HDG.out HDI.out dv (by omega) _).mono ?_; rintro e w' ⟨rfl, rfl⟩)
          go_round
          case rel => exact ⟨i + 1, j + 1, by go_num, by have := HIJ.out; omega, by omega, by rw [HST2.out, ← HVAL.out]; go_num⟩
          case measure => simp [intOf]; omega
        · obtain rfl : j = bd.length := by omega
          have HV : Hid (horner 10 (bd.take bd.length) = mag) := by show _ = _; rw [List.take_length]; exact HRF.out.val
          rw [HV.out]
          have hi : i = O.size := by rw [HSZ.out]; exact hij
          have hi2 : ¬ i < O.size := by omega
          have HI : Hid (i = O.size) := hi
          clear hij hi
          go_upto_if 169 with fail
          go_cut [22] from 127 to 184 (fun _ w' => w3 = w')
          case first =>
            by_cases h48 : ((O[sl]'(by omega)).toNat : Int) = 48
            · have q8 : (((O[sl]'(by omega)).toNat : Int) == 48) = true := by simp [h48]
              have h1 : bd.length = 1 := by
                refine HRF.out.hd (by simp) ?_
                rw [HST.out, getB O _ (by omega)]; omega
              have h2 : (O.size : Int) - ((sl : Nat) : Int) ≤ 1 := by have a := HSZ.out; have b := HST.out; omega
              clear h48 h1
              go_wp2_with fail
              go_meet
              case rel => exact rfl
            · have q8 : (((O[sl]'(by omega)).toNat : Int) == 48) = false := by simpa using h48
              clear h48
              go_wp2_with fail
              go_meet
              case rel => exact rfl
          case rest =>
            subst hcut
            go_upto_region 44 with fail
            go_cut [23] from 185 to 190 (fun s23 w' => s23 = .bool neg ∧ w3 = w')
            case first =>
              rcases isS with _ | _
              · go_wp2_with fail
                go_meet
                case rel => exact ⟨by rw [HN.out]; rfl, rfl⟩
              · by_cases h63 : 9223372036854775808 ≤ u
                · have ht : wrap64 (u : Int) < 0 := (neg_test u hu).2 h63
                  go_wp2_with fail
                  go_meet
                  case rel => exact ⟨by rw [HN.out]; simp [negOf, h63], rfl⟩
                · have ht : ¬ wrap64 (u : Int) < 0 := fun e => h63 ((neg_test u hu).1 e)
                  go_wp2_with fail
                  go_meet
                  case rel => exact ⟨by rw [HN.out]; simp [negOf, h63], rfl⟩
            case rest =>
              obtain ⟨rfl, rfl⟩ := hcut
              rcases neg with _ | _
              · have HE : Hid (u = mag) := mag_false HN.out HMg.out
                rcases pl with _ | _
                · have hh : hp = false := HHP.out
                  subst hh
                  go_wp2_with fail
                  go_ret
                  exact ⟨ret_bool (by rw [HE.out]; simp), B3.out⟩
                · have hh : hp = true := HHP.out
                  subst hh
                  go_wp2_with fail
                  go_ret
                  exact ⟨ret_bool (by rw [HE.out]; simp), B3.out⟩
              · have HE : Hid (IntKind.u64.wrap (-(mag : Int)) = (u : Int)) := mag_back HN.out HMg.out HU.out
                have hh : hp = false := by rw [HHP.out]; rfl
                subst hh
                rcases pl with _ | _
                · go_wp2_with fail
                  go_ret
                  exact ⟨ret_bool (by rw [HE.out]; simp), B3.out⟩
                · go_wp2_with fail
                  go_ret
                  exact ⟨ret_bool (by rw [HE.out]; simp), B3.out⟩

set_option maxHeartbeats 4000000 in
set_option maxRecDepth 100000 in
theorem rt_10_true (u : Nat) (hu : u < 18446744073709551616) (isS up pl : Bool) (w : World) (hbig : 5 < w.heap.size) (hmax : w.cell? ⟨4, 0, none⟩ = some (.int .i64 2147483647)) :
    Calls Edvg.prog 7 #[.int .u64 u, .int .i64 10, .bool isS, .bool up, .bool pl, .bool true] w fun e w' => e = .returned (.bool true) ∧ Below w.heap.size w w' := by
  obtain ⟨D, hD⟩ : ∃ D, D = if up then uppD else lowD := ⟨_, rfl⟩
  have HDu : Hid (D = if up then uppD else lowD) := hD
  have HDG : Hid (Digs D) := by rw [hD]; cases up; exact low_digs; exact upp_digs
  have HDI : Hid (Inj D) := by rw [hD]; cases up; exact low_inj; exact upp_inj
  have HDB : Hid (∀ d, d < 16 → 48 ≤ (D.get! d).toNat) := by rw [hD]; cases up; exact low_big; exact upp_big
  have HM : Hid (w.cell? ⟨4, 0, none⟩ = some (.int .i64 2147483647)) := hmax
  have hD17 : D.size = 17 := HDG.out.sz
  obtain ⟨neg, hneg⟩ : ∃ n, n = negOf isS u := ⟨_, rfl⟩
  obtain ⟨mag, hmag⟩ : ∃ n, n = magOf isS u := ⟨_, rfl⟩
  have HN : Hid (neg = negOf isS u) := hneg
  have HMg : Hid (mag = magOf isS u) := hmag
  have HU : Hid (u < 18446744073709551616) := hu
  have hm64 : mag ≤ 18446744073709551615 := by have := mag_lt isS u hu; have e : (2 : Nat) ^ 64 = 18446744073709551616 := by decide
                                               rw [← hmag, e] at this; omega
  clear hD hmax hneg hmag
  go_enter Edvg.func7, Edvg.ntmps7
  go_upto_if 38 with fail
  go_cut [13] from 24 to 38 (fun s13 w' => s13 = .string D ∧ w = w')
  case first =>
    rcases up with _ | _
    · go_wp2_with fail
      go_meet
      case rel => exact ⟨by rw [HDu.out]; rfl, rfl⟩
    · go_wp2_with fail
      go_meet
      case rel => exact ⟨by rw [HDu.out]; rfl, rfl⟩
  case rest =>
    obtain ⟨rfl, rfl⟩ := hcut
    go_wp2_with fail
    refine (new_fmt false 0 false 0 false pl true false false _ hbig HM.out).mono ?_
    rintro e w1 ⟨rfl, hb1, hv1⟩
    have H1 : Hid (FmtV w1 w.heap.size w.heap.size (w.heap.size + 1) (.slice none 0 0) ⟨false, 0, false, 0, false, pl, true, false, false⟩ []) := hv1
    have B1 : Hid (Below w.heap.size w w1) := hb1
    clear hv1 hb1
    go_wp2_with fail
    refine (zzInteger u 10 isS 118 D _ w.heap.size w.heap.size (w.heap.size + 1) _ _ [] H1.out HU.out HDG.out 0 0 rfl rfl (by omega) (by omega) (by omega) (by omega) (by simp) _ rfl).mono ?_
    rintro e w3 ⟨rfl, hb3, v3, hv3⟩
    have H3 : Hid (FmtV w3 w.heap.size w.heap.size (w.heap.size + 1) v3 ⟨false, 0, false, 0, false, pl, true, false, false⟩ (intOut D 10 isS u false ⟨false, 0, false, 0, false, pl, true, false, false⟩ 0 0)) := hv3
    have B3 : Hid (Below w.heap.size w w3) := B1.out.trans hb3
    clear hv3 hb3 H1 B1
    go_wp2_with fail
    refine (zzOut _ _ _ _ _ _ _ H3.out).mono ?_
    rintro e w' ⟨rfl, rfl⟩
    obtain ⟨sl, st, bd, hrf⟩ := rt_facts HDG.out HDI.out HDB.out 10 (by omega) isS pl true u HU.out
    rw [← HN.out, ← HMg.out] at hrf
    obtain ⟨O, hO⟩ : ∃ O : ByteArray, O = ⟨(intOut D 10 isS u false ⟨false, 0, false, 0, false, pl, true, false, false⟩ 0 0).toArray⟩ := ⟨_, rfl⟩
    rw [← hO] at hrf ⊢
    have HRF : Hid (RtF D 10 true neg pl mag O sl st bd) := hrf
    have hst : st = sl := by rw [HRF.out.mks]; rfl
    have hsz : O.size = st + bd.length := hrf.size
    have hpos : 1 ≤ bd.length := hrf.pos
    have hsm : O.size ≤ 70 := hrf.small
    clear hrf hO H3
    have HSZ : Hid (O.size = st + bd.length) := hsz
    have hO0 : 0 < O.size := by omega
    obtain ⟨hp, hhp⟩ : ∃ hp, hp = (!neg && pl) := ⟨_, rfl⟩
    have HHP : Hid (hp = (!neg && pl)) := hhp
    have HST : Hid (st = sl) := hst
    have hst1 : st + 1 ≤ O.size := by omega
    have hsl1 : sl ≤ 1 := by
      rcases neg with _ | _
      · rcases pl with _ | _
        · have := (HRF.out.snone rfl rfl).1; omega
        · have := (HRF.out.spl rfl rfl).1; omega
      · have := (HRF.out.sneg rfl).1; omega
    have hsl2 : sl + 1 ≤ O.size := by omega
    clear hhp hsz hst
    go_upto_if 59 with fail
    go_cut [16, 17, 18] from 50 to 73 (fun s16 s17 s18 w' => s16 = .int .i64 sl ∧ s17 = .bool neg ∧ s18 = .bool hp ∧ w3 = w')
    case first =>
      rcases neg with _ | _
      · rcases pl with _ | _
        · obtain ⟨a1, a2⟩ := HRF.out.snone rfl rfl
          rw [getB O 0 hO0] at a2
          have HA1 : Hid (sl = 0) := a1
          have t1 : (((O[0]'hO0).toNat : Int) == 45) = false := by simp; omega
          have t2 : (((O[0]'hO0).toNat : Int) == 43) = false := by simp; omega
          clear a1 a2
          go_wp2_with fail
          go_meet
          case rel => exact ⟨by rw [HA1.out]; rfl, rfl, by rw [HHP.out]; rfl, rfl⟩
        · obtain ⟨a1, a2⟩ := HRF.out.spl rfl rfl
          rw [getB O 0 hO0] at a2
          have HA1 : Hid (sl = 1) := a1
          have t1 : (((O[0]'hO0).toNat : Int) == 45) = false := by rw [a2]; rfl
          have t2 : (((O[0]'hO0).toNat : Int) == 43) = true := by rw [a2]; rfl
          clear a1 a2
          go_wp2_with fail
          go_meet
          case rel => exact ⟨by rw [HA1.out]; rfl, rfl, by rw [HHP.out]; rfl, rfl⟩
      · obtain ⟨a1, a2⟩ := HRF.out.sneg rfl
        rw [getB O 0 hO0] at a2
        have HA1 : Hid (sl = 1) := a1
        have t1 : (((O[0]'hO0).toNat : Int) == 45) = true := by rw [a2]; rfl
        clear a1 a2
        go_wp2_with fail
        go_meet
        case rel => exact ⟨by rw [HA1.out]; rfl, rfl, by rw [HHP.out]; rfl, rfl⟩
    case rest =>
      obtain ⟨rfl, rfl, rfl, rfl⟩ := hcut
      have hns1 : ¬ O.size ≤ sl := by omega
      have hns2 : ¬ O.size < sl := by omega
      go_wp2_with fail
      go_loop [16, 21] (fun s16 s21 => ∃ (i j : Nat), s16 = .int .i64 i ∧ i = st + j ∧ j ≤ bd.length ∧ s21 = .int .u64 (horner 10 (bd.take j))) (fun s16 _ => O.size - (intOf s16).toNat)
      case atStart => exact ⟨st, 0, by rw [HST.out] <;> go_num, rfl, by omega, rfl⟩
      case round =>
        obtain ⟨i, j, rfl, hij, hj, rfl⟩ := hrel
        have HIJ : Hid (i = st + j) := hij
        by_cases hlt : j < bd.length
        · have hi : i < O.size := by rw [HSZ.out]; omega
          obtain ⟨dv, hdv⟩ : ∃ dv, dv = bd[j] := ⟨_, rfl⟩
          have hdb : dv < 10 := by rw [hdv]; exact HRF.out.lt j hlt
          have hOi : (O[i]'hi).toNat = (D.get! dv).toNat := by
            rw [← getB O i hi, HIJ.out, HRF.out.bdy j hlt, ← hdv]
          have HST2 : Hid (horner 10 (bd.take (j + 1)) = horner 10 (bd.take j) * 10 + dv) := by
            show _ = _
            rw [horner_step 10 bd j hlt, ← hdv]
          have HLE : Hid (horner 10 (bd.take (j + 1)) ≤ mag) := by
            show _ ≤ _
            have := horner_take_le 10 (by omega) bd (j + 1)
            rw [HRF.out.val] at this; exact this
          obtain ⟨val, hval⟩ : ∃ val, val = horner 10 (bd.take j) := ⟨_, rfl⟩
          rw [← hval]
          have hvb : val * 10 + dv ≤ 18446744073709551615 := by
            have h1 := HLE.out; rw [HST2.out, ← hval] at h1; omega
          have HVAL : Hid (val = horner 10 (bd.take j)) := hval
          clear hdv hval hij
          go_wp2_with (go_at_call 19; refine (digitVal D HDG.out HDI.out dv (by omega) _).mono ?_; rintro e w' ⟨rfl, rfl⟩)
          go_round
          case rel => exact ⟨i + 1, j + 1, by go_num, by have := HIJ.out; omega, by omega, by rw [HST2.out, ← HVAL.out]; go_num⟩
          case measure => simp [intOf]; omega
        · obtain rfl : j = bd.length := by omega
          have HV : Hid (horner 10 (bd.take bd.length) = mag) := by show _ = _; rw [List.take_length]; exact HRF.out.val
          rw [HV.out]
          have hi : i = O.size := by rw [HSZ.out]; exact hij
          have hi2 : ¬ i < O.size := by omega
          have HI : Hid (i = O.size) := hi
          clear hij hi
          go_upto_if 169 with fail
          go_cut [22] from 127 to 184 (fun _ w' => w3 = w')
          case first =>
            by_cases h48 : ((O[sl]'(by omega)).toNat : Int) = 48
            · have q8 : (((O[sl]'(by omega)).toNat : Int) == 48) = true := by simp [h48]
              have h1 : bd.length = 1 := by
                refine HRF.out.hd (by simp) ?_
                rw [HST.out, getB O _ (by omega)]; omega
              have h2 : (O.size : Int) - ((sl : Nat) : Int) ≤ 1 := by have a := HSZ.out; have b := HST.out; omega
              clear h48 h1
              go_wp2_with fail
              go_meet
              case rel => exact rfl
            · have q8 : (((O[sl]'(by omega)).toNat : Int) == 48) = false := by simpa using h48
              clear h48
              go_wp2_with fail
              go_meet
              case rel => exact rfl
          case rest =>
            subst hcut
            go_upto_region 44 with fail
            go_cut [23] from 185 to 190 (fun s23 w' => s23 = .bool neg ∧ w3 = w')
            case first =>
              rcases isS with _ | _
              · go_wp2_with fail
                go_meet
                case rel => exact ⟨by rw [HN.out]; rfl, rfl⟩
              · by_cases h63 : 9223372036854775808 ≤ u
                · have ht : wrap64 (u : Int) < 0 := (neg_test u hu).2 h63
                  go_wp2_with fail
                  go_meet
                  case rel => exact ⟨by rw [HN.out]; simp [negOf, h63], rfl⟩
                · have ht : ¬ wrap64 (u : Int) < 0 := fun e => h63 ((neg_test u hu).1 e)
                  go_wp2_with fail
                  go_meet
                  case rel => exact ⟨by rw [HN.out]; simp [negOf, h63], rfl⟩
            case rest =>
              obtain ⟨rfl, rfl⟩ := hcut
              rcases neg with _ | _
              · have HE : Hid (u = mag) := mag_false HN.out HMg.out
                rcases pl with _ | _
                · have hh : hp = false := HHP.out
                  subst hh
                  go_wp2_with fail
                  go_ret
                  exact ⟨ret_bool (by rw [HE.out]; simp), B3.out⟩
                · have hh : hp = true := HHP.out
                  subst hh
                  go_wp2_with fail
                  go_ret
                  exact ⟨ret_bool (by rw [HE.out]; simp), B3.out⟩
              · have HE : Hid (IntKind.u64.wrap (-(mag : Int)) = (u : Int)) := mag_back HN.out HMg.out HU.out
                have hh : hp = false := by rw [HHP.out]; rfl
                subst hh
                rcases pl with _ | _
                · go_wp2_with fail
                  go_ret
                  exact ⟨ret_bool (by rw [HE.out]; simp), B3.out⟩
                · go_wp2_with fail
                  go_ret
                  exact ⟨ret_bool (by rw [HE.out]; simp), B3.out⟩

set_option maxHeartbeats 4000000 in
set_option maxRecDepth 100000 in
theorem rt_16_false (u : Nat) (hu : u < 18446744073709551616) (isS up pl : Bool) (w : World) (hbig : 5 < w.heap.size) (hmax : w.cell? ⟨4, 0, none⟩ = some (.int .i64 2147483647)) :
    Calls Edvg.prog 7 #[.int .u64 u, .int .i64 16, .bool isS, .bool up, .bool pl, .bool false] w fun e w' => e = .returned (.bool true) ∧ Below w.heap.size w w' := by
  obtain ⟨D, hD⟩ : ∃ D, D = if up then uppD else lowD := ⟨_, rfl⟩
  have HDu : Hid (D = if up then uppD else lowD) := hD
  have HDG : Hid (Digs D) := by rw [hD]; cases up; exact low_digs; exact upp_digs
  have HDI : Hid (Inj D) := by rw [hD]; cases up; exact low_inj; exact upp_inj
  have HDB : Hid (∀ d, d < 16 → 48 ≤ (D.get! d).toNat) := by rw [hD]; cases up; exact low_big; exact upp_big
  have HM : Hid (w.cell? ⟨4, 0, none⟩ = some (.int .i64 2147483647)) := hmax
  have hD17 : D.size = 17 := HDG.out.sz
  obtain ⟨neg, hneg⟩ : ∃ n, n = negOf isS u := ⟨_, rfl⟩
  obtain ⟨mag, hmag⟩ : ∃ n, n = magOf isS u := ⟨_, rfl⟩
  have HN : Hid (neg = negOf isS u) := hneg
  have HMg : Hid (mag = magOf isS u) := hmag
  have HU : Hid (u < 18446744073709551616) := hu
  have hm64 : mag ≤ 18446744073709551615 := by have := mag_lt isS u hu; have e : (2 : Nat) ^ 64 = 18446744073709551616 := by decide
                                               rw [← hmag, e] at this; omega
  clear hD hmax hneg hmag
  go_enter Edvg.func7, Edvg.ntmps7
  go_upto_if 38 with fail
  go_cut [13] from 24 to 38 (fun s13 w' => s13 = .string D ∧ w = w')
  case first =>
    rcases up with _ | _
    · go_wp2_with fail
      go_meet
      case rel => exact ⟨by rw [HDu.out]; rfl, rfl⟩
    · go_wp2_with fail
      go_meet
      case rel => exact ⟨by rw [HDu.out]; rfl, rfl⟩
  case rest =>
    obtain ⟨rfl, rfl⟩ := hcut
    go_wp2_with fail
    refine (new_fmt false 0 false 0 false pl false false false _ hbig HM.out).mono ?_
    rintro e w1 ⟨rfl, hb1, hv1⟩
    have H1 : Hid (FmtV w1 w.heap.size w.heap.size (w.heap.size + 1) (.slice none 0 0) ⟨false, 0, false, 0, false, pl, false, false, false⟩ []) := hv1
    have B1 : Hid (Below w.heap.size w w1) := hb1
    clear hv1 hb1
    go_wp2_with fail
    refine (zzInteger u 16 isS 118 D _ w.heap.size w.heap.size (w.heap.size + 1) _ _ [] H1.out HU.out HDG.out 0 0 rfl rfl (by omega) (by omega) (by omega) (by omega) (by simp) _ rfl).mono ?_
    rintro e w3 ⟨rfl, hb3, v3, hv3⟩
    have H3 : Hid (FmtV w3 w.heap.size w.heap.size (w.heap.size + 1) v3 ⟨false, 0, false, 0, false, pl, false, false, false⟩ (intOut D 16 isS u false ⟨false, 0, false, 0, false, pl, false, false, false⟩ 0 0)) := hv3
    have B3 : Hid (Below w.heap.size w w3) := B1.out.trans hb3
    clear hv3 hb3 H1 B1
    go_wp2_with fail
    refine (zzOut _ _ _ _ _ _ _ H3.out).mono ?_
    rintro e w' ⟨rfl, rfl⟩
    obtain ⟨sl, st, bd, hrf⟩ := rt_facts HDG.out HDI.out HDB.out 16 (by omega) isS pl false u HU.out
    rw [← HN.out, ← HMg.out] at hrf
    obtain ⟨O, hO⟩ : ∃ O : ByteArray, O = ⟨(intOut D 16 isS u false ⟨false, 0, false, 0, false, pl, false, false, false⟩ 0 0).toArray⟩ := ⟨_, rfl⟩
    rw [← hO] at hrf ⊢
    have HRF : Hid (RtF D 16 false neg pl mag O sl st bd) := hrf
    have hst : st = sl := by rw [HRF.out.mks]; rfl
    have hsz : O.size = st + bd.length := hrf.size
    have hpos : 1 ≤ bd.length := hrf.pos
    have hsm : O.size ≤ 70 := hrf.small
    clear hrf hO H3
    have HSZ : Hid (O.size = st + bd.length) := hsz
    have hO0 : 0 < O.size := by omega
    obtain ⟨hp, hhp⟩ : ∃ hp, hp = (!neg && pl) := ⟨_, rfl⟩
    have HHP : Hid (hp = (!neg && pl)) := hhp
    have HST : Hid (st = sl) := hst
    have hst1 : st + 1 ≤ O.size := by omega
    have hsl1 : sl ≤ 1 := by
      rcases neg with _ | _
      · rcases pl with _ | _
        · have := (HRF.out.snone rfl rfl).1; omega
        · have := (HRF.out.spl rfl rfl).1; omega
      · have := (HRF.out.sneg rfl).1; omega
    have hsl2 : sl + 1 ≤ O.size := by omega
    clear hhp hsz hst
    go_upto_if 59 with fail
    go_cut [16, 17, 18] from 50 to 73 (fun s16 s17 s18 w' => s16 = .int .i64 sl ∧ s17 = .bool neg ∧ s18 = .bool hp ∧ w3 = w')
    case first =>
      rcases neg with _ | _
      · rcases pl with _ | _
        · obtain ⟨a1, a2⟩ := HRF.out.snone rfl rfl
          rw [getB O 0 hO0] at a2
          have HA1 : Hid (sl = 0) := a1
          have t1 : (((O[0]'hO0).toNat : Int) == 45) = false := by simp; omega
          have t2 : (((O[0]'hO0).toNat : Int) == 43) = false := by simp; omega
          clear a1 a2
          go_wp2_with fail
          go_meet
          case rel => exact ⟨by rw [HA1.out]; rfl, rfl, by rw [HHP.out]; rfl, rfl⟩
        · obtain ⟨a1, a2⟩ := HRF.out.spl rfl rfl
          rw [getB O 0 hO0] at a2
          have HA1 : Hid (sl = 1) := a1
          have t1 : (((O[0]'hO0).toNat : Int) == 45) = false := by rw [a2]; rfl
          have t2 : (((O[0]'hO0).toNat : Int) == 43) = true := by rw [a2]; rfl
          clear a1 a2
          go_wp2_with fail
          go_meet
          case rel => exact ⟨by rw [HA1.out]; rfl, rfl, by rw [HHP.out]; rfl, rfl⟩
      · obtain ⟨a1, a2⟩ := HRF.out.sneg rfl
        rw [getB O 0 hO0] at a2
        have HA1 : Hid (sl = 1) := a1
        have t1 : (((O[0]'hO0).toNat : Int) == 45) = true := by rw [a2]; rfl
        clear a1 a2
        go_wp2_with fail
        go_meet
        case rel => exact ⟨by rw [HA1.out]; rfl, rfl, by rw [HHP.out]; rfl, rfl⟩
    case rest =>
      obtain ⟨rfl, rfl, rfl, rfl⟩ := hcut
      have hns1 : ¬ O.size ≤ sl := by omega
      have hns2 : ¬ O.size < sl := by omega
      go_wp2_with fail
      go_loop [16, 21] (fun s16 s21 => ∃ (i j : Nat), s16 = .int .i64 i ∧ i = st + j ∧ j ≤ bd.length ∧ s21 = .int .u64 (horner 16 (bd.take j))) (fun s16 _ => O.size - (intOf s16).toNat)
      case atStart => exact ⟨st, 0, by rw [HST.out] <;> go_num, rfl, by omega, rfl⟩
      case round =>
        obtain ⟨i, j, rfl, hij, hj, rfl⟩ := hrel
        have HIJ : Hid (i = st + j) := hij
        by_cases hlt : j < bd.length
        · have hi : i < O.size := by rw [HSZ.out]; omega
          obtain ⟨dv, hdv⟩ : ∃ dv, dv = bd[j] := ⟨_, rfl⟩
          have hdb : dv < 16 := by rw [hdv]; exact HRF.out.lt j hlt
          have hOi : (O[i]'hi).toNat = (D.get! dv).toNat := by
            rw [← getB O i hi, HIJ.out, HRF.out.bdy j hlt, ← hdv]
          have HST2 : Hid (horner 16 (bd.take (j + 1)) = horner 16 (bd.take j) * 16 + dv) := by
            show _ = _
            rw [horner_step 16 bd j hlt, ← hdv]
          have HLE : Hid (horner 16 (bd.take (j + 1)) ≤ mag) := by
            show _ ≤ _
            have := horner_take_le 16 (by omega) bd (j + 1)
            rw [HRF.out.val] at this; exact this
          obtain ⟨val, hval⟩ : ∃ val, val = horner 16 (bd.take j) := ⟨_, rfl⟩
          rw [← hval]
          have hvb : val * 16 + dv ≤ 18446744073709551615 := by
            have h1 := HLE.out; rw [HST2.out, ← hval] at h1; omega
          have HVAL : Hid (val = horner 16 (bd.take j)) := hval
          clear hdv hval hij
          go_wp2_with (go_at_call 19; refine (digitVal D HDG.out HDI.out dv (by omega) _).mono ?_; rintro e w' ⟨rfl, rfl⟩)
          go_round
          case rel => exact ⟨i + 1, j + 1, by go_num, by have := HIJ.out; omega, by omega, by rw [HST2.out, ← HVAL.out]; go_num⟩
          case measure => simp [intOf]; omega
        · obtain rfl : j = bd.length := by omega
          have HV : Hid (horner 16 (bd.take bd.length) = mag) := by show _ = _; rw [List.take_length]; exact HRF.out.val
          rw [HV.out]
          have hi : i = O.size := by rw [HSZ.out]; exact hij
          have hi2 : ¬ i < O.size := by omega
          have HI : Hid (i = O.size) := hi
          clear hij hi
          go_upto_if 169 with fail
          go_cut [22] from 127 to 184 (fun _ w' => w3 = w')
          case first =>
            by_cases h48 : ((O[sl]'(by omega)).toNat : Int) = 48
            · have q8 : (((O[sl]'(by omega)).toNat : Int) == 48) = true := by simp [h48]
              have h1 : bd.length = 1 := by
                refine HRF.out.hd (by simp) ?_
                rw [HST.out, getB O _ (by omega)]; omega
              have h2 : (O.size : Int) - ((sl : Nat) : Int) ≤ 1 := by have a := HSZ.out; have b := HST.out; omega
              clear h48 h1
              go_wp2_with fail
              go_meet
              case rel => exact rfl
            · have q8 : (((O[sl]'(by omega)).toNat : Int) == 48) = false := by simpa using h48
              clear h48
              go_wp2_with fail
              go_meet
              case rel => exact rfl
          case rest =>
            subst hcut
            go_upto_region 44 with fail
            go_cut [23] from 185 to 190 (fun s23 w' => s23 = .bool neg ∧ w3 = w')
            case first =>
              rcases isS with _ | _
              · go_wp2_with fail
                go_meet
                case rel => exact ⟨by rw [HN.out]; rfl, rfl⟩
              · by_cases h63 : 9223372036854775808 ≤ u
                · have ht : wrap64 (u : Int) < 0 := (neg_test u hu).2 h63
                  go_wp2_with fail
                  go_meet
                  case rel => exact ⟨by rw [HN.out]; simp [negOf, h63], rfl⟩
                · have ht : ¬ wrap64 (u : Int) < 0 := fun e => h63 ((neg_test u hu).1 e)
                  go_wp2_with fail
                  go_meet
                  case rel => exact ⟨by rw [HN.out]; simp [negOf, h63], rfl⟩
            case rest =>
              obtain ⟨rfl, rfl⟩ := hcut
              rcases neg with _ | _
              · have HE : Hid (u = mag) := mag_false HN.out HMg.out
                rcases pl with _ | _
                · have hh : hp = false := HHP.out
                  subst hh
                  go_wp2_with fail
                  go_ret
                  exact ⟨ret_bool (by rw [HE.out]; simp), B3.out⟩
                · have hh : hp = true := HHP.out
                  subst hh
                  go_wp2_with fail
                  go_ret
                  exact ⟨ret_bool (by rw [HE.out]; simp), B3.out⟩
              · have HE : Hid (IntKind.u64.wrap (-(mag : Int)) = (u : Int)) := mag_back HN.out HMg.out HU.out
                have hh : hp = false := by rw [HHP.out]; rfl
                subst hh
                rcases pl with _ | _
                · go_wp2_with fail
                  go_ret
                  exact ⟨ret_bool (by rw [HE.out]; simp), B3.out⟩
                · go_wp2_with fail
                  go_ret
                  exact ⟨ret_bool (by rw [HE.out]; simp), B3.out⟩

set_option maxHeartbeats 4000000 in
set_option maxRecDepth 100000 in
theorem rt_16_true (u : Nat) (hu : u < 18446744073709551616) (isS up pl : Bool) (w : World) (hbig : 5 < w.heap.size) (hmax : w.cell? ⟨4, 0, none⟩ = some (.int .i64 2147483647)) :
    Calls Edvg.prog 7 #[.int .u64 u, .int .i64 16, .bool isS, .bool up, .bool pl, .bool true] w fun e w' => e = .returned (.bool true) ∧ Below w.heap.size w w' := by
  obtain ⟨D, hD⟩ : ∃ D, D = if up then uppD else lowD := ⟨_, rfl⟩
  have HDu : Hid (D = if up then uppD else lowD) := hD
  have HDG : Hid (Digs D) := by rw [hD]; cases up; exact low_digs; exact upp_digs
  have HDI : Hid (Inj D) := by rw [hD]; cases up; exact low_inj; exact upp_inj
  have HDB : Hid (∀ d, d < 16 → 48 ≤ (D.get! d).toNat) := by rw [hD]; cases up; exact low_big; exact upp_big
  have HM : Hid (w.cell? ⟨4, 0, none⟩ = some (.int .i64 2147483647)) := hmax
  have hD17 : D.size = 17 := HDG.out.sz
  obtain ⟨neg, hneg⟩ : ∃ n, n = negOf isS u := ⟨_, rfl⟩
  obtain ⟨mag, hmag⟩ : ∃ n, n = magOf isS u := ⟨_, rfl⟩
  have HN : Hid (neg = negOf isS u) := hneg
  have HMg : Hid (mag = magOf isS u) := hmag
  have HU : Hid (u < 18446744073709551616) := hu
  have hm64 : mag ≤ 18446744073709551615 := by have := mag_lt isS u hu; have e : (2 : Nat) ^ 64 = 18446744073709551616 := by decide
                                               rw [← hmag, e] at this; omega
  clear hD hmax hneg hmag
  go_enter Edvg.func7, Edvg.ntmps7
  go_upto_if 38 with fail
  go_cut [13] from 24 to 38 (fun s13 w' => s13 = .string D ∧ w = w')
  case first =>
    rcases up with _ | _
    · go_wp2_with fail
      go_meet
      case rel => exact ⟨by rw [HDu.out]; rfl, rfl⟩
    · go_wp2_with fail
      go_meet
      case rel => exact ⟨by rw [HDu.out]; rfl, rfl⟩
  case rest =>
    obtain ⟨rfl, rfl⟩ := hcut
    go_wp2_with fail
    refine (new_fmt false 0 false 0 false pl true false false _ hbig HM.out).mono ?_
    rintro e w1 ⟨rfl, hb1, hv1⟩
    have H1 : Hid (FmtV w1 w.heap.size w.heap.size (w.heap.size + 1) (.slice none 0 0) ⟨false, 0, false, 0, false, pl, true, false, false⟩ []) := hv1
    have B1 : Hid (Below w.heap.size w w1) := hb1
    clear hv1 hb1
    go_wp2_with fail
    refine (zzInteger u 16 isS 118 D _ w.heap.size w.heap.size (w.heap.size + 1) _ _ [] H1.out HU.out HDG.out 0 0 rfl rfl (by omega) (by omega) (by omega) (by omega) (by simp) _ rfl).mono ?_
    rintro e w3 ⟨rfl, hb3, v3, hv3⟩
    have H3 : Hid (FmtV w3 w.heap.size w.heap.size (w.heap.size + 1) v3 ⟨false, 0, false, 0, false, pl, true, false, false⟩ (intOut D 16 isS u false ⟨false, 0, false, 0, false, pl, true, false, false⟩ 0 0)) := hv3
    have B3 : Hid (Below w.heap.size w w3) := B1.out.trans hb3
    clear hv3 hb3 H1 B1
    go_wp2_with fail
    refine (zzOut _ _ _ _ _ _ _ H3.out).mono ?_
    rintro e w' ⟨rfl, rfl⟩
    obtain ⟨sl, st, bd, hrf⟩ := rt_facts HDG.out HDI.out HDB.out 16 (by omega) isS pl true u HU.out
    rw [← HN.out, ← HMg.out] at hrf
    obtain ⟨O, hO⟩ : ∃ O : ByteArray, O = ⟨(intOut D 16 isS u false ⟨false, 0, false, 0, false, pl, true, false, false⟩ 0 0).toArray⟩ := ⟨_, rfl⟩
    rw [← hO] at hrf ⊢
    have HRF : Hid (RtF D 16 true neg pl mag O sl st bd) := hrf
    have hst : st = sl + 2 := by rw [HRF.out.mks]; rfl
    have hsz : O.size = st + bd.length := hrf.size
    have hpos : 1 ≤ bd.length := hrf.pos
    have hsm : O.size ≤ 70 := hrf.small
    clear hrf hO H3
    have HSZ : Hid (O.size = st + bd.length) := hsz
    have hO0 : 0 < O.size := by omega
    obtain ⟨hp, hhp⟩ : ∃ hp, hp = (!neg && pl) := ⟨_, rfl⟩
    have HHP : Hid (hp = (!neg && pl)) := hhp
    have HST : Hid (st = sl + 2) := hst
    have hst1 : st + 1 ≤ O.size := by omega
    have hsl1 : sl ≤ 1 := by
      rcases neg with _ | _
      · rcases pl with _ | _
        · have := (HRF.out.snone rfl rfl).1; omega
        · have := (HRF.out.spl rfl rfl).1; omega
      · have := (HRF.out.sneg rfl).1; omega
    have hsl2 : sl + 2 + 1 ≤ O.size := by omega
    clear hhp hsz hst
    go_upto_if 59 with fail
    go_cut [16, 17, 18] from 50 to 73 (fun s16 s17 s18 w' => s16 = .int .i64 sl ∧ s17 = .bool neg ∧ s18 = .bool hp ∧ w3 = w')
    case first =>
      rcases neg with _ | _
      · rcases pl with _ | _
        · obtain ⟨a1, a2⟩ := HRF.out.snone rfl rfl
          rw [getB O 0 hO0] at a2
          have HA1 : Hid (sl = 0) := a1
          have t1 : (((O[0]'hO0).toNat : Int) == 45) = false := by simp; omega
          have t2 : (((O[0]'hO0).toNat : Int) == 43) = false := by simp; omega
          clear a1 a2
          go_wp2_with fail
          go_meet
          case rel => exact ⟨by rw [HA1.out]; rfl, rfl, by rw [HHP.out]; rfl, rfl⟩
        · obtain ⟨a1, a2⟩ := HRF.out.spl rfl rfl
          rw [getB O 0 hO0] at a2
          have HA1 : Hid (sl = 1) := a1
          have t1 : (((O[0]'hO0).toNat : Int) == 45) = false := by rw [a2]; rfl
          have t2 : (((O[0]'hO0).toNat : Int) == 43) = true := by rw [a2]; rfl
          clear a1 a2
          go_wp2_with fail
          go_meet
          case rel => exact ⟨by rw [HA1.out]; rfl, rfl, by rw [HHP.out]; rfl, rfl⟩
      · obtain ⟨a1, a2⟩ := HRF.out.sneg rfl
        rw [getB O 0 hO0] at a2
        have HA1 : Hid (sl = 1) := a1
        have t1 : (((O[0]'hO0).toNat : Int) == 45) = true := by rw [a2]; rfl
        clear a1 a2
        go_wp2_with fail
        go_meet
        case rel => exact ⟨by rw [HA1.out]; rfl, rfl, by rw [HHP.out]; rfl, rfl⟩
    case rest =>
      obtain ⟨rfl, rfl, rfl, rfl⟩ := hcut
      obtain ⟨m0, m1⟩ := HRF.out.mk16 rfl rfl
      rw [getB O _ (by omega)] at m0
      rw [getB O _ (by omega), getB D 16 (by omega)] at m1
      have q0 : (((O[sl]'(by omega)).toNat : Int) != 48) = false := by rw [m0]; rfl
      have q1 : (((O[sl + 1]'(by omega)).toNat : Int) != ((D[16]'(by omega)).toNat : Int)) = false := by rw [m1]; simp
      clear m0 m1
      have hns1 : ¬ O.size ≤ sl + 2 := by omega
      have hns2 : ¬ O.size < sl + 2 := by omega
      have hgd : decide ((O.size : Int) < (sl : Int) + 2) = false := by simp; omega
      have hix0 : (sl : Int) < (O.size : Int) := by omega
      have hwr2 : IntKind.i64.wrap ((sl : Int) + 2) = (sl : Int) + 2 := IntWalk.i64_in _ (by omega)
      have hwr1 : IntKind.i64.wrap ((sl : Int) + 1) = (sl : Int) + 1 := IntWalk.i64_in _ (by omega)
      have hix1 : (sl : Int) + 1 < (O.size : Int) := by omega
      have hix2 : 0 ≤ (sl : Int) + 1 := by omega
      have hix3 : ((sl : Int) + 1).toNat = sl + 1 := by omega
      go_upto_region 23 with fail
      go_quiet (fail)
      obtain ⟨wq, hwq⟩ : ∃ wq : World, wq = w3.drewN nq := ⟨_, rfl⟩
      rw [← hwq]
      have BQ : Hid (Below w.heap.size w wq) := by show Below _ _ wq; rw [hwq]; exact ⟨B3.out.os, B3.out.tape, B3.out.output, B3.out.size, B3.out.block⟩
      clear hwq
      go_wp2_with fail
      go_loop [16, 21] (fun s16 s21 => ∃ (i j : Nat), s16 = .int .i64 i ∧ i = st + j ∧ j ≤ bd.length ∧ s21 = .int .u64 (horner 16 (bd.take j))) (fun s16 _ => O.size - (intOf s16).toNat)
      case atStart => exact ⟨st, 0, by rw [HST.out] <;> go_num, rfl, by omega, rfl⟩
      case round =>
        obtain ⟨i, j, rfl, hij, hj, rfl⟩ := hrel
        have HIJ : Hid (i = st + j) := hij
        by_cases hlt : j < bd.length
        · have hi : i < O.size := by rw [HSZ.out]; omega
          obtain ⟨dv, hdv⟩ : ∃ dv, dv = bd[j] := ⟨_, rfl⟩
          have hdb : dv < 16 := by rw [hdv]; exact HRF.out.lt j hlt
          have hOi : (O[i]'hi).toNat = (D.get! dv).toNat := by
            rw [← getB O i hi, HIJ.out, HRF.out.bdy j hlt, ← hdv]
          have HST2 : Hid (horner 16 (bd.take (j + 1)) = horner 16 (bd.take j) * 16 + dv) := by
            show _ = _
            rw [horner_step 16 bd j hlt, ← hdv]
          have HLE : Hid (horner 16 (bd.take (j + 1)) ≤ mag) := by
            show _ ≤ _
            have := horner_take_le 16 (by omega) bd (j + 1)
            rw [HRF.out.val] at this; exact this
          obtain ⟨val, hval⟩ : ∃ val, val = horner 16 (bd.take j) := ⟨_, rfl⟩
          rw [← hval]
          have hvb : val * 16 + dv ≤ 18446744073709551615 := by
            have h1 := HLE.out; rw [HST2.out, ← hval] at h1; omega
          have HVAL : Hid (val = horner 16 (bd.take j)) := hval
          clear hdv hval hij
          go_wp2_with (go_at_call 19; refine (digitVal D HDG.out HDI.out dv (by omega) _).mono ?_; rintro e w' ⟨rfl, rfl⟩)
          go_round
          case rel => exact ⟨i + 1, j + 1, by go_num, by have := HIJ.out; omega, by omega, by rw [HST2.out, ← HVAL.out]; go_num⟩
          case measure => simp [intOf]; omega
        · obtain rfl : j = bd.length := by omega
          have HV : Hid (horner 16 (bd.take bd.length) = mag) := by show _ = _; rw [List.take_length]; exact HRF.out.val
          rw [HV.out]
          have hi : i = O.size := by rw [HSZ.out]; exact hij
          have hi2 : ¬ i < O.size := by omega
          have HI : Hid (i = O.size) := hi
          clear hij hi
          go_upto_if 169 with fail
          go_cut [22] from 127 to 184 (fun _ w' => wq = w')
          case first =>
            by_cases h48 : ((O[sl + 2]'(by omega)).toNat : Int) = 48
            · have q8 : (((O[sl + 2]'(by omega)).toNat : Int) == 48) = true := by simp [h48]
              have h1 : bd.length = 1 := by
                refine HRF.out.hd (by simp) ?_
                rw [HST.out, getB O _ (by omega)]; omega
              have h2 : (O.size : Int) - ((sl + 2 : Nat) : Int) ≤ 1 := by have a := HSZ.out; have b := HST.out; omega
              clear h48 h1
              go_wp2_with fail
              go_meet
              case rel => exact rfl
            · have q8 : (((O[sl + 2]'(by omega)).toNat : Int) == 48) = false := by simpa using h48
              clear h48
              go_wp2_with fail
              go_meet
              case rel => exact rfl
          case rest =>
            subst hcut
            go_upto_region 44 with fail
            go_cut [23] from 185 to 190 (fun s23 w' => s23 = .bool neg ∧ wq = w')
            case first =>
              rcases isS with _ | _
              · go_wp2_with fail
                go_meet
                case rel => exact ⟨by rw [HN.out]; rfl, rfl⟩
              · by_cases h63 : 9223372036854775808 ≤ u
                · have ht : wrap64 (u : Int) < 0 := (neg_test u hu).2 h63
                  go_wp2_with fail
                  go_meet
                  case rel => exact ⟨by rw [HN.out]; simp [negOf, h63], rfl⟩
                · have ht : ¬ wrap64 (u : Int) < 0 := fun e => h63 ((neg_test u hu).1 e)
                  go_wp2_with fail
                  go_meet
                  case rel => exact ⟨by rw [HN.out]; simp [negOf, h63], rfl⟩
            case rest =>
              obtain ⟨rfl, rfl⟩ := hcut
              rcases neg with _ | _
              · have HE : Hid (u = mag) := mag_false HN.out HMg.out
                rcases pl with _ | _
                · have hh : hp = false := HHP.out
                  subst hh
                  go_wp2_with fail
                  go_ret
                  exact ⟨ret_bool (by rw [HE.out]; simp), BQ.out⟩
                · have hh : hp = true := HHP.out
                  subst hh
                  go_wp2_with fail
                  go_ret
                  exact ⟨ret_bool (by rw [HE.out]; simp), BQ.out⟩
              · have HE : Hid (IntKind.u64.wrap (-(mag : Int)) = (u : Int)) := mag_back HN.out HMg.out HU.out
                have hh : hp = false := by rw [HHP.out]; rfl
                subst hh
                rcases pl with _ | _
                · go_wp2_with fail
                  go_ret
                  exact ⟨ret_bool (by rw [HE.out]; simp), BQ.out⟩
                · go_wp2_with fail
                  go_ret
                  exact ⟨ret_bool (by rw [HE.out]; simp), BQ.out⟩
end Go.Proofs.YoedvwDoor
