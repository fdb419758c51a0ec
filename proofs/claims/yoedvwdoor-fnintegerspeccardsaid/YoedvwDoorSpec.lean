/- FnIntegerSpec, walked. -/
import Derived.Test.YoedvwDoorRepr
import Derived.Test.YoedvwDoorIntZ
import Derived.Test.YoedvwDoorNew
import Derived.Test.YoedvwDoorRt
import Derived.Deep.CutBlock
namespace Go.Proofs.YoedvwDoor
open Go.RowKit
set_option linter.unusedVariables false

theorem extract_one (D : ByteArray) (k : Nat) (h : k < D.size) : D.extract k (k + 1) = ⟨[D.get! k].toArray⟩ := by
  apply ByteArray.ext
  rw [getB D k h]
  simp only [ByteArray.data_extract]
  have h2 : k < D.data.size := h
  apply Array.ext
  · simp; omega
  · intro i h1 h3
    simp at h3
    subst h3
    simp
    rfl
theorem mag_spec {s : Bool} {u m : Nat} (h : true = negOf s u) (hm : m = magOf s u) (hu : u < 18446744073709551616) : IntKind.u64.wrap (IntKind.u64.wrap (wrap64 (-wrap64 (wrap64 (u : Int) + 1))) + 1) = (m : Int) := by
  have h63 : 9223372036854775808 ≤ u := by
    unfold negOf at h
    have := h.symm
    simp at this
    exact this.2
  rw [hm]; unfold magOf; rw [← h, if_pos rfl, IntKind.wrap_u64, IntKind.wrap_u64]
  unfold wrap64
  omega

set_option maxHeartbeats 4000000 in
set_option maxRecDepth 100000 in
theorem spec6 (u base : Nat) (isS : Bool) (verb : Int) (up wp : Bool) (wid : Nat) (pp : Bool) (prec : Nat) (fl : Int) (hu : u < 18446744073709551616) (hw1 : wid ≤ 65536) (hp1 : prec ≤ 65536)
    (hbase : base = 2 ∨ base = 8 ∨ base = 10 ∨ base = 16) (hO : verb = 79 → base = 8) (w : World) (hbig : 5 < w.heap.size) (hmax : w.cell? ⟨4, 0, none⟩ = some (.int .i64 2147483647)) :
    Calls Edvg.prog 6 #[.int .u64 u, .int .i64 base, .bool isS, .int .i32 verb, .bool up, .bool wp, .int .i64 wid, .bool pp, .int .i64 prec, .int .u8 fl] w fun e w' => e = .returned (.bool true) ∧ Below w.heap.size w w' := by
  obtain ⟨D, hD⟩ : ∃ D, D = if up then uppD else lowD := ⟨_, rfl⟩
  have HDu : Hid (D = if up then uppD else lowD) := hD
  have HDG : Hid (Digs D) := by rw [hD]; cases up; exact low_digs; exact upp_digs
  have HM : Hid (w.cell? ⟨4, 0, none⟩ = some (.int .i64 2147483647)) := hmax
  have hD17 : D.size = 17 := HDG.out.sz
  obtain ⟨neg, hneg⟩ : ∃ n, n = negOf isS u := ⟨_, rfl⟩
  obtain ⟨mag, hmag⟩ : ∃ n, n = magOf isS u := ⟨_, rfl⟩
  have HN : Hid (neg = negOf isS u) := hneg
  have HMg : Hid (mag = magOf isS u) := hmag
  have HU : Hid (u < 18446744073709551616) := hu
  have HBS : Hid (base = 2 ∨ base = 8 ∨ base = 10 ∨ base = 16) := hbase
  have HO : Hid (verb = 79 → base = 8) := hO
  have hm64 : mag < 18446744073709551616 := by rw [hmag]; exact mag_lt isS u hu
  obtain ⟨mi, hmi⟩ : ∃ mi, (bits BinOp.and IntKind.u8 fl 1 != 0) = mi := ⟨_, rfl⟩
  obtain ⟨pl, hpl⟩ : ∃ pl, (bits BinOp.and IntKind.u8 fl 2 != 0) = pl := ⟨_, rfl⟩
  obtain ⟨sh, hsh⟩ : ∃ sh, (bits BinOp.and IntKind.u8 fl 4 != 0) = sh := ⟨_, rfl⟩
  obtain ⟨sp, hsp⟩ : ∃ sp, (bits BinOp.and IntKind.u8 fl 8 != 0) = sp := ⟨_, rfl⟩
  obtain ⟨ze, hze⟩ : ∃ ze, (bits BinOp.and IntKind.u8 fl 16 != 0) = ze := ⟨_, rfl⟩
  clear hD hmax hneg hmag hbase hO
  go_enter Edvg.func6, Edvg.ntmps6
  go_upto_region 5 with fail
  go_cut [59] from 46 to 58 (fun s59 w' => s59 = .bool false ∧ w = w')
  case first =>
    rcases HBS.out with hb | hb | hb | hb
    · subst hb
      go_wp2_with fail
      go_meet
      case rel => exact ⟨rfl, rfl⟩
    · subst hb
      go_wp2_with fail
      go_meet
      case rel => exact ⟨rfl, rfl⟩
    · subst hb
      go_wp2_with fail
      go_meet
      case rel => exact ⟨rfl, rfl⟩
    · subst hb
      go_wp2_with fail
      go_meet
      case rel => exact ⟨rfl, rfl⟩
  case rest =>
    obtain ⟨rfl, rfl⟩ := hcut
    go_upto_region 7 with fail
    go_cut [65] from 60 to 64 (fun s65 w' => s65 = .bool false ∧ w = w')
    case first =>
      by_cases hv : verb = 79
      · have t1 : (verb == 79) = true := by simp [hv]
        have t2 : ((base : Int) != 8) = false := by rw [HO.out hv]; rfl
        clear hv
        go_wp2_with fail
        go_meet
        case rel => exact ⟨rfl, rfl⟩
      · have t1 : (verb == 79) = false := by simpa using hv
        clear hv
        go_wp2_with fail
        go_meet
        case rel => exact ⟨rfl, rfl⟩
    case rest =>
      obtain ⟨rfl, rfl⟩ := hcut
      go_upto_if 81 with fail
      go_cut [26] from 34 to 81 (fun s26 w' => s26 = .string D ∧ w = w')
      case first =>
        rcases up with _ | _
        · go_wp2_with fail
          go_meet
          case rel => exact ⟨by rw [HDu.out]; rfl, rfl⟩
        · go_wp2_with fail
          go_meet
          case rel => exact ⟨by rw [HDu.out]; rfl, rfl⟩
      case rest =>
        obtain ⟨rfl, rfl⟩ := hcut
        clear hmi hpl hsh hsp hze
        go_wp2_with fail
        obtain ⟨f, hf⟩ : ∃ f : Fl, f = ⟨wp, wid, pp, prec, mi, pl, sh, sp, ze⟩ := ⟨_, rfl⟩
        refine (new_fmt wp wid pp prec mi pl sh sp ze _ hbig HM.out).mono ?_
        rw [← hf]
        have HF : Hid (f = ⟨wp, wid, pp, prec, mi, pl, sh, sp, ze⟩) := hf
        clear hf
        rintro e w1 ⟨rfl, hb1, hv1⟩
        have H1 : Hid (FmtV w1 w.heap.size w.heap.size (w.heap.size + 1) (.slice none 0 0) f []) := hv1
        have B1 : Hid (Below w.heap.size w w1) := hb1
        clear hv1 hb1
        obtain ⟨G, hG⟩ : ∃ G, G = intOut D base isS u (decide (verb = 79)) f prec wid := ⟨_, rfl⟩
        have HG : Hid (G = intOut D base isS u (decide (verb = 79)) f prec wid) := hG
        clear hG
        go_wp2_with fail
        refine (zzInteger u base isS verb D _ w.heap.size w.heap.size (w.heap.size + 1) _ f [] H1.out HU.out HDG.out wid prec (by rw [HF.out]) (by rw [HF.out]) hw1 hp1 HBS.out HO.out (by simp) G (by rw [HG.out]; rfl)).mono ?_
        rintro e w3 ⟨rfl, hb3, v3, hv3⟩
        have H3 : Hid (FmtV w3 w.heap.size w.heap.size (w.heap.size + 1) v3 f G) := hv3
        have B3 : Hid (Below w.heap.size w w3) := B1.out.trans hb3
        have hwz : w.heap.size ≤ w3.heap.size := B3.out.size
        clear hv3 hb3 H1 B1
        go_wp2_with fail
        refine (zzOut _ _ _ _ _ _ _ H3.out).mono ?_
        rintro e w' ⟨rfl, rfl⟩
        obtain ⟨GS, hGS⟩ : ∃ GS : ByteArray, GS = ⟨G.toArray⟩ := ⟨_, rfl⟩
        rw [← hGS]
        have HGS : Hid (GS = ⟨G.toArray⟩) := hGS
        clear hGS
        go_wp2_with fail
        refine (zzZero _ _ _ _ _ _ _ H3.out).mono ?_
        rintro e w' ⟨rfl, rfl⟩
        have hfz : f.ze = ze := by rw [HF.out]
        rw [hfz]
        clear hfz H3
        go_upto_region 22 with fail
        go_cut [29] from 82 to 110 (fun s29 w' => s29 = .bool neg ∧ w3 = w')
        case first =>
          rcases isS with _ | _
          · go_wp2_with fail
            go_meet
            case rel => exact ⟨by rw [HN.out]; rfl, rfl⟩
          · by_cases h63 : 9223372036854775808 ≤ u
            · have ht : wrap64 (u : Int) < 0 := (neg_test u hu).2 h63
              go_wp2_with fail
              go_meet
              case rel => exact ⟨by rw [HN.out]; simp [negOf, h63], rfl⟩
            · have ht : ¬ wrap64 (u : Int) < 0 := fun e => h63 ((neg_test u hu).1 e)
              go_wp2_with fail
              go_meet
              case rel => exact ⟨by rw [HN.out]; simp [negOf, h63], rfl⟩
        case rest =>
          obtain ⟨rfl, rfl⟩ := hcut
          go_upto_if 112 with fail
          go_cut [30] from 111 to 118 (fun s30 w' => s30 = .int .u64 mag ∧ w3 = w')
          case first =>
            rcases neg with _ | _
            · have HE : Hid (u = mag) := mag_false HN.out HMg.out
              go_wp2_with fail
              go_meet
              case rel => exact ⟨by rw [HE.out], rfl⟩
            · have HE : Hid (IntKind.u64.wrap (IntKind.u64.wrap (wrap64 (-wrap64 (wrap64 (u : Int) + 1))) + 1) = (mag : Int)) := mag_spec HN.out HMg.out HU.out
              go_wp2_with fail
              go_meet
              case rel => exact ⟨by rw [HE.out], rfl⟩
          case rest =>
            obtain ⟨rfl, rfl⟩ := hcut
            by_cases hZ : pp = true ∧ prec = 0 ∧ mag = 0
            · have HGZ : Hid (GS = ⟨(List.replicate ((wid : Int)).toNat 32).toArray⟩) := by
                show GS = _
                rw [HGS.out, HG.out]
                unfold intOut
                rw [if_pos ⟨by rw [HF.out]; exact hZ.1, hZ.2.1, by rw [← HMg.out]; exact hZ.2.2⟩]
                simp
              obtain ⟨rfl, hz2, hz3⟩ := hZ
              have t1 : ((prec : Int) == 0) = true := by simp [hz2]
              have t2 : ((mag : Int) == 0) = true := by simp [hz3]
              clear hz2 hz3
              go_wp2_with fail
              refine (zzRep 32 (wid : Int) (by omega) _ GS HGZ.out).mono ?_
              rintro e w5 ⟨rfl, hb5⟩
              go_wp2_with fail
              go_ret
              exact ⟨rfl, B3.out.trans (hb5.mono hwz)⟩
            · have HNZ : Hid (¬ (pp = true ∧ prec = 0 ∧ mag = 0)) := hZ
              clear hZ
              obtain ⟨ds, hds⟩ : ∃ ds, ds = repr D base 64 mag := ⟨_, rfl⟩
              obtain ⟨p, hp⟩ : ∃ p, p = precOf pp prec ze wp wid neg pl sp := ⟨_, rfl⟩
              have hpA : -1 ≤ p := by rw [hp]; unfold precOf; (repeat' split) <;> omega
              have hpB : p ≤ 65536 := by rw [hp]; unfold precOf; (repeat' split) <;> omega
              obtain ⟨n0, hn0⟩ : ∃ n0, n0 = withZeros p ds := ⟨_, rfl⟩
              obtain ⟨n1, hn1⟩ : ∃ n1, n1 = sharpT D base sh n0 := ⟨_, rfl⟩
              obtain ⟨n2, hn2⟩ : ∃ n2, n2 = verbT (decide (verb = 79)) n1 := ⟨_, rfl⟩
              obtain ⟨n3, hn3⟩ : ∃ n3, n3 = signT neg pl sp n2 := ⟨_, rfl⟩
              have hfit := fits D base mag hm64 HBS.out (decide (verb = 79)) (fun e => HO.out (of_decide_eq_true e)) wp pp wid prec ze neg pl sp sh n0 n1 n2 n3 (by rw [← hp, ← hds]; exact hn0) hn1 hn2 hn3
              have hbl : bufLen wp pp wid prec ≤ 131075 := by unfold bufLen; split <;> omega
              obtain ⟨f0, f1, f2, f3, f4⟩ := hfit
              have hn3l : n3.length ≤ 131075 := by omega
              have hdl : ds.length ≤ 64 := by rw [hds]; exact (repr_len D base mag hm64 HBS.out).2.1
              have HGm : Hid (G = padded { f with ze := false } n3) := by
                show G = _
                rw [HG.out]
                unfold intOut
                rw [if_neg (by rw [HF.out, ← HMg.out]; exact HNZ.out)]
                unfold textOf
                rw [hn3, hn2, hn1, hn0, hds, hp, HN.out, HMg.out, HF.out]
              have HDS : Hid (ds = repr D base 64 mag) := hds
              have HP : Hid (p = precOf pp prec ze wp wid neg pl sp) := hp
              have HN0 : Hid (n0 = withZeros p ds) := hn0
              have HN1 : Hid (n1 = sharpT D base sh n0) := hn1
              have HN2 : Hid (n2 = verbT (decide (verb = 79)) n1) := hn2
              have HN3 : Hid (n3 = signT neg pl sp n2) := hn3
              obtain ⟨DS, hDS⟩ : ∃ DS : ByteArray, DS = ⟨ds.toArray⟩ := ⟨_, rfl⟩
              have hDSs : DS.size ≤ 64 := by rw [hDS]; exact hdl
              have HDSs : Hid (DS.size = ds.length) := by rw [hDS]; rfl
              have HDSb : Hid (DS = ⟨ds.toArray⟩) := hDS
              have hb16 : base ≤ 16 := by rcases HBS.out with e | e | e | e <;> omega
              clear hds hp hn0 hn1 hn2 hn3 hDS f4 hbl
              go_upto_region 26 with fail
              go_cut [127] from 119 to 126 (fun s127 w' => s127 = .bool false ∧ w3 = w')
              case first =>
                rcases pp with _ | _
                · go_wp2_with fail
                  go_meet
                  case rel => exact ⟨rfl, rfl⟩
                · by_cases hq : prec = 0
                  · have t1 : ((prec : Int) == 0) = true := by simp [hq]
                    have t2 : ((mag : Int) == 0) = false := by
                      have : mag ≠ 0 := fun e => HNZ.out ⟨rfl, hq, e⟩
                      simp; omega
                    clear hq
                    go_wp2_with fail
                    go_meet
                    case rel => exact ⟨rfl, rfl⟩
                  · have t1 : ((prec : Int) == 0) = false := by simp; omega
                    clear hq
                    go_wp2_with fail
                    go_meet
                    case rel => exact ⟨rfl, rfl⟩
              case rest =>
                obtain ⟨rfl, rfl⟩ := hcut
                go_wp2_with fail
                refine (zzRepr mag base D HDG.out HBS.out hm64 _ DS (by rw [HDSb.out, HDS.out])).mono ?_
                rintro e w4 ⟨rfl, hb4⟩
                have B4 : Hid (Below w.heap.size w w4) := B3.out.trans (hb4.mono hwz)
                have hwz4 : w.heap.size ≤ w4.heap.size := B4.out.size
                clear hb4
                go_upto_if 137 with fail
                go_cut [32] from 128 to 152 (fun s32 w' => s32 = .int .i64 p ∧ w4 = w')
                case first =>
                  rcases pp with _ | _
                  · rcases ze with _ | _
                    · have HP2 : Hid (p = 0) := HP.out
                      go_wp2_with fail
                      go_meet
                      case rel => exact ⟨by rw [HP2.out], rfl⟩
                    · rcases wp with _ | _
                      · have HP2 : Hid (p = 0) := HP.out
                        go_wp2_with fail
                        go_meet
                        case rel => exact ⟨by rw [HP2.out], rfl⟩
                      · rcases neg with _ | _
                        · rcases pl with _ | _
                          · rcases sp with _ | _
                            · have HP2 : Hid (p = wid) := HP.out
                              go_wp2_with fail
                              go_meet
                              case rel => exact ⟨by rw [HP2.out], rfl⟩
                            · have HP2 : Hid (p = wid - 1) := HP.out
                              go_wp2_with fail
                              go_meet
                              case rel => exact ⟨by rw [HP2.out], rfl⟩
                          · have HP2 : Hid (p = wid - 1) := HP.out
                            go_wp2_with fail
                            go_meet
                            case rel => exact ⟨by rw [HP2.out], rfl⟩
                        · have HP2 : Hid (p = wid - 1) := HP.out
                          go_wp2_with fail
                          go_meet
                          case rel => exact ⟨by rw [HP2.out], rfl⟩
                  · have HP2 : Hid (p = prec) := HP.out
                    go_wp2_with fail
                    go_meet
                    case rel => exact ⟨by rw [HP2.out], rfl⟩
                case rest =>
                  obtain ⟨rfl, rfl⟩ := hcut
                  obtain ⟨N0, hN0⟩ : ∃ N : ByteArray, N = ⟨n0.toArray⟩ := ⟨_, rfl⟩
                  obtain ⟨N1, hN1⟩ : ∃ N : ByteArray, N = ⟨n1.toArray⟩ := ⟨_, rfl⟩
                  obtain ⟨N2, hN2⟩ : ∃ N : ByteArray, N = ⟨n2.toArray⟩ := ⟨_, rfl⟩
                  obtain ⟨N3, hN3⟩ : ∃ N : ByteArray, N = ⟨n3.toArray⟩ := ⟨_, rfl⟩
                  have hs0 : N0.size ≤ 131075 := by rw [hN0, str_size]; omega
                  have hs0p : 0 < N0.size := by rw [hN0, str_size]; omega
                  have hs1 : N1.size ≤ 131075 := by rw [hN1, str_size]; omega
                  have hs2 : N2.size ≤ 131075 := by rw [hN2, str_size]; omega
                  have hs3 : N3.size ≤ 131075 := by rw [hN3, str_size]; omega
                  have HB0 : Hid (N0 = ⟨n0.toArray⟩) := hN0
                  have HB1 : Hid (N1 = ⟨n1.toArray⟩) := hN1
                  have HB2 : Hid (N2 = ⟨n2.toArray⟩) := hN2
                  have HB3 : Hid (N3 = ⟨n3.toArray⟩) := hN3
                  have HS3 : Hid ((N3.size : Int) = n3.length) := by rw [hN3, str_size]; rfl
                  obtain ⟨Z, hZ⟩ : ∃ Z : ByteArray, Z = ⟨(List.replicate (p - (DS.size : Int)).toNat 48).toArray⟩ := ⟨_, rfl⟩
                  have hZs : Z.size ≤ 65536 := by rw [hZ, str_size, List.length_replicate]; omega
                  have HZ : Hid (Z = ⟨(List.replicate (p - (DS.size : Int)).toNat 48).toArray⟩) := hZ
                  have HZD : Hid (Z ++ DS = N0) := by
                    show Z ++ DS = N0
                    rw [HZ.out, HDSb.out, hN0, HN0.out, ← str_append]; rfl
                  clear hN0 hN1 hN2 hN3 hZ f0 f1 f2 f3 hn3l hdl
                  go_upto_region 36 with fail
                  go_cut [33] from 153 to 159 (fun s33 w' => s33 = .string N0 ∧ Below w.heap.size w w')
                  case first =>
                    go_wp2_with fail
                    refine (zzRep 48 (p - (DS.size : Int)) (by omega) _ Z HZ.out).mono ?_
                    rintro e w5 ⟨rfl, hb5⟩
                    have B5 : Hid (Below w.heap.size w w5) := B4.out.trans (hb5.mono hwz4)
                    clear hb5
                    go_wp2_with fail
                    go_meet
                    case rel => exact ⟨by rw [HZD.out], B5.out⟩
                  case rest =>
                    obtain ⟨rfl, hb6⟩ := hcut
                    obtain ⟨w6, rfl⟩ : ∃ w6 : World, w6 = wc := ⟨_, rfl⟩
                    have B6 : Hid (Below w.heap.size w w6) := hb6
                    have hwz6 : w.heap.size ≤ w6.heap.size := hb6.size
                    clear hb6
                    go_upto_if 160 with fail
                    go_cut [33] from 160 to 178 (fun s33 w' => s33 = .string N1 ∧ w6 = w')
                    case first =>
                      rcases sh with _ | _
                      · have HE : Hid (N0 = N1) := by show N0 = N1; rw [HB0.out, HB1.out, HN1.out]; rfl
                        go_wp2_with fail
                        go_meet
                        case rel => exact ⟨by rw [HE.out], rfl⟩
                      · rcases HBS.out with hb | hb | hb | hb
                        · subst hb
                          have HE : Hid ((⟨#[48, 98]⟩ : ByteArray) ++ N0 = N1) := by
                            show (⟨#[48, 98]⟩ : ByteArray) ++ N0 = N1
                            rw [HB0.out, HB1.out, HN1.out]
                            exact (str_append [48, 98] n0).symm
                          go_wp2_with fail
                          go_meet
                          case rel => exact ⟨by rw [HE.out], rfl⟩
                        · subst hb
                          obtain ⟨c, r, hcr⟩ : ∃ c r, n0 = c :: r := by
                            cases hn : n0 with
                            | nil => rw [HB0.out, hn] at hs0p; simp [ByteArray.size] at hs0p
                            | cons c r => exact ⟨c, r, rfl⟩
                          have hx : (N0[0]'hs0p).toNat = c.toNat := by
                            rw [← getB N0 0 hs0p, HB0.out, hcr]; rfl
                          by_cases hc : c = 48
                          · have HE : Hid (N0 = N1) := by show N0 = N1; rw [HB0.out, HB1.out, HN1.out, sharp8_yes hcr hc]
                            have t1 : (((N0[0]'hs0p).toNat : Int) != 48) = false := by rw [hx, hc]; rfl
                            clear hcr hc hx
                            go_wp2_with fail
                            go_meet
                            case rel => exact ⟨by rw [HE.out], rfl⟩
                          · have HE : Hid ((⟨#[48]⟩ : ByteArray) ++ N0 = N1) := by
                              show (⟨#[48]⟩ : ByteArray) ++ N0 = N1
                              rw [HB0.out, HB1.out, HN1.out, sharp8_no hcr hc]
                              exact (str_append [48] n0).symm
                            have t1 : (((N0[0]'hs0p).toNat : Int) != 48) = true := by rw [hx]; exact u8_ne hc
                            clear hcr hc hx
                            go_wp2_with fail
                            go_meet
                            case rel => exact ⟨by rw [HE.out], rfl⟩
                        · subst hb
                          have HE : Hid (N0 = N1) := by show N0 = N1; rw [HB0.out, HB1.out, HN1.out]; rfl
                          go_wp2_with fail
                          go_meet
                          case rel => exact ⟨by rw [HE.out], rfl⟩
                        · subst hb
                          have HE : Hid ((⟨#[48]⟩ : ByteArray) ++ D.extract 16 17 ++ N0 = N1) := by
                            show (⟨#[48]⟩ : ByteArray) ++ D.extract 16 17 ++ N0 = N1
                            have e1 : D.extract 16 17 = ⟨[D.get! 16].toArray⟩ := extract_one D 16 (by omega)
                            rw [HB0.out, HB1.out, HN1.out, e1]
                            have e2 : (⟨#[48]⟩ : ByteArray) ++ ⟨[D.get! 16].toArray⟩ = ⟨[48, D.get! 16].toArray⟩ := (str_append [48] [D.get! 16]).symm
                            rw [e2]
                            exact (str_append [48, D.get! 16] n0).symm
                          go_wp2_with fail
                          go_meet
                          case rel => exact ⟨by rw [HE.out], rfl⟩
                    case rest =>
                      obtain ⟨rfl, rfl⟩ := hcut
                      go_upto_if 180 with fail
                      go_cut [33] from 179 to 182 (fun s33 w' => s33 = .string N2 ∧ w6 = w')
                      case first =>
                        by_cases hv : verb = 79
                        · have HE : Hid ((⟨#[48, 111]⟩ : ByteArray) ++ N1 = N2) := by
                            show (⟨#[48, 111]⟩ : ByteArray) ++ N1 = N2
                            rw [HB1.out, HB2.out, HN2.out, decide_eq_true hv]
                            exact (str_append [48, 111] n1).symm
                          have t1 : (verb == 79) = true := by simp [hv]
                          clear hv
                          go_wp2_with fail
                          go_meet
                          case rel => exact ⟨by rw [HE.out], rfl⟩
                        · have HE : Hid (N1 = N2) := by show N1 = N2; rw [HB1.out, HB2.out, HN2.out, decide_eq_false hv]; rfl
                          have t1 : (verb == 79) = false := by simpa using hv
                          clear hv
                          go_wp2_with fail
                          go_meet
                          case rel => exact ⟨by rw [HE.out], rfl⟩
                      case rest =>
                        obtain ⟨rfl, rfl⟩ := hcut
                        go_upto_if 183 with fail
                        go_cut [33] from 183 to 191 (fun s33 w' => s33 = .string N3 ∧ w6 = w')
                        case first =>
                          rcases neg with _ | _
                          · rcases pl with _ | _
                            · rcases sp with _ | _
                              · have HE : Hid (N2 = N3) := by show N2 = N3; rw [HB2.out, HB3.out, HN3.out]; rfl
                                go_wp2_with fail
                                go_meet
                                case rel => exact ⟨by rw [HE.out], rfl⟩
                              · have HE : Hid ((⟨#[32]⟩ : ByteArray) ++ N2 = N3) := by
                                  show (⟨#[32]⟩ : ByteArray) ++ N2 = N3
                                  rw [HB2.out, HB3.out, HN3.out]
                                  exact (str_append [32] n2).symm
                                go_wp2_with fail
                                go_meet
                                case rel => exact ⟨by rw [HE.out], rfl⟩
                            · have HE : Hid ((⟨#[43]⟩ : ByteArray) ++ N2 = N3) := by
                                show (⟨#[43]⟩ : ByteArray) ++ N2 = N3
                                rw [HB2.out, HB3.out, HN3.out]
                                exact (str_append [43] n2).symm
                              go_wp2_with fail
                              go_meet
                              case rel => exact ⟨by rw [HE.out], rfl⟩
                          · have HE : Hid ((⟨#[45]⟩ : ByteArray) ++ N2 = N3) := by
                              show (⟨#[45]⟩ : ByteArray) ++ N2 = N3
                              rw [HB2.out, HB3.out, HN3.out]
                              exact (str_append [45] n2).symm
                            go_wp2_with fail
                            go_meet
                            case rel => exact ⟨by rw [HE.out], rfl⟩
                        case rest =>
                          obtain ⟨rfl, rfl⟩ := hcut
                          have HGF : Hid (GS = ⟨(padded ⟨wp, wid, pp, prec, mi, pl, sh, sp, false⟩ n3).toArray⟩) := by
                            show GS = _
                            rw [HGS.out, HGm.out, HF.out]
                          have hnl : n3.length ≤ 1000000 := by have := HS3.out; omega
                          go_wp2_with fail
                          refine (zzPad n3 N3 HB3.out ⟨wp, wid, pp, prec, mi, pl, sh, sp, false⟩ rfl (by show (0 : Int) ≤ wid; omega) (by show (wid : Int) ≤ 65536; omega) hnl (N3.size : Int) HS3.out _ GS HGF.out).mono ?_
                          rintro e w7 ⟨rfl, hb7⟩
                          go_wp2_with fail
                          go_ret
                          exact ⟨rfl, B6.out.trans (hb7.mono hwz6)⟩
end Go.Proofs.YoedvwDoor
