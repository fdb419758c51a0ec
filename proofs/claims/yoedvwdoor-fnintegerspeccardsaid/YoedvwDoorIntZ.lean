/- fmtInteger at the value 0 with precision 0, its shim, walked. -/
import Derived.Test.YoedvwDoorInt
namespace Go.Proofs.YoedvwDoor
open Go.RowKit
set_option linter.unusedVariables false

theorem hideC {p : Prop} (h : p) : Hid p := h
set_option maxHeartbeats 2000000 in
set_option maxRecDepth 100000 in
theorem fmtIntZ (base : Nat) (isS : Bool) (verb : Int) (D : ByteArray) (W : World) (B b bb : Nat) (v : Value) (f : Fl) (l : List UInt8) (h : FmtV W B b bb v f l)
    (wid : Nat) (hwid : f.wid = (wid : Int)) (hprec : f.prec = 0) (hw1 : wid ≤ 65536) (hpp : f.pp = true) (hl0 : l.length ≤ 2146000000) (R : List UInt8) (hR : R = l ++ List.replicate wid 32) :
    Calls Edvg.prog 23 #[.pointer (some ⟨b, 0, none⟩), .int .u64 0, .int .i64 base, .bool isS, .int .i32 verb, .string D] W fun e W' => e = .returned (.tuple #[]) ∧ Below B W W' ∧ ∃ v', FmtV W' B b bb v' f R := by
  have H : Hid (FmtV W B b bb v f l) := h
  have HWi : Hid (f.wid = (wid : Int)) := hwid
  have HR : Hid (R = l ++ List.replicate wid 32) := hR
  have h1 := h.c1
  have h2 := h.c2
  have h13 := h.c13
  have h14 := h.c14
  rw [hwid] at h13
  rw [hprec] at h14
  rw [hpp] at h2
  have HPr : Hid (f.prec = 0) := hprec
  have HPP : Hid (f.pp = true) := hpp
  clear h hR hwid hprec hpp
  go_enter Edvg.func23, Edvg.ntmps23
  go_upto_region 0 with fail
  go_cut [12] from 20 to 25 (fun s12 w => s12 = .bool false ∧ W = w)
  case first =>
    rcases isS with _ | _
    · go_wp2_with fail
      go_meet
      case rel => exact ⟨rfl, rfl⟩
    · go_wp2_with fail
      go_meet
      case rel => exact ⟨rfl, rfl⟩
  case rest =>
    obtain ⟨rfl, rfl⟩ := hcut
    go_upto_region 4 with fail
    go_cut [44] from 33 to 43 (fun s44 w => s44 = .bool true ∧ W = w)
    case first =>
      rcases hw : f.wp with _ | _
      · rw [hw] at h1
        clear hw
        go_wp2_with fail
        go_meet
        case rel => exact ⟨rfl, rfl⟩
      · rw [hw] at h1
        clear hw
        go_wp2_with fail
        go_meet
        case rel => exact ⟨rfl, rfl⟩
    case rest =>
      obtain ⟨rfl, rfl⟩ := hcut
      obtain ⟨i, hi, hz, hsi, hby⟩ := info_parts info5
      go_upto_if 44 with fail
      go_cut [13] from 45 to 60 (fun s13 w => FmtV w B b bb v f l ∧ Below B W w)
      case first =>
        by_cases h68 : 68 < 3 + wid + 0
        · go_wp2_with fail
          go_quiet (fail)
          go_wp2_with (at_make; refine wpList_make_full _ rfl (.tmp 59) (.tmp 59) 48 rfl B 5 i (.int .u8 0) 1 Edvg.underlying48 hi hz hsi .i64 .i64 (3 + (wid : Int)) (3 + (wid : Int)) (3 + wid) rfl rfl ?l1 ?l2 ?l3 ?l4 ?l5 ?_)
          case l1 => omega
          case l2 => omega
          case l3 => rw [hby]; omega
          case l4 => unfold maxLen; omega
          case l5 => have := H.out.bLt; have := H.out.hb; show B ≤ W.heap.size; omega
          intro w1 ho1 hg1
          have HS : Hid (Scr w1 B b bb v f l W.heap.size 0 (3 + wid) [] ∧ Below B W w1) := scr_made H.out ho1 (by simp [madeCells]) hg1
          clear ho1 hg1
          go_wp2_with fail
          go_meet
          case rel => exact ⟨HS.out.1.fm, HS.out.2⟩
        · go_wp2_with fail
          go_quiet (fail)
          go_wp2_with fail
          go_meet
          case rel => exact ⟨H.out.drewN _, below_drewN' _ _ _⟩
      case rest =>
        obtain ⟨hF, hB⟩ := hcut
        have HF : Hid (FmtV wc B b bb v f l) := hF
        have HB : Hid (Below B W wc) := hB
        have k2 := hF.c2
        have k7 := hF.c7
        have kf7 := hF.fz 7
        have k13 := hF.c13
        have k14 := hF.c14
        rw [HWi.out] at k13
        rw [HPr.out] at k14
        rw [HPP.out] at k2
        clear hF hB h1 h2 h13 h14 hi hz hsi hby
        have k13' := (HF.out.setZe false).c13
        have HWi' : Hid (({ f with ze := false } : Fl).wid = (wid : Int)) := HWi.out
        rw [HWi'.out] at k13'
        go_wp2_with fail
        refine (padding (wid : Int) (by omega) _ B b bb v { f with ze := false } l (HF.out.setZe false) (by omega)).mono ?_
        rintro e w5 ⟨rfl, v5, hv5, ho5, _⟩
        have HF5 : Hid (FmtV w5 B b bb v5 { f with ze := false } R) := by show FmtV _ _ _ _ _ _ R; rw [HR.out]; exact hv5
        have HB5 : Hid (Below B (wc.setCell ⟨b, 7, none⟩ (.bool false)) w5) := ho5.belowF (HF.out.setZe false)
        have j7 := HF5.out.c7
        have jf7 := HF5.out.fz 7
        clear hv5 ho5 k7 kf7 k13 k13' k14 k2
        go_wp2_with fail
        refine bodyPost_ret (results_none rfl _ _ _) rfl ?_
        exact ⟨rfl, ((HB.out.setCell H.out.hb _).trans HB5.out).setCell H.out.hb _, v5, HF5.out.setZe f.ze⟩

theorem mag_zero {isS : Bool} {u : Nat} (hu : u < 18446744073709551616) (h : magOf isS u = 0) : u = 0 := by
  unfold magOf at h
  split at h <;> omega

/-- What fmtInteger writes. -/
def intOut (D : ByteArray) (base : Nat) (isS : Bool) (u : Nat) (o : Bool) (f : Fl) (prec wid : Nat) : List UInt8 :=
  if f.pp = true ∧ prec = 0 ∧ magOf isS u = 0 then List.replicate wid 32 else padded { f with ze := false } (textOf D base isS u o f prec wid)

theorem fmtInteger (u : Nat) (base : Nat) (isS : Bool) (verb : Int) (D : ByteArray) (W : World) (B b bb : Nat) (v : Value) (f : Fl) (l : List UInt8) (h : FmtV W B b bb v f l)
    (hu : u < 18446744073709551616) (hD : Digs D) (wid prec : Nat) (hwid : f.wid = (wid : Int)) (hprec : f.prec = (prec : Int)) (hw1 : wid ≤ 65536) (hp1 : prec ≤ 65536)
    (hbase : base = 2 ∨ base = 8 ∨ base = 10 ∨ base = 16) (hO : verb = 79 → base = 8) (hl0 : l.length ≤ 2146000000) (R : List UInt8) (hR : R = l ++ intOut D base isS u (decide (verb = 79)) f prec wid) :
    Calls Edvg.prog 23 #[.pointer (some ⟨b, 0, none⟩), .int .u64 u, .int .i64 base, .bool isS, .int .i32 verb, .string D] W fun e W' => e = .returned (.tuple #[]) ∧ Below B W W' ∧ ∃ v', FmtV W' B b bb v' f R := by
  subst hR
  unfold intOut
  by_cases hc : f.pp = true ∧ prec = 0 ∧ magOf isS u = 0
  · rw [if_pos hc]
    obtain ⟨h1, rfl, h3⟩ := hc
    have h4 : u = 0 := mag_zero hu h3
    subst h4
    exact fmtIntZ base isS verb D W B b bb v f l h wid hwid hprec hw1 h1 hl0 _ rfl
  · rw [if_neg hc]
    exact fmtInt u base isS verb D W B b bb v f l h hu hD wid prec hwid hprec hw1 hp1 (fun a b c => hc ⟨a, b, c⟩) hbase hO hl0 _ rfl

set_option maxHeartbeats 400000 in
theorem zzInteger (u : Nat) (base : Nat) (isS : Bool) (verb : Int) (D : ByteArray) (W : World) (B b bb : Nat) (v : Value) (f : Fl) (l : List UInt8) (h : FmtV W B b bb v f l)
    (hu : u < 18446744073709551616) (hD : Digs D) (wid prec : Nat) (hwid : f.wid = (wid : Int)) (hprec : f.prec = (prec : Int)) (hw1 : wid ≤ 65536) (hp1 : prec ≤ 65536)
    (hbase : base = 2 ∨ base = 8 ∨ base = 10 ∨ base = 16) (hO : verb = 79 → base = 8) (hl0 : l.length ≤ 2146000000) (R : List UInt8) (hR : R = l ++ intOut D base isS u (decide (verb = 79)) f prec wid) :
    Calls Edvg.prog 18 #[.pointer (some ⟨b, 0, none⟩), .int .u64 u, .int .i64 base, .bool isS, .int .i32 verb, .string D] W fun e W' => e = .returned (.tuple #[]) ∧ Below B W W' ∧ ∃ v', FmtV W' B b bb v' f R := by
  have HC := hideC (fmtInteger u base isS verb D W B b bb v f l h hu hD wid prec hwid hprec hw1 hp1 hbase hO hl0 R hR)
  clear h hu hD hwid hprec hw1 hp1 hbase hO hl0 hR
  go_enter Edvg.func18, Edvg.ntmps18
  go_wp2_with (go_at_call 23; refine HC.out.mono ?_; rintro e w' ⟨rfl, hb, v', hv'⟩)
  go_end0
  exact ⟨rfl, hb, v', hv'⟩
end Go.Proofs.YoedvwDoor
