/- RuneCountInString at ASCII, padString, fmtBoolean and its shim, walked. -/
import Derived.Test.YoedvwDoorPad
import Derived.Deep.RegionWith
namespace Go.Proofs.YoedvwDoor
open Go.RowKit
set_option linter.unusedVariables false

set_option maxHeartbeats 400000 in
theorem runeCountS (s : ByteArray) (w : World) (hs : s.size ≤ 2147483647) (ha : ∀ (j : Nat) (h : j < s.size), (s[j]'h).toNat < 128) :
    Calls Edvg.prog 32 #[.string s] w fun e w' => e = .returned (.int .i64 s.size) ∧ Below w.heap.size w w' := by
  have HA : Hid (∀ (j : Nat) (h : j < s.size), (s[j]'h).toNat < 128) := ha
  clear ha
  go_enter Edvg.func32, Edvg.ntmps32
  go_wp2
  go_loopw [2] (fun n w' => ∃ (pos : Nat) , w' = w.iter s pos ∧ pos ≤ s.size ∧ n = .int .i64 pos) (fun _ w' => s.size - w'.iterPos w.heap.size)
  case atStart => exact ⟨0, rfl, by omega, rfl⟩
  case round =>
    obtain ⟨pos, rfl, hpos, rfl⟩ := hrel
    by_cases hlt : pos < s.size
    · have hnx : ∀ ty, (Instr.next (.pointer (some ⟨w.heap.size, 0, none⟩)) true ty).run Edvg.prog (w.iter s pos) = _ := fun ty => run_next_ascii w s pos ty hlt (HA.out pos hlt)
      go_wp2
      go_roundw
      case rel => exact ⟨pos + 1, rfl, by omega, by go_num⟩
      case measure => simp; omega
    · have hnx : ∀ ty, (Instr.next (.pointer (some ⟨w.heap.size, 0, none⟩)) true ty).run Edvg.prog (w.iter s pos) = _ := fun ty => run_next_end w s pos ty hlt
      obtain rfl : pos = s.size := by omega
      go_wp2
      go_ret
      exact ⟨rfl, (Below.refl _ _).alloc (Nat.le_refl _) _⟩

theorem runeCountC (s : ByteArray) (w : World) (a : Addr) (x : Value) (hs : s.size ≤ 2147483647) (ha : ∀ (j : Nat) (h : j < s.size), (s[j]'h).toNat < 128) (hc : w.cell? a = some x) :
    Calls Edvg.prog 32 #[.string s] w fun e w' => e = .returned (.int .i64 s.size) ∧ Below w.heap.size w w' ∧ w'.cell? a = some x := by
  refine (runeCountS s w hs ha).mono ?_
  rintro e w' ⟨rfl, hb⟩
  exact ⟨rfl, hb, (hb.cell (World.block_lt_of_cell? w a hc)).trans hc⟩
theorem Below.fromDrewN {n B : Nat} {w w' : World} (h : Below B (w.drewN n) w') : Below B w w' := ⟨h.os, h.tape, h.output, h.size, h.block⟩
theorem Below.fromDrew {B : Nat} {w w' : World} (h : Below B w.drew w') : Below B w w' := ⟨h.os, h.tape, h.output, h.size, h.block⟩

/-- What is written of a text t by width. -/
def padded (f : Fl) (t : List UInt8) : List UInt8 :=
  if f.wp = false ∨ f.wid = 0 then t
  else if f.mi then t ++ List.replicate (f.wid - t.length).toNat (padB f.ze) else List.replicate (f.wid - t.length).toNat (padB f.ze) ++ t

/-- writePadding at whatever number. -/
theorem padding (n : Int) (hn : n ≤ 65536) (W : World) (B b bb : Nat) (v : Value) (f : Fl) (l : List UInt8) (h : FmtV W B b bb v f l) (hs : l.length ≤ 2147000000) :
    Calls Edvg.prog 30 #[.pointer (some ⟨b, 0, none⟩), .int .i64 n] W fun e W' => e = .returned (.tuple #[]) ∧ ∃ v', FmtV W' B b bb v' f (l ++ List.replicate n.toNat (padB f.ze)) ∧ Only bb v.ownBlock W W' ∧ (v'.ownBlock = v.ownBlock ∨ v'.ownBlock = some W.heap.size) := by
  by_cases hp : n ≤ 0
  · refine (padding_no n hp b W).mono ?_
    rintro e W' ⟨rfl, rfl⟩
    refine ⟨rfl, v, ?_, Only.refl _ _ _, Or.inl rfl⟩
    have : n.toNat = 0 := by omega
    rw [this]; simpa using h
  · obtain ⟨m, rfl⟩ : ∃ m : Nat, n = (m : Int) := ⟨n.toNat, by omega⟩
    exact padding_yes m (by omega) W B b bb v f l h (by omega)

set_option maxHeartbeats 1000000 in
theorem padString_plain (s : ByteArray) (W : World) (B b bb : Nat) (v : Value) (f : Fl) (l : List UInt8) (h : FmtV W B b bb v f l) (hl : l.length ≤ 2147000000) (hs : s.size ≤ 65536) (hp : f.wp = false ∨ f.wid = 0) :
    Calls Edvg.prog 25 #[.pointer (some ⟨b, 0, none⟩), .string s] W fun e W' => e = .returned (.tuple #[]) ∧ Below B W W' ∧ ∃ v', FmtV W' B b bb v' f (l ++ s.data.toList) := by
  have h0 := h.c0
  have h1 := h.c1
  have h13 := h.c13
  have H : Hid (FmtV W B b bb v f l) := h
  clear h
  have HP : Hid (f.wp = false ∨ f.wid = 0) := hp
  clear hp
  rcases hwp : f.wp with _ | _
  · rw [hwp] at h1
    clear hwp
    go_enter Edvg.func25, Edvg.ntmps25
    go_wp2_with (go_at_call 31; refine (writeString s _ B b bb v f l H.out (by omega)).mono ?_; rintro e w' ⟨rfl, v', hv', ho, _⟩)
    refine bodyPost_ret (results_none rfl _ _ _) rfl ?_
    exact ⟨rfl, ho.belowF H.out, v', hv'⟩
  · rw [hwp] at h1
    have hw0 : f.wid = 0 := by rcases HP.out with e | e; · rw [hwp] at e; cases e
                               · exact e
    rw [hw0] at h13
    clear hwp hw0
    go_enter Edvg.func25, Edvg.ntmps25
    go_wp2_with (go_at_call 31; refine (writeString s _ B b bb v f l H.out (by omega)).mono ?_; rintro e w' ⟨rfl, v', hv', ho, _⟩)
    refine bodyPost_ret (results_none rfl _ _ _) rfl ?_
    exact ⟨rfl, ho.belowF H.out, v', hv'⟩

set_option maxHeartbeats 1000000 in
theorem padString_wide (s : ByteArray) (W : World) (B b bb : Nat) (v : Value) (f : Fl) (l : List UInt8) (h : FmtV W B b bb v f l) (hl : l.length ≤ 2146000000) (hs : s.size ≤ 65536) (ha : ∀ (j : Nat) (h : j < s.size), (s[j]'h).toNat < 128)
    (hp : f.wp = true) (hw0 : 0 < f.wid) (hw1 : f.wid ≤ 65536) (R : List UInt8) (hR : R = if f.mi then l ++ s.data.toList ++ List.replicate (f.wid - s.size).toNat (padB f.ze) else l ++ List.replicate (f.wid - s.size).toNat (padB f.ze) ++ s.data.toList) :
    Calls Edvg.prog 25 #[.pointer (some ⟨b, 0, none⟩), .string s] W fun e W' => e = .returned (.tuple #[]) ∧ Below B W W' ∧ ∃ v', FmtV W' B b bb v' f R := by
  have HR : Hid (R = if f.mi then l ++ s.data.toList ++ List.replicate (f.wid - s.size).toNat (padB f.ze) else l ++ List.replicate (f.wid - s.size).toNat (padB f.ze) ++ s.data.toList) := hR
  clear hR
  have h0 := h.c0
  have h1 := h.c1
  have h13 := h.c13
  have H : Hid (FmtV W B b bb v f l) := h
  clear h
  rw [hp] at h1
  have hz : (f.wid == 0) = false := by simp; omega
  have HA : Hid (∀ (j : Nat) (h : j < s.size), (s[j]'h).toNat < 128) := ha
  clear hp ha
  go_enter Edvg.func25, Edvg.ntmps25
  go_upto_region 2 with fail
  go_cut [4] (fun s4 w => s4 = .int .i64 (f.wid - s.size) ∧ Below W.heap.size W w)
  case first =>
    go_region_with (go_at_call 32; refine (runeCountC s _ ⟨b, 13, none⟩ (.int .i64 f.wid) (by omega) HA.out (by simpa using h13)).mono ?_; rintro e w' ⟨rfl, hbw, hcw⟩)
    all_goals (
      go_wp2_with fail
      go_meet
      case rel => exact ⟨by rw [IntWalk.i64_in _ (by omega)], hbw.os, hbw.tape, hbw.output, hbw.size, hbw.block⟩)
  case rest =>
    obtain ⟨h4, hbc⟩ := hcut
    subst h4
    have HF : Hid (FmtV wc B b bb v f l) := H.out.below hbc (Nat.le_refl _)
    have HB : Hid (Below W.heap.size W wc) := hbc
    have hB : B ≤ W.heap.size := by have := H.out.bLt; have := H.out.hb; omega
    have k0 := HF.out.c0
    have k3 := HF.out.c3
    clear hbc h0 h1 h13
    rcases hmi : f.mi with _ | _
    · rw [hmi] at k3
      have hR := HR.out
      rw [hmi, if_neg (by simp)] at hR
      have HR2 : Hid (R = l ++ List.replicate (f.wid - s.size).toNat (padB f.ze) ++ s.data.toList) := hR
      clear hmi HR hR
      go_wp2_with fail
      refine (padding (f.wid - s.size) (by omega) _ B b bb v f l HF.out (by omega)).mono ?_
      rintro e w1 ⟨rfl, v1, hv1, ho1, _⟩
      have HF1 : Hid (FmtV w1 B b bb v1 f (l ++ List.replicate (f.wid - s.size).toNat (padB f.ze))) := hv1
      have HO1 : Hid (Only bb v.ownBlock wc w1) := ho1
      have j0 := HF1.out.c0
      clear hv1 ho1 k0 k3
      go_wp2_with fail
      refine (writeString s _ B b bb v1 f _ HF1.out (by simp; omega)).mono ?_
      rintro e w2 ⟨rfl, v2, hv2, ho2, _⟩
      go_wp2_with fail
      go_end0
      exact ⟨rfl, ((HB.out.mono hB).trans (HO1.out.belowF HF.out)).trans (ho2.belowF HF1.out), v2, by rw [HR2.out]; exact hv2⟩
    · rw [hmi] at k3
      have hR := HR.out
      rw [hmi, if_pos rfl] at hR
      have HR2 : Hid (R = l ++ s.data.toList ++ List.replicate (f.wid - s.size).toNat (padB f.ze)) := hR
      clear hmi HR hR
      go_wp2_with fail
      refine (writeString s _ B b bb v f l HF.out (by omega)).mono ?_
      rintro e w1 ⟨rfl, v1, hv1, ho1, _⟩
      have HF1 : Hid (FmtV w1 B b bb v1 f (l ++ s.data.toList)) := hv1
      have HO1 : Hid (Only bb v.ownBlock wc w1) := ho1
      have j0 := HF1.out.c0
      have hsl : s.data.toList.length = s.size := by rw [Array.length_toList]; rfl
      clear hv1 ho1 k0 k3
      go_wp2_with fail
      refine (padding (f.wid - s.size) (by omega) _ B b bb v1 f _ HF1.out (by rw [List.length_append]; omega)).mono ?_
      rintro e w2 ⟨rfl, v2, hv2, ho2, _⟩
      go_wp2_with fail
      go_end0
      exact ⟨rfl, ((HB.out.mono hB).trans (HO1.out.belowF HF.out)).trans (ho2.belowF HF1.out), v2, by rw [HR2.out]; exact hv2⟩
end Go.Proofs.YoedvwDoor
