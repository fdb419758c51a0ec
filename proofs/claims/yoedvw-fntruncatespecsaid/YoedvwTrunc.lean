/- truncateString and its shim, walked: it keeps the bytes of the first 'prec' runes. -/
import Derived.Test.YoedvwRows
import Derived.Test.YoedvwCut
import Derived.WalkKit
import Derived.WalkSpells
import Derived.WalkLawsBesides
namespace Go.Proofs.Yoedvw
open Go.RowKit
open Cut (cutN wd)

theorem ret_str {a b : ByteArray} (h : a = b) : Ending.returned (.string a) = .returned (.string b) := by rw [h]
theorem cut_stop (s : ByteArray) (d : Int) (pos k : Nat) (h : d - 1 < 0) (hc : cutN s d.toNat pos = k) : pos = k := by
  have : d.toNat = 0 := by omega
  rw [this] at hc; exact hc
theorem cut_step (s : ByteArray) (d e : Int) (pos k : Nat) (hlt : pos < s.size) (h : 0 ≤ d - 1) (he : e = d - 1) (hc : cutN s d.toNat pos = k) : cutN s e.toNat (pos + wd s pos) = k := by
  obtain ⟨m, hm⟩ : ∃ m : Nat, d.toNat = m + 1 := ⟨d.toNat - 1, by omega⟩
  have e2 : e.toNat = m := by omega
  rw [hm] at hc; rw [e2]
  unfold cutN at hc; rw [if_pos hlt] at hc; exact hc

set_option maxHeartbeats 400000 in
theorem trunc_yes (s : ByteArray) (b : Nat) (prec : Int) (w : World) (hs : s.size ≤ 1048576) (hp : -1073741824 ≤ prec) (hp2 : prec ≤ 9223372036854775807) (hc2 : w.cell? ⟨b, 2, none⟩ = some (.bool true)) (hc14 : w.cell? ⟨b, 14, none⟩ = some (.int .i64 prec)) :
    Calls Edvg.prog 12 #[.pointer (some ⟨b, 0, none⟩), .string s] w fun e w' => e = .returned (.string (s.extract 0 (cutN s prec.toNat 0))) ∧ Below w.heap.size w w' := by
  go_enter Edvg.func12, Edvg.ntmps12
  go_wp2
  clear hc2 hc14
  go_loopw [5] (fun n w' => ∃ (pos i : Nat) , w' = w.iter s pos ∧ pos ≤ s.size ∧ i ≤ pos ∧ n = .int .i64 (prec - i) ∧ (i : Int) ≤ max prec 0 ∧ cutN s (prec - i).toNat pos = cutN s prec.toNat 0) (fun _ w' => s.size - w'.iterPos w.heap.size)
  case atStart => exact ⟨0, 0, rfl, by omega, by omega, by simp, by omega, by simp⟩
  case round =>
    obtain ⟨pos, i, rfl, hpos, hip, rfl, hi, hc⟩ := hrel
    have HC : Hid (cutN s (prec - i).toNat pos = cutN s prec.toNat 0) := hc
    clear hc
    by_cases hlt : pos < s.size
    · have hnx : ∀ ty, (Instr.next (.pointer (some ⟨w.heap.size, 0, none⟩)) true ty).run Edvg.prog (w.iter s pos) = _ := fun ty => run_next_any w s pos ty hlt
      go_wp2
      · go_ret
        exact ⟨ret_str (by rw [cut_stop s _ pos _ ‹_› HC.out]), (Below.refl _ _).alloc (Nat.le_refl _) _⟩
      · have hwl := Cut.wd_le s pos hlt
        have hwp := Cut.wd_pos s pos
        go_roundw
        case rel => exact ⟨pos + wd s pos, i + 1, rfl, hwl, by omega, by go_num, by omega, cut_step s _ _ pos _ hlt ‹_› (by omega) HC.out⟩
        case measure =>
          simp
          show s.size - (pos + wd s pos) < _
          omega
    · have hnx : ∀ ty, (Instr.next (.pointer (some ⟨w.heap.size, 0, none⟩)) true ty).run Edvg.prog (w.iter s pos) = _ := fun ty => run_next_end w s pos ty hlt
      go_wp2
      go_ret
      refine ⟨ret_str ?_, (Below.refl _ _).alloc (Nat.le_refl _) _⟩
      have h1 := HC.out
      rw [Cut.cutN_end s _ pos hlt] at h1
      have h2 : pos = s.size := by omega
      rw [← h1, h2, Cut.extract_all]

set_option maxHeartbeats 400000 in
theorem trunc_no (s : ByteArray) (b : Nat) (w : World) (hc2 : w.cell? ⟨b, 2, none⟩ = some (.bool false)) :
    Calls Edvg.prog 12 #[.pointer (some ⟨b, 0, none⟩), .string s] w fun e w' => e = .returned (.string s) ∧ w' = w := by
  go_enter Edvg.func12, Edvg.ntmps12
  go_wp2
  go_ret
  exact ⟨rfl, rfl⟩

set_option maxHeartbeats 400000 in
theorem zz_trunc_yes (s : ByteArray) (b : Nat) (prec : Int) (w : World) (hs : s.size ≤ 1048576) (hp : -1073741824 ≤ prec) (hp2 : prec ≤ 9223372036854775807) (hc2 : w.cell? ⟨b, 2, none⟩ = some (.bool true)) (hc14 : w.cell? ⟨b, 14, none⟩ = some (.int .i64 prec)) :
    Calls Edvg.prog 7 #[.pointer (some ⟨b, 0, none⟩), .string s] w fun e w' => e = .returned (.string (s.extract 0 (cutN s prec.toNat 0))) ∧ Below w.heap.size w w' := by
  go_enter Edvg.func7, Edvg.ntmps7
  go_wp2_with (go_at_call 12; refine (trunc_yes s b prec _ hs hp hp2 hc2 hc14).mono ?_; rintro e w' ⟨rfl, hb⟩)
  go_ret
  exact ⟨rfl, hb⟩

set_option maxHeartbeats 400000 in
theorem zz_trunc_no (s : ByteArray) (b : Nat) (w : World) (hc2 : w.cell? ⟨b, 2, none⟩ = some (.bool false)) :
    Calls Edvg.prog 7 #[.pointer (some ⟨b, 0, none⟩), .string s] w fun e w' => e = .returned (.string s) ∧ w' = w := by
  go_enter Edvg.func7, Edvg.ntmps7
  go_wp2_with (go_at_call 12; refine (trunc_no s b _ hc2).mono ?_; rintro e w' ⟨rfl, rfl⟩)
  go_ret
  exact ⟨rfl, rfl⟩
end Go.Proofs.Yoedvw
