/- zzRep and zzPad, walked. -/
import Derived.Test.YoedvwDoorBool
namespace Go.Proofs.YoedvwDoor
open Go.RowKit
set_option linter.unusedVariables false

theorem below_of_row {W w : World} {g cap : Nat} {l : List UInt8} (h : Row W w (.slice none 0 0) W.heap.size g cap l) : Below W.heap.size W w :=
  ⟨h.gr.os, h.gr.tape, h.gr.output, h.gr.size, fun k hk => h.gr.block k hk (by simp [Value.ownBlock])⟩

theorem row_made {W w : World} {n : Nat} {xs : List Value} (ho : w.ownsRow W.heap.size 5 1 (.slice (some ⟨W.heap.size, 0, none⟩) n n) n xs) (hx : xs.length = n) (hn : n ≤ maxLen) (hg : W.grownBy w none) : Row W w (.slice none 0 0) W.heap.size W.heap.size n [] :=
  ⟨Nat.le_refl _, ⟨xs.toArray, made_heap ho, by simpa using hx, by simp [cellsOf]⟩, by simp, hn, hg, Or.inr rfl⟩

theorem row_step' {W w : World} {v : Value} {B g cap i : Nat} {c : UInt8} (h : Row W w v B g cap (List.replicate i c)) (hc : i < cap) : Row W (w.setCell ⟨g, i, none⟩ (.int .u8 (c.toNat : Int))) v B g cap (List.replicate (i + 1) c) := by
  have := h.store (by simpa using hc) c _ rfl
  rw [List.length_replicate, ← List.replicate_succ'] at this
  exact this

theorem row_conv {W w : World} {v : Value} {B g cap : Nat} {l : List UInt8} (h : Row W w v B g cap l) : (convert 48 9 (.slice (some ⟨g, 0, none⟩) l.length cap)).run Edvg.prog w = .ok (.string ⟨l.toArray⟩) w :=
  conv_row Edvg.underlying48 h.owns

theorem row_conv' {W w : World} {v : Value} {B g cap n : Nat} {c : UInt8} (h : Row W w v B g cap (List.replicate n c)) : (convert 48 9 (.slice (some ⟨g, 0, none⟩) n cap)).run Edvg.prog w = .ok (.string ⟨(List.replicate n c).toArray⟩) w := by
  have := row_conv h
  rwa [List.length_replicate] at this

set_option maxHeartbeats 400000 in
theorem zzRep_no (c : UInt8) (n : Int) (hn : n ≤ 0) (W : World) :
    Calls Edvg.prog 14 #[.int .u8 (c.toNat : Int), .int .i64 n] W fun e W' => e = .returned (.string ⟨#[]⟩) ∧ W = W' := by
  go_enter Edvg.func14, Edvg.ntmps14
  go_wp2_with fail
  go_ret
  exact ⟨rfl, rfl⟩

set_option maxHeartbeats 400000 in
theorem zzRep_yes (c : UInt8) (n : Nat) (hn : 0 < n) (hn2 : n ≤ 2147483647) (W : World) (S : ByteArray) (hS : S = ⟨(List.replicate n c).toArray⟩) :
    Calls Edvg.prog 14 #[.int .u8 (c.toNat : Int), .int .i64 n] W fun e W' => e = .returned (.string S) ∧ Below W.heap.size W W' := by
  have HS : Hid (S = ⟨(List.replicate n c).toArray⟩) := hS
  clear hS
  obtain ⟨i, hi, hz, hsi, hby⟩ := info_parts info5
  go_enter Edvg.func14, Edvg.ntmps14
  go_wp2_with (at_make; refine wpList_make_full _ rfl (.tmp 9) (.tmp 9) 48 rfl W.heap.size 5 i (.int .u8 0) 1 Edvg.underlying48 hi hz hsi .i64 .i64 (n : Int) (n : Int) n rfl rfl rfl rfl ?l3 ?l4 ?l5 ?_)
  case l3 => rw [hby]; omega
  case l4 => unfold maxLen; omega
  case l5 => exact Nat.le_refl _
  intro w1 ho1 hg1
  have HR : Hid (Row W w1 (.slice none 0 0) W.heap.size W.heap.size n []) := row_made ho1 (by simp [madeCells]) (by unfold maxLen; omega) hg1
  clear ho1 hg1 hi hz hsi hby
  go_wp2_with fail
  go_loopw [6] (fun s6 w => ∃ k : Nat, s6 = .int .i64 k ∧ k ≤ n ∧ Row W w (.slice none 0 0) W.heap.size W.heap.size n (List.replicate k c)) (fun s6 _ => n - (intOf s6).toNat)
  case atStart => exact ⟨0, rfl, by omega, HR.out⟩
  case round =>
    obtain ⟨k, rfl, hk, hRk⟩ := hrel
    have HRk : Hid (Row W wr (.slice none 0 0) W.heap.size W.heap.size n (List.replicate k c)) := hRk
    clear hRk
    by_cases hlt : k < n
    · obtain ⟨u, hu⟩ := HRk.out.has k hlt
      have hfu := HRk.out.unfrozen k
      go_wp2_with fail
      go_roundw
      case rel => exact ⟨k + 1, by go_num, by omega, row_step' HRk.out hlt⟩
      case measure => simp [intOf]; omega
    · obtain rfl : k = n := by omega
      have hcv := row_conv' HRk.out
      rw [← HS.out] at hcv
      go_wp2_with fail
      go_ret
      exact ⟨rfl, below_of_row HRk.out⟩

theorem zzRep (c : UInt8) (n : Int) (hn2 : n ≤ 2147483647) (W : World) (S : ByteArray) (hS : S = ⟨(List.replicate n.toNat c).toArray⟩) :
    Calls Edvg.prog 14 #[.int .u8 (c.toNat : Int), .int .i64 n] W fun e W' => e = .returned (.string S) ∧ Below W.heap.size W W' := by
  by_cases h : n ≤ 0
  · refine (zzRep_no c n h W).mono ?_
    rintro e W' ⟨rfl, rfl⟩
    have : n.toNat = 0 := by omega
    rw [this] at hS
    rw [hS]
    exact ⟨rfl, Below.refl _ _⟩
  · obtain ⟨m, rfl⟩ : ∃ m : Nat, n = (m : Int) := ⟨n.toNat, by omega⟩
    exact zzRep_yes c m (by omega) (by omega) W S hS

theorem ret_strD {a b : ByteArray} (h : a = b) : Ending.returned (.string a) = .returned (.string b) := by rw [h]
theorem str_size (l : List UInt8) : (⟨l.toArray⟩ : ByteArray).size = l.length := rfl

set_option maxHeartbeats 400000 in
theorem zzPad (t : List UInt8) (S0 : ByteArray) (hS0 : S0 = ⟨t.toArray⟩) (f : Fl) (hze : f.ze = false) (h0 : 0 ≤ f.wid) (h1 : f.wid ≤ 65536) (ht : t.length ≤ 1000000) (n : Int) (hn : n = t.length) (W : World) (R : ByteArray) (hR : R = ⟨(padded f t).toArray⟩) :
    Calls Edvg.prog 15 #[.string S0, .int .i64 n, .bool f.wp, .int .i64 f.wid, .bool f.mi, .int .u8 32] W fun e W' => e = .returned (.string R) ∧ Below W.heap.size W W' := by
  obtain ⟨wp, hwp⟩ : ∃ wp, wp = f.wp := ⟨_, rfl⟩
  obtain ⟨wid, hwid⟩ : ∃ wid, wid = f.wid := ⟨_, rfl⟩
  obtain ⟨mi, hmi⟩ : ∃ mi, mi = f.mi := ⟨_, rfl⟩
  have hsz : S0.size ≤ 1000000 := by rw [hS0]; exact ht
  unfold padded at hR
  rw [hze, ← hwp, ← hwid, ← hmi] at hR
  have HR : Hid (R = ⟨(if wp = false ∨ wid = 0 then t else if mi then t ++ List.replicate (wid - t.length).toNat (padB false) else List.replicate (wid - t.length).toNat (padB false) ++ t).toArray⟩) := hR
  have HS0 : Hid (S0 = ⟨t.toArray⟩) := hS0
  have HNN : Hid (n = t.length) := hn
  rw [← hwp, ← hwid, ← hmi]
  rw [← hwid] at h0 h1
  have hn0 : 0 ≤ n := by omega
  have hn1 : n ≤ 1000000 := by omega
  clear hR hS0 hwp hwid hmi hze hn
  rcases wp with _ | _
  · have HE : Hid (S0 = R) := by show S0 = R; rw [HR.out, HS0.out, if_pos (Or.inl rfl)]
    go_enter Edvg.func15, Edvg.ntmps15
    go_wp2_with fail
    go_ret
    exact ⟨ret_strD HE.out, Below.refl _ _⟩
  · by_cases hw : wid = 0
    · have HE : Hid (S0 = R) := by show S0 = R; rw [HR.out, HS0.out, if_pos (Or.inr hw)]
      have t1 : (wid == 0) = true := by simp [hw]
      clear hw
      go_enter Edvg.func15, Edvg.ntmps15
      go_wp2_with fail
      go_ret
      exact ⟨ret_strD HE.out, Below.refl _ _⟩
    · have t1 : (wid == 0) = false := by simpa using hw
      have hnot : ¬ ((true : Bool) = false ∨ wid = 0) := by rintro (e | e); cases e; exact hw e
      have HR2 := HR.out
      rw [if_neg hnot] at HR2
      have HR3 : Hid (R = ⟨(if mi then t ++ List.replicate (wid - t.length).toNat (padB false) else List.replicate (wid - t.length).toNat (padB false) ++ t).toArray⟩) := HR2
      clear hw hnot HR2 HR
      obtain ⟨S, hS⟩ : ∃ S : ByteArray, S = ⟨(List.replicate (wid - n).toNat 32).toArray⟩ := ⟨_, rfl⟩
      have hSs : S.size ≤ 65536 := by rw [hS, str_size, List.length_replicate]; omega
      have HS : Hid (S = ⟨(List.replicate (wid - n).toNat 32).toArray⟩) := hS
      clear hS
      rcases mi with _ | _
      · have HE : Hid (S ++ S0 = R) := by show S ++ S0 = R; rw [HR3.out, HS.out, HS0.out, HNN.out, ← str_append]; rfl
        go_enter Edvg.func15, Edvg.ntmps15
        go_wp2_with (go_at_call 14; refine (zzRep 32 (wid - n) (by omega) _ S HS.out).mono ?_; rintro e w1 ⟨rfl, hb1⟩)
        go_ret
        exact ⟨ret_strD HE.out, hb1⟩
      · have HE : Hid (S0 ++ S = R) := by show S0 ++ S = R; rw [HR3.out, HS.out, HS0.out, HNN.out, ← str_append]; rfl
        go_enter Edvg.func15, Edvg.ntmps15
        go_wp2_with (go_at_call 14; refine (zzRep 32 (wid - n) (by omega) _ S HS.out).mono ?_; rintro e w1 ⟨rfl, hb1⟩)
        go_ret
        exact ⟨ret_strD HE.out, hb1⟩
end Go.Proofs.YoedvwDoor
