import Derived.Test.YoedvwFmtA
import Derived.Test.YoedvwTrunc
namespace Go.Proofs.Yoedvw
open Go.RowKit
open Cut (cutN wd)

set_option maxHeartbeats 400000 in
theorem bytes_yes (s : ByteArray) (p q : Int) (w : World) (hs : s.size ≤ 1048576) :
    Calls Edvg.prog 9 #[.string s, .int .i64 p, .int .i64 q] w fun e w' => e = .returned (.bool true) ∧ w = w' := by
  go_enter Edvg.func9, Edvg.ntmps9
  go_wp2
  go_ret
  exact ⟨rfl, rfl⟩
set_option maxHeartbeats 400000 in
theorem bytes_no (s : ByteArray) (p q : Int) (w : World) (hs : 1048576 < s.size) :
    Calls Edvg.prog 9 #[.string s, .int .i64 p, .int .i64 q] w fun e w' => e = .returned (.bool false) ∧ w = w' := by
  go_enter Edvg.func9, Edvg.ntmps9
  go_wp2
  go_ret
  exact ⟨rfl, rfl⟩
set_option maxHeartbeats 400000 in
theorem isPrefix_yes (b : ByteArray) (k : Nat) (w : World) (_hb : b.size ≤ 1048576) (hk : k ≤ b.size) :
    Calls Edvg.prog 10 #[.string (b.extract 0 k), .string b] w fun e w' => e = .returned (.bool true) ∧ w = w' := by
  have hs : (b.extract 0 k).size = k := Cut.size_extract b k hk
  go_enter Edvg.func10, Edvg.ntmps10
  go_wp2
  go_ret
  exact ⟨rfl, rfl⟩

theorem isPrefix_of (a b : ByteArray) (k : Nat) (w : World) (hb : b.size ≤ 1048576) (hk : k ≤ b.size) (ha : b.extract 0 k = a) :
    Calls Edvg.prog 10 #[.string a, .string b] w fun e w' => e = .returned (.bool true) ∧ w = w' := by
  subst ha; exact isPrefix_yes b k w hb hk
theorem zz_trunc_of (s t : ByteArray) (b : Nat) (prec : Int) (w : World) (hs : s.size ≤ 1048576) (hp : -1073741824 ≤ prec) (hp2 : prec ≤ 9223372036854775807) (hc2 : w.cell? ⟨b, 2, none⟩ = some (.bool true)) (hc14 : w.cell? ⟨b, 14, none⟩ = some (.int .i64 prec)) (ht : s.extract 0 (cutN s prec.toNat 0) = t) :
    Calls Edvg.prog 7 #[.pointer (some ⟨b, 0, none⟩), .string s] w fun e w' => e = .returned (.string t) ∧ Below w.heap.size w w' := by
  subst ht; exact zz_trunc_yes s b prec w hs hp hp2 hc2 hc14

set_option maxHeartbeats 1000000 in
theorem nest_le (s : ByteArray) (p q : Int) (w : World) (hs : s.size ≤ 1048576) (hp : -1073741824 ≤ p) (hq : -1073741824 ≤ q) (hp2 : p ≤ 9223372036854775807) (hq2 : q ≤ 9223372036854775807) (hpq : p ≤ q) :
    Calls Edvg.prog 4 #[.string s, .int .i64 p, .int .i64 q] w fun e w' => e = .returned (.bool true) ∧ Below w.heap.size w w' := by
  have hkq := Cut.cutN_le s q.toNat 0 (Nat.zero_le _)
  have hkm := Cut.cutN_mono s p.toNat q.toNat 0 (by omega)
  have hsz := Cut.size_extract s _ hkq
  have HPP : Hid ((s.extract 0 (cutN s q.toNat 0)).extract 0 (cutN s p.toNat 0) = s.extract 0 (cutN s p.toNat 0)) := Cut.extract_extract _ _ _ hkm
  have HP : Hid (cutN (s.extract 0 (cutN s q.toNat 0)) p.toNat 0 = cutN s p.toNat 0) := Cut.cutN_head s _ _ 0 hkq hkm
  have HQ : Hid (cutN (s.extract 0 (cutN s q.toNat 0)) q.toNat 0 = cutN s q.toNat 0) := Cut.cutN_head s _ _ 0 hkq (Nat.le_refl _)
  have HSZ : Hid ((s.extract 0 (cutN s q.toNat 0)).size = cutN s q.toNat 0) := hsz
  clear hsz
  go_enter Edvg.func4, Edvg.ntmps4
  go_wp2_with (go_at_call 9; refine (bytes_yes s p q _ hs).mono ?_; rintro e w' ⟨rfl, rfl⟩)
  refine (new_fmt false 0 true p false false false false false _).mono ?_
  rintro e w1 ⟨rfl, hb1, hz1, a2, a14⟩
  go_wp2_with fail
  refine (new_fmt false 0 true q false false false false false _).mono ?_
  rintro e w2 ⟨rfl, hb2, hz2, c2, c14⟩
  have a2' := (hb2.cell (p := ⟨w.heap.size, 2, none⟩) hz1).trans a2
  have a14' := (hb2.cell (p := ⟨w.heap.size, 14, none⟩) hz1).trans a14
  clear a2 a14
  have g2 : Below w.heap.size w w2 := hb1.trans (hb2.mono (by omega))
  clear hb1
  go_wp2_with fail
  refine (zz_trunc_yes s w.heap.size p _ hs (by omega) (by omega) a2' a14').mono ?_
  rintro e w3 ⟨rfl, hb3⟩
  have a2 := (hb3.cell (p := ⟨w.heap.size, 2, none⟩) (Nat.lt_trans hz1 hz2)).trans a2'
  have a14 := (hb3.cell (p := ⟨w.heap.size, 14, none⟩) (Nat.lt_trans hz1 hz2)).trans a14'
  have c2' := (hb3.cell (p := ⟨w1.heap.size, 2, none⟩) hz2).trans c2
  have c14' := (hb3.cell (p := ⟨w1.heap.size, 14, none⟩) hz2).trans c14
  have z3 := hb3.size
  clear a2' a14' c2 c14
  go_wp2_with fail
  refine (zz_trunc_yes s w1.heap.size q _ hs (by omega) (by omega) c2' c14').mono ?_
  rintro e w4 ⟨rfl, hb4⟩
  have z4 := hb4.size
  have a2' := (hb4.cell (p := ⟨w.heap.size, 2, none⟩) (by show w.heap.size < _; omega)).trans a2
  have a14' := (hb4.cell (p := ⟨w.heap.size, 14, none⟩) (by show w.heap.size < _; omega)).trans a14
  have c2 := (hb4.cell (p := ⟨w1.heap.size, 2, none⟩) (by show w1.heap.size < _; omega)).trans c2'
  have c14 := (hb4.cell (p := ⟨w1.heap.size, 14, none⟩) (by show w1.heap.size < _; omega)).trans c14'
  clear a2 a14 c2' c14'
  go_wp2_with fail
  refine (isPrefix_of _ _ _ _ hs hkq rfl).mono ?_
  rintro e w' ⟨rfl, rfl⟩
  go_wp2_with fail
  refine (isPrefix_of _ _ _ _ (by rw [HSZ.out]; omega) (by rw [HSZ.out]; exact hkm) HPP.out).mono ?_
  rintro e w' ⟨rfl, rfl⟩
  go_wp2_with fail
  refine (zz_trunc_of _ (s.extract 0 (cutN s p.toNat 0)) w.heap.size p _ (by rw [HSZ.out]; omega) (by omega) (by omega) a2' a14' (by rw [HP.out]; exact HPP.out)).mono ?_
  rintro e w5 ⟨rfl, hb5⟩
  have z5 := hb5.size
  have c2' := (hb5.cell (p := ⟨w1.heap.size, 2, none⟩) (by show w1.heap.size < _; omega)).trans c2
  have c14' := (hb5.cell (p := ⟨w1.heap.size, 14, none⟩) (by show w1.heap.size < _; omega)).trans c14
  clear a2' a14' c2 c14
  go_wp2_with fail
  refine (zz_trunc_of _ (s.extract 0 (cutN s q.toNat 0)) w1.heap.size q _ (by rw [HSZ.out]; omega) (by omega) (by omega) c2' c14' (by rw [HQ.out]; exact Cut.extract_extract _ _ _ (Nat.le_refl _))).mono ?_
  rintro e w6 ⟨rfl, hb6⟩
  have z6 := hb6.size
  clear c2' c14'
  go_wp2_with fail
  refine (new_fmt false 0 false p false false false false false _).mono ?_
  rintro e w7 ⟨rfl, hb7, hz7, d2, d14⟩
  clear d14
  go_wp2_with fail
  refine (zz_trunc_no s w6.heap.size _ d2).mono ?_
  rintro e w' ⟨rfl, rfl⟩
  go_wp2_with fail
  go_ret
  refine ⟨rfl, ?_⟩
  exact ((((g2.trans (hb3.mono (by omega))).trans (hb4.mono (by omega))).trans (hb5.mono (by omega))).trans (hb6.mono (by omega))).trans (hb7.mono (by omega))

set_option maxHeartbeats 1000000 in
theorem nest_gt (s : ByteArray) (p q : Int) (w : World) (hs : s.size ≤ 1048576) (hp : -1073741824 ≤ p) (hq : -1073741824 ≤ q) (hp2 : p ≤ 9223372036854775807) (hq2 : q ≤ 9223372036854775807) (hpq : q < p) :
    Calls Edvg.prog 4 #[.string s, .int .i64 p, .int .i64 q] w fun e w' => e = .returned (.bool true) ∧ Below w.heap.size w w' := by
  have hkq := Cut.cutN_le s p.toNat 0 (Nat.zero_le _)
  have hkm := Cut.cutN_mono s q.toNat p.toNat 0 (by omega)
  have hsz := Cut.size_extract s _ hkq
  have HPP : Hid ((s.extract 0 (cutN s p.toNat 0)).extract 0 (cutN s q.toNat 0) = s.extract 0 (cutN s q.toNat 0)) := Cut.extract_extract _ _ _ hkm
  have HP : Hid (cutN (s.extract 0 (cutN s p.toNat 0)) q.toNat 0 = cutN s q.toNat 0) := Cut.cutN_head s _ _ 0 hkq hkm
  have HQ : Hid (cutN (s.extract 0 (cutN s p.toNat 0)) p.toNat 0 = cutN s p.toNat 0) := Cut.cutN_head s _ _ 0 hkq (Nat.le_refl _)
  have HSZ : Hid ((s.extract 0 (cutN s p.toNat 0)).size = cutN s p.toNat 0) := hsz
  clear hsz
  go_enter Edvg.func4, Edvg.ntmps4
  go_wp2_with (go_at_call 9; refine (bytes_yes s p q _ hs).mono ?_; rintro e w' ⟨rfl, rfl⟩)
  refine (new_fmt false 0 true q false false false false false _).mono ?_
  rintro e w1 ⟨rfl, hb1, hz1, a2, a14⟩
  go_wp2_with fail
  refine (new_fmt false 0 true p false false false false false _).mono ?_
  rintro e w2 ⟨rfl, hb2, hz2, c2, c14⟩
  have a2' := (hb2.cell (p := ⟨w.heap.size, 2, none⟩) hz1).trans a2
  have a14' := (hb2.cell (p := ⟨w.heap.size, 14, none⟩) hz1).trans a14
  clear a2 a14
  have g2 : Below w.heap.size w w2 := hb1.trans (hb2.mono (by omega))
  clear hb1
  go_wp2_with fail
  refine (zz_trunc_yes s w.heap.size q _ hs (by omega) (by omega) a2' a14').mono ?_
  rintro e w3 ⟨rfl, hb3⟩
  have a2 := (hb3.cell (p := ⟨w.heap.size, 2, none⟩) (Nat.lt_trans hz1 hz2)).trans a2'
  have a14 := (hb3.cell (p := ⟨w.heap.size, 14, none⟩) (Nat.lt_trans hz1 hz2)).trans a14'
  have c2' := (hb3.cell (p := ⟨w1.heap.size, 2, none⟩) hz2).trans c2
  have c14' := (hb3.cell (p := ⟨w1.heap.size, 14, none⟩) hz2).trans c14
  have z3 := hb3.size
  clear a2' a14' c2 c14
  go_wp2_with fail
  refine (zz_trunc_yes s w1.heap.size p _ hs (by omega) (by omega) c2' c14').mono ?_
  rintro e w4 ⟨rfl, hb4⟩
  have z4 := hb4.size
  have a2' := (hb4.cell (p := ⟨w.heap.size, 2, none⟩) (by show w.heap.size < _; omega)).trans a2
  have a14' := (hb4.cell (p := ⟨w.heap.size, 14, none⟩) (by show w.heap.size < _; omega)).trans a14
  have c2 := (hb4.cell (p := ⟨w1.heap.size, 2, none⟩) (by show w1.heap.size < _; omega)).trans c2'
  have c14 := (hb4.cell (p := ⟨w1.heap.size, 14, none⟩) (by show w1.heap.size < _; omega)).trans c14'
  clear a2 a14 c2' c14'
  go_wp2_with fail
  refine (isPrefix_of _ _ _ _ hs hkq rfl).mono ?_
  rintro e w' ⟨rfl, rfl⟩
  go_wp2_with fail
  refine (isPrefix_of _ _ _ _ (by rw [HSZ.out]; omega) (by rw [HSZ.out]; exact hkm) HPP.out).mono ?_
  rintro e w' ⟨rfl, rfl⟩
  go_wp2_with fail
  refine (zz_trunc_of _ (s.extract 0 (cutN s q.toNat 0)) w.heap.size q _ (by rw [HSZ.out]; omega) (by omega) (by omega) a2' a14' (by rw [HP.out]; exact HPP.out)).mono ?_
  rintro e w5 ⟨rfl, hb5⟩
  have z5 := hb5.size
  have c2' := (hb5.cell (p := ⟨w1.heap.size, 2, none⟩) (by show w1.heap.size < _; omega)).trans c2
  have c14' := (hb5.cell (p := ⟨w1.heap.size, 14, none⟩) (by show w1.heap.size < _; omega)).trans c14
  clear a2' a14' c2 c14
  go_wp2_with fail
  refine (zz_trunc_of _ (s.extract 0 (cutN s p.toNat 0)) w1.heap.size p _ (by rw [HSZ.out]; omega) (by omega) (by omega) c2' c14' (by rw [HQ.out]; exact Cut.extract_extract _ _ _ (Nat.le_refl _))).mono ?_
  rintro e w6 ⟨rfl, hb6⟩
  have z6 := hb6.size
  clear c2' c14'
  go_wp2_with fail
  refine (new_fmt false 0 false q false false false false false _).mono ?_
  rintro e w7 ⟨rfl, hb7, hz7, d2, d14⟩
  clear d14
  go_wp2_with fail
  refine (zz_trunc_no s w6.heap.size _ d2).mono ?_
  rintro e w' ⟨rfl, rfl⟩
  go_wp2_with fail
  go_ret
  refine ⟨rfl, ?_⟩
  exact ((((g2.trans (hb3.mono (by omega))).trans (hb4.mono (by omega))).trans (hb5.mono (by omega))).trans (hb6.mono (by omega))).trans (hb7.mono (by omega))
end Go.Proofs.Yoedvw
