/- fmtBoolean, its shim, and the law FnBooleanAppends, walked. -/
import Derived.Test.YoedvwDoorStr
import Derived.Test.YoedvwDoorNew
namespace Go.Proofs.YoedvwDoor
open Go.RowKit
set_option linter.unusedVariables false

theorem padString (s : ByteArray) (W : World) (B b bb : Nat) (v : Value) (f : Fl) (l : List UInt8) (h : FmtV W B b bb v f l) (hl : l.length ≤ 2146000000) (hs : s.size ≤ 65536) (ha : ∀ (j : Nat) (h : j < s.size), (s[j]'h).toNat < 128)
    (hw0 : 0 ≤ f.wid) (hw1 : f.wid ≤ 65536) (R : List UInt8) (hR : R = l ++ padded f s.data.toList) :
    Calls Edvg.prog 25 #[.pointer (some ⟨b, 0, none⟩), .string s] W fun e W' => e = .returned (.tuple #[]) ∧ Below B W W' ∧ ∃ v', FmtV W' B b bb v' f R := by
  subst hR
  have hsl : s.data.toList.length = s.size := by rw [Array.length_toList]; rfl
  unfold padded
  by_cases hp : f.wp = false ∨ f.wid = 0
  · rw [if_pos hp]
    exact padString_plain s W B b bb v f l h (by omega) hs hp
  · rw [if_neg hp, hsl]
    have h1 : f.wp = true := by
      rcases hb : f.wp with _ | _
      · exact absurd (Or.inl hb) hp
      · rfl
    have h2 : f.wid ≠ 0 := fun e => hp (Or.inr e)
    refine padString_wide s W B b bb v f l h hl hs ha h1 (by omega) hw1 _ ?_
    rcases f.mi <;> simp

def boolText (x : Bool) : List UInt8 := if x then [116, 114, 117, 101] else [102, 97, 108, 115, 101]

theorem ascii_of (l : List UInt8) (hl : l.all (fun x => decide (x.toNat < 128)) = true) (j : Nat) (h : j < (⟨l.toArray⟩ : ByteArray).size) : ((⟨l.toArray⟩ : ByteArray)[j]'h).toNat < 128 := by
  have hj : j < l.length := h
  have hm : l[j] ∈ l := List.getElem_mem hj
  have := List.all_eq_true.1 hl _ hm
  exact of_decide_eq_true this
theorem ascii_true : ∀ (j : Nat) (h : j < (⟨#[116, 114, 117, 101]⟩ : ByteArray).size), ((⟨#[116, 114, 117, 101]⟩ : ByteArray)[j]'h).toNat < 128 := ascii_of [116, 114, 117, 101] (by decide)
theorem ascii_false : ∀ (j : Nat) (h : j < (⟨#[102, 97, 108, 115, 101]⟩ : ByteArray).size), ((⟨#[102, 97, 108, 115, 101]⟩ : ByteArray)[j]'h).toNat < 128 := ascii_of [102, 97, 108, 115, 101] (by decide)

theorem boolText_le (x : Bool) : (boolText x).length ≤ 5 := by cases x <;> decide
theorem padded_le (f : Fl) (x : Bool) (h0 : 0 ≤ f.wid) (h1 : f.wid ≤ 65536) : (padded f (boolText x)).length ≤ 65541 := by
  have := boolText_le x
  unfold padded
  split
  · omega
  · split <;> (rw [List.length_append, List.length_replicate]; omega)

set_option maxHeartbeats 400000 in
theorem fmtBoolean (x : Bool) (W : World) (B b bb : Nat) (v : Value) (f : Fl) (l : List UInt8) (h : FmtV W B b bb v f l) (hl : l.length ≤ 2146000000) (hw0 : 0 ≤ f.wid) (hw1 : f.wid ≤ 65536) (R : List UInt8) (hR : R = l ++ padded f (boolText x)) :
    Calls Edvg.prog 9 #[.pointer (some ⟨b, 0, none⟩), .bool x] W fun e W' => e = .returned (.tuple #[]) ∧ Below B W W' ∧ ∃ v', FmtV W' B b bb v' f R := by
  have H : Hid (FmtV W B b bb v f l) := h
  have HR : Hid (R = l ++ padded f (boolText x)) := hR
  clear h hR
  rcases x with _ | _
  · go_enter Edvg.func9, Edvg.ntmps9
    go_wp2_with (first | (go_at_call 25; refine (padString ⟨#[102, 97, 108, 115, 101]⟩ _ B b bb v f l H.out hl (by decide) ascii_false hw0 hw1 R HR.out).mono ?_; rintro e w' ⟨rfl, hb, v', hv'⟩) | (go_at_call 21; go_in))
    go_end0
    go_wp2_with fail
    go_end0
    exact ⟨rfl, hb, v', hv'⟩
  · go_enter Edvg.func9, Edvg.ntmps9
    go_wp2_with (first | (go_at_call 25; refine (padString ⟨#[116, 114, 117, 101]⟩ _ B b bb v f l H.out hl (by decide) ascii_true hw0 hw1 R HR.out).mono ?_; rintro e w' ⟨rfl, hb, v', hv'⟩) | (go_at_call 21; go_in))
    go_end0
    go_wp2_with fail
    go_end0
    exact ⟨rfl, hb, v', hv'⟩

theorem ret_bool {a b : Bool} (h : a = b) : Ending.returned (.bool a) = .returned (.bool b) := by rw [h]
/-- Of the strings that the law compares. -/
theorem str_append (l m : List UInt8) : (⟨(l ++ m).toArray⟩ : ByteArray) = ⟨l.toArray⟩ ++ ⟨m.toArray⟩ := by
  apply ByteArray.ext
  simp [ByteArray.data_append]

set_option maxHeartbeats 1000000 in
theorem appends (x y wp : Bool) (wid : Int) (mi ze : Bool) (w : World) (hw0 : 0 ≤ wid) (hw1 : wid ≤ 65536) (hbig : 5 < w.heap.size) (hmax : w.cell? ⟨4, 0, none⟩ = some (.int .i64 2147483647)) :
    Calls Edvg.prog 3 #[.bool x, .bool y, .bool wp, .int .i64 wid, .bool mi, .bool ze] w fun e w' => e = .returned (.bool true) ∧ Below w.heap.size w w' := by
  obtain ⟨f, hf⟩ : ∃ f : Fl, f = ⟨wp, wid, false, 0, mi, false, false, false, ze⟩ := ⟨_, rfl⟩
  have hfw : f.wid = wid := by rw [hf]
  have HF : Hid (f = ⟨wp, wid, false, 0, mi, false, false, false, ze⟩) := hf
  have HFW : Hid (f.wid = wid) := hfw
  have HM : Hid (w.cell? ⟨4, 0, none⟩ = some (.int .i64 2147483647)) := hmax
  obtain ⟨p1, hp1⟩ : ∃ p1, p1 = padded f (boolText x) := ⟨_, rfl⟩
  obtain ⟨p2, hp2⟩ : ∃ p2, p2 = padded f (boolText y) := ⟨_, rfl⟩
  have HP1 : Hid (p1 = padded f (boolText x)) := hp1
  have HP2 : Hid (p2 = padded f (boolText y)) := hp2
  have HL1 : Hid (p1.length ≤ 65541) := by rw [hp1]; exact padded_le f x (by omega) (by omega)
  have HL2 : Hid (p2.length ≤ 65541) := by rw [hp2]; exact padded_le f y (by omega) (by omega)
  clear hf hfw hmax hp1 hp2
  go_enter Edvg.func3, Edvg.ntmps3
  go_wp2_with fail
  refine (new_fmt wp wid false 0 mi false false false ze _ hbig HM.out).mono ?_
  rw [← HF.out]
  rintro e w1 ⟨rfl, hb1, hv1⟩
  have H1 : Hid (FmtV w1 w.heap.size w.heap.size (w.heap.size + 1) (.slice none 0 0) f []) := hv1
  have B1 : Hid (Below w.heap.size w w1) := hb1
  clear hv1 hb1
  go_wp2_with fail
  refine (fmtBoolean x _ w.heap.size w.heap.size (w.heap.size + 1) _ f [] H1.out (by simp) (by rw [HFW.out]; omega) (by rw [HFW.out]; omega) p1 (by rw [HP1.out]; rfl)).mono ?_
  rintro e w2 ⟨rfl, hb2, v2, hv2⟩
  have H2 : Hid (FmtV w2 w.heap.size w.heap.size (w.heap.size + 1) v2 f p1) := hv2
  have B2 : Hid (Below w.heap.size w w2) := B1.out.trans hb2
  clear hv2 hb2 H1 B1
  go_wp2_with fail
  refine (fmtBoolean y _ w.heap.size w.heap.size (w.heap.size + 1) _ f p1 H2.out (by have := HL1.out; omega) (by rw [HFW.out]; omega) (by rw [HFW.out]; omega) (p1 ++ p2) (by rw [HP2.out])).mono ?_
  rintro e w3 ⟨rfl, hb3, v3, hv3⟩
  have H3 : Hid (FmtV w3 w.heap.size w.heap.size (w.heap.size + 1) v3 f (p1 ++ p2)) := hv3
  have B3 : Hid (Below w.heap.size w w3) := B2.out.trans hb3
  have z3 : w.heap.size < w3.heap.size := hv3.bLt
  clear hv3 hb3 H2 B2
  go_wp2_with fail
  refine (new_fmt wp wid false 0 mi false false false ze _ (by omega) H3.out.max).mono ?_
  rw [← HF.out]
  rintro e w4 ⟨rfl, hb4, hv4⟩
  have H4 : Hid (FmtV w4 w3.heap.size w3.heap.size (w3.heap.size + 1) (.slice none 0 0) f []) := hv4
  have B4 : Hid (Below w3.heap.size w3 w4) := hb4
  clear hv4 hb4
  go_wp2_with fail
  refine (fmtBoolean x _ w3.heap.size w3.heap.size (w3.heap.size + 1) _ f [] H4.out (by simp) (by rw [HFW.out]; omega) (by rw [HFW.out]; omega) p1 (by rw [HP1.out]; rfl)).mono ?_
  rintro e w5 ⟨rfl, hb5, v5, hv5⟩
  have H5 : Hid (FmtV w5 w3.heap.size w3.heap.size (w3.heap.size + 1) v5 f p1) := hv5
  have B5 : Hid (Below w3.heap.size w3 w5) := B4.out.trans hb5
  have z5 : w3.heap.size < w5.heap.size := hv5.bLt
  clear hv5 hb5 H4 B4
  go_wp2_with fail
  refine (new_fmt wp wid false 0 mi false false false ze _ (by omega) H5.out.max).mono ?_
  rw [← HF.out]
  rintro e w6 ⟨rfl, hb6, hv6⟩
  have H6 : Hid (FmtV w6 w5.heap.size w5.heap.size (w5.heap.size + 1) (.slice none 0 0) f []) := hv6
  have B6 : Hid (Below w5.heap.size w5 w6) := hb6
  clear hv6 hb6
  go_wp2_with fail
  refine (fmtBoolean y _ w5.heap.size w5.heap.size (w5.heap.size + 1) _ f [] H6.out (by simp) (by rw [HFW.out]; omega) (by rw [HFW.out]; omega) p2 (by rw [HP2.out]; rfl)).mono ?_
  rintro e w7 ⟨rfl, hb7, v7, hv7⟩
  have H7 : Hid (FmtV w7 w5.heap.size w5.heap.size (w5.heap.size + 1) v7 f p2) := hv7
  have B7 : Hid (Below w5.heap.size w5 w7) := B6.out.trans hb7
  have H57 : Hid (FmtV w7 w3.heap.size w3.heap.size (w3.heap.size + 1) v5 f p1) := H5.out.below B7.out (Nat.le_refl _)
  have B57 : Hid (Below w3.heap.size w3 w7) := B5.out.trans (B7.out.mono (by omega))
  have H37 : Hid (FmtV w7 w.heap.size w.heap.size (w.heap.size + 1) v3 f (p1 ++ p2)) := H3.out.below B57.out (Nat.le_refl _)
  have B77 : Hid (Below w.heap.size w w7) := B3.out.trans (B57.out.mono (by omega))
  clear hv7 hb7 H6 B6 H5 B5 H3 B3 B7 B57
  go_wp2_with fail
  refine (zzOut _ _ _ _ _ _ _ H37.out).mono ?_
  rintro e w' ⟨rfl, rfl⟩
  go_wp2_with fail
  refine (zzOut _ _ _ _ _ _ _ H57.out).mono ?_
  rintro e w' ⟨rfl, rfl⟩
  go_wp2_with fail
  refine (zzOut _ _ _ _ _ _ _ H7.out).mono ?_
  rintro e w' ⟨rfl, rfl⟩
  have l1 := HL1.out
  have l2 := HL2.out
  go_wp2_with fail
  go_ret
  refine ⟨ret_bool ?_, B77.out⟩
  rw [← str_append]
  simp
end Go.Proofs.YoedvwDoor
