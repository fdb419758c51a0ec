/- RuneCount at ASCII, and pad, walked. -/
import Derived.Test.YoedvwDoorStr
import Derived.Test.YoedvwDoorScr
namespace Go.Proofs.YoedvwDoor
open Go.RowKit
set_option linter.unusedVariables false

def asciiL (t : List UInt8) : Prop := ∀ j (h : j < t.length), (t[j]).toNat < 128

set_option maxHeartbeats 400000 in
theorem runeCountB (t : List UInt8) (g o c : Nat) (w : World) (ht : t.length ≤ 2147483647) (ha : asciiL t) (hc : ∀ j u, (cellsOf t)[j]? = some u → w.cell? ⟨g, o + j, none⟩ = some u) :
    Calls Edvg.prog 37 #[.slice (some ⟨g, o, none⟩) t.length c] w fun e w' => e = .returned (.int .i64 t.length) ∧ w = w' := by
  have HA : Hid (asciiL t) := ha
  have HC : Hid (∀ j u, (cellsOf t)[j]? = some u → w.cell? ⟨g, o + j, none⟩ = some u) := hc
  clear ha hc
  go_enter Edvg.func37, Edvg.ntmps37
  go_wp2_with fail
  go_loop [4] (fun s4 => ∃ i : Nat, s4 = .int .i64 i ∧ i ≤ t.length) (fun s4 => t.length - (intOf s4).toNat)
  case atStart => exact ⟨0, rfl, by omega⟩
  case round =>
    obtain ⟨i, rfl, hi⟩ := hrel
    by_cases hlt : i < t.length
    · have hx := HC.out i _ (cellsOf_get t i hlt)
      have hx2 : ((t[i].toNat : Nat) : Int) < 128 := by have := HA.out i hlt; omega
      obtain ⟨x, hxx⟩ : ∃ x : Int, x = (t[i].toNat : Int) := ⟨_, rfl⟩
      rw [← hxx] at hx hx2
      clear hxx
      go_wp2_with fail
      go_round
      case rel => exact ⟨i + 1, by go_num, by omega⟩
      case measure => simp [intOf]; omega
    · obtain rfl : i = t.length := by omega
      go_wp2_with fail
      go_ret
      exact ⟨rfl, rfl⟩

theorem runeCountB_same (t : List UInt8) (g o c : Nat) (w : World) (n : Nat) (ht : t.length ≤ 2147483647) (ha : asciiL t) (hc : ∀ j u, (cellsOf t)[j]? = some u → w.cell? ⟨g, o + j, none⟩ = some u) :
    Calls Edvg.prog 37 #[.slice (some ⟨g, o, none⟩) t.length c] (w.drewN n) fun e w' => e = .returned (.int .i64 t.length) ∧ w' = w.drewN n := by
  refine (runeCountB t g o c (w.drewN n) ht ha hc).mono ?_
  rintro e w' ⟨rfl, rfl⟩
  exact ⟨rfl, rfl⟩

set_option maxHeartbeats 1000000 in
theorem pad_plain (t : List UInt8) (i c : Nat) (W : World) (B b bb : Nat) (v : Value) (f : Fl) (l : List UInt8) (g off L : Nat) (h : Scr W B b bb v f l g off L t) (hi : i + t.length = L) (hl : l.length ≤ 2147000000) (hs : t.length ≤ 131075) (hp : f.wp = false ∨ f.wid = 0) :
    Calls Edvg.prog 29 #[.pointer (some ⟨b, 0, none⟩), .slice (some ⟨g, off + i, none⟩) t.length c] W fun e W' => e = .returned (.tuple #[]) ∧ Below B W W' ∧ ∃ v', FmtV W' B b bb v' f (l ++ t) := by
  have h0 := h.fm.c0
  have h1 := h.fm.c1
  have h13 := h.fm.c13
  have H : Hid (Scr W B b bb v f l g off L t) := h
  clear h
  have HP : Hid (f.wp = false ∨ f.wid = 0) := hp
  clear hp
  rcases hwp : f.wp with _ | _
  · rw [hwp] at h1
    clear hwp
    go_enter Edvg.func29, Edvg.ntmps29
    go_wp2_with (go_at_call 36; refine (write t g (off + i) c _ B b bb v f l H.out.fm (by omega) (H.out.src i hi)).mono ?_; rintro e w' ⟨rfl, v', hv', ho, _⟩)
    refine bodyPost_ret (results_none rfl _ _ _) rfl ?_
    exact ⟨rfl, ho.belowF H.out.fm, v', hv'⟩
  · rw [hwp] at h1
    have hw0 : f.wid = 0 := by rcases HP.out with e | e; · rw [hwp] at e; cases e
                               · exact e
    rw [hw0] at h13
    clear hwp hw0
    go_enter Edvg.func29, Edvg.ntmps29
    go_wp2_with (go_at_call 36; refine (write t g (off + i) c _ B b bb v f l H.out.fm (by omega) (H.out.src i hi)).mono ?_; rintro e w' ⟨rfl, v', hv', ho, _⟩)
    refine bodyPost_ret (results_none rfl _ _ _) rfl ?_
    exact ⟨rfl, ho.belowF H.out.fm, v', hv'⟩

set_option maxHeartbeats 1000000 in
theorem pad_wide (t : List UInt8) (i c : Nat) (W : World) (B b bb : Nat) (v : Value) (f : Fl) (l : List UInt8) (g off L : Nat) (h : Scr W B b bb v f l g off L t) (hi : i + t.length = L) (hl : l.length ≤ 2146000000) (hs : t.length ≤ 131075) (ha : asciiL t)
    (hp : f.wp = true) (hw0 : 0 < f.wid) (hw1 : f.wid ≤ 65536) (R : List UInt8) (hR : R = if f.mi then l ++ t ++ List.replicate (f.wid - t.length).toNat (padB f.ze) else l ++ List.replicate (f.wid - t.length).toNat (padB f.ze) ++ t) :
    Calls Edvg.prog 29 #[.pointer (some ⟨b, 0, none⟩), .slice (some ⟨g, off + i, none⟩) t.length c] W fun e W' => e = .returned (.tuple #[]) ∧ Below B W W' ∧ ∃ v', FmtV W' B b bb v' f R := by
  have HR : Hid (R = if f.mi then l ++ t ++ List.replicate (f.wid - t.length).toNat (padB f.ze) else l ++ List.replicate (f.wid - t.length).toNat (padB f.ze) ++ t) := hR
  clear hR
  have h0 := h.fm.c0
  have h1 := h.fm.c1
  have h13 := h.fm.c13
  have H : Hid (Scr W B b bb v f l g off L t) := h
  clear h
  rw [hp] at h1
  have hz : (f.wid == 0) = false := by simp; omega
  have HA : Hid (asciiL t) := ha
  clear hp ha
  go_enter Edvg.func29, Edvg.ntmps29
  go_upto_region 2 with fail
  go_quiet ((go_at_call 37; exact Calls.quiet_of_same (runeCountB_same t g (off + i) c _ _ (by omega) HA.out (H.out.src i hi))))
  have HF : Hid (Scr (W.drewN nq) B b bb v f l g off L t) := H.out.drewN nq
  have k0 := HF.out.fm.c0
  have k3 := HF.out.fm.c3
  clear h0 h1 h13
  rcases hmi : f.mi with _ | _
  · rw [hmi] at k3
    have hR := HR.out
    rw [hmi, if_neg (by simp)] at hR
    have HR2 : Hid (R = l ++ List.replicate (f.wid - t.length).toNat (padB f.ze) ++ t) := hR
    clear hmi HR hR
    go_wp2_with fail
    refine (padding (f.wid - t.length) (by omega) _ B b bb v f l HF.out.fm (by omega)).mono ?_
    rintro e w1 ⟨rfl, v1, hv1, ho1, hn1⟩
    have HF1 : Hid (Scr w1 B b bb v1 f (l ++ List.replicate (f.wid - t.length).toNat (padB f.ze)) g off L t) := HF.out.only hv1 ho1 hn1
    have HO1 : Hid (Below B (W.drewN nq) w1) := ho1.belowF HF.out.fm
    have j0 := HF1.out.fm.c0
    clear hv1 ho1 hn1 k0 k3
    go_wp2_with fail
    refine (write t g (off + i) c _ B b bb v1 f _ HF1.out.fm (by simp; omega) (HF1.out.src i hi)).mono ?_
    rintro e w2 ⟨rfl, v2, hv2, ho2, _⟩
    go_wp2_with fail
    go_end0
    exact ⟨rfl, (Below.fromDrewN HO1.out).trans (ho2.belowF HF1.out.fm), v2, by rw [HR2.out]; exact hv2⟩
  · rw [hmi] at k3
    have hR := HR.out
    rw [hmi, if_pos rfl] at hR
    have HR2 : Hid (R = l ++ t ++ List.replicate (f.wid - t.length).toNat (padB f.ze)) := hR
    clear hmi HR hR
    go_wp2_with fail
    refine (write t g (off + i) c _ B b bb v f l HF.out.fm (by omega) (HF.out.src i hi)).mono ?_
    rintro e w1 ⟨rfl, v1, hv1, ho1, hn1⟩
    have HF1 : Hid (FmtV w1 B b bb v1 f (l ++ t)) := hv1
    have HO1 : Hid (Below B (W.drewN nq) w1) := ho1.belowF HF.out.fm
    have j0 := HF1.out.c0
    clear hv1 ho1 hn1 k0 k3
    go_wp2_with fail
    refine (padding (f.wid - t.length) (by omega) _ B b bb v1 f _ HF1.out (by rw [List.length_append]; omega)).mono ?_
    rintro e w2 ⟨rfl, v2, hv2, ho2, _⟩
    go_wp2_with fail
    go_end0
    exact ⟨rfl, (Below.fromDrewN HO1.out).trans (ho2.belowF HF1.out), v2, by rw [HR2.out]; exact hv2⟩

theorem pad (t : List UInt8) (i c : Nat) (W : World) (B b bb : Nat) (v : Value) (f : Fl) (l : List UInt8) (g off L : Nat) (h : Scr W B b bb v f l g off L t) (hi : i + t.length = L) (hl : l.length ≤ 2146000000) (hs : t.length ≤ 131075) (ha : asciiL t)
    (hw0 : 0 ≤ f.wid) (hw1 : f.wid ≤ 65536) (R : List UInt8) (hR : R = l ++ padded f t) :
    Calls Edvg.prog 29 #[.pointer (some ⟨b, 0, none⟩), .slice (some ⟨g, off + i, none⟩) t.length c] W fun e W' => e = .returned (.tuple #[]) ∧ Below B W W' ∧ ∃ v', FmtV W' B b bb v' f R := by
  subst hR
  unfold padded
  by_cases hp : f.wp = false ∨ f.wid = 0
  · rw [if_pos hp]
    exact pad_plain t i c W B b bb v f l g off L h hi (by omega) hs hp
  · rw [if_neg hp]
    have h1 : f.wp = true := by
      rcases hb : f.wp with _ | _
      · exact absurd (Or.inl hb) hp
      · rfl
    have h2 : f.wid ≠ 0 := fun e => hp (Or.inr e)
    refine pad_wide t i c W B b bb v f l g off L h hi hl hs ha h1 (by omega) hw1 _ ?_
    rcases f.mi <;> simp
end Go.Proofs.YoedvwDoor
