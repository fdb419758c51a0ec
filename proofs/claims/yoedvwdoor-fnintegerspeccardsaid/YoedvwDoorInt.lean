/- fmtInteger, walked. -/
import Derived.Test.YoedvwDoorPadB
import Derived.Test.YoedvwDoorNum
import Derived.Deep.CutBlock
namespace Go.Proofs.YoedvwDoor
open Go.RowKit
set_option linter.unusedVariables false

def negOf (s : Bool) (u : Nat) : Bool := s && decide (9223372036854775808 ≤ u)
def magOf (s : Bool) (u : Nat) : Nat := if negOf s u then 18446744073709551616 - u else u

theorem neg_test (u : Nat) (hu : u < 18446744073709551616) : (wrap64 (u : Int) < 0) ↔ 9223372036854775808 ≤ u := by
  unfold wrap64; omega
theorem neg_val (u : Nat) (h : 9223372036854775808 ≤ u) (hu : u < 18446744073709551616) : IntKind.u64.wrap (-(u : Int)) = ((18446744073709551616 - u : Nat) : Int) := by
  rw [IntKind.wrap_u64]; omega

theorem mag_false {s : Bool} {u m : Nat} (h : false = negOf s u) (hm : m = magOf s u) : u = m := by
  rw [hm]; unfold magOf; rw [← h]; rfl
theorem mag_true {s : Bool} {u m : Nat} (h : true = negOf s u) (hm : m = magOf s u) (hu : u < 18446744073709551616) : IntKind.u64.wrap (-(u : Int)) = (m : Int) := by
  have h63 : 9223372036854775808 ≤ u := by
    unfold negOf at h
    have := h.symm
    simp at this
    exact this.2
  rw [hm]; unfold magOf; rw [← h, if_pos rfl]
  exact neg_val u h63 hu

theorem mag_lt (s : Bool) (u : Nat) (hu : u < 18446744073709551616) : magOf s u < 2 ^ 64 := by
  have : (2 : Nat) ^ 64 = 18446744073709551616 := by decide
  rw [this]; unfold magOf negOf
  cases s
  · simpa using hu
  · simp; split <;> omega
theorem loop_step (D : ByteArray) (base k x : Nat) (t A : List UInt8) (hb : 2 ≤ base) (hx : ¬ x < base) (hk : x < 2 ^ k) (hkt : k + t.length = 64) (h : A = repr D base k x ++ t) :
    ∃ k', k' + (D.get! (x % base) :: t).length = 64 ∧ x / base < 2 ^ k' ∧ A = repr D base k' (x / base) ++ (D.get! (x % base) :: t) := by
  cases k with
  | zero => simp at hk; omega
  | succ k =>
    refine ⟨k, by simp; omega, ?_, ?_⟩
    · rw [Nat.div_lt_iff_lt_mul (by omega)]
      rw [Nat.pow_succ] at hk
      exact Nat.lt_of_lt_of_le hk (Nat.mul_le_mul_left _ hb)
    · rw [h, repr_step D base k x hx]; simp
theorem dig10 {D : ByteArray} (hD : Digs D) (x : Nat) (hx : x < 18446744073709551616) : IntKind.u64.wrap (IntKind.u64.wrap (48 + (x : Int)) - (x : Int) / 10 * 10) % 256 = ((D.get! (x % 10)).toNat : Int) := by
  rw [hD.ten _ (by omega), IntKind.wrap_u64, IntKind.wrap_u64]; omega
theorem and2 (x : Nat) (hx : x < 18446744073709551616) : bits BinOp.and IntKind.u64 (x : Int) 1 = ((x % 2 : Nat) : Int) := by
  have h := bits_and_u64_nat x 1 hx (by omega)
  have e : x &&& 1 = x % 2 := Nat.and_two_pow_sub_one_eq_mod x 1
  rw [e] at h; exact h
theorem digS2 {D : ByteArray} (hD : Digs D) (x : Nat) : 48 + (x : Int) % 2 = ((D.get! (x % 2)).toNat : Int) := by
  rw [hD.ten _ (by omega)]; omega
theorem and8 (x : Nat) (hx : x < 18446744073709551616) : bits BinOp.and IntKind.u64 (x : Int) 7 = ((x % 8 : Nat) : Int) := by
  have h := bits_and_u64_nat x 7 hx (by omega)
  have e : x &&& 7 = x % 8 := Nat.and_two_pow_sub_one_eq_mod x 3
  rw [e] at h; exact h
theorem digS8 {D : ByteArray} (hD : Digs D) (x : Nat) : 48 + (x : Int) % 8 = ((D.get! (x % 8)).toNat : Int) := by
  rw [hD.ten _ (by omega)]; omega
theorem and16 (x : Nat) (hx : x < 18446744073709551616) : bits BinOp.and IntKind.u64 (x : Int) 15 = ((x % 16 : Nat) : Int) := by
  have h := bits_and_u64_nat x 15 hx (by omega)
  have e : x &&& 15 = x % 16 := Nat.and_two_pow_sub_one_eq_mod x 4
  rw [e] at h; exact h
theorem getB (D : ByteArray) (d : Nat) (h : d < D.size) : D.get! d = D[d] := by
  simp [ByteArray.get!, getElem!_pos, h]
  rfl
theorem dig16 {D : ByteArray} (hD : Digs D) (x : Nat) {h : x % 16 < D.size} : ((D[x % 16]'h).toNat : Int) = ((D.get! (x % 16)).toNat : Int) := by
  rw [getB D _ h]
theorem zeros_all {p : Int} {ds n0 : List UInt8} {k : Nat} (h : n0 = withZeros p ds) (hk : k = (p - ds.length).toNat) : List.replicate k 48 ++ ds = n0 := by
  rw [h, hk]; rfl
theorem dig_at {D : ByteArray} {d : Nat} (h : d < D.size) : ((D[d]'h).toNat : Int) = ((D.get! d).toNat : Int) := by rw [getB D d h]
theorem u8_ne {c : UInt8} (h : ¬ c = 48) : ((c.toNat : Int) != 48) = true := by
  have : c.toNat ≠ 48 := fun e => h (UInt8.toNat.inj e)
  simp; omega
theorem sharp8_yes {D : ByteArray} {n r : List UInt8} {c : UInt8} (h : n = c :: r) (hc : c = 48) : sharpT D 8 true n = n := by
  subst h hc; rfl
theorem sharp8_no {D : ByteArray} {n r : List UInt8} {c : UInt8} (h : n = c :: r) (hc : ¬ c = 48) : sharpT D 8 true n = 48 :: n := by
  subst h; simp [sharpT, hc]
theorem Scr.store2 {w W : World} {B b bb : Nat} {v : Value} {f : Fl} {l : List UInt8} {g off L : Nat} {t : List UInt8} (h : Scr w B b bb v f l g off L t) (j : Nat) (hj : j + 2 + t.length = L) (c1 c2 : UInt8) (q1 q2 : Int) (h1 : q1 = (c1.toNat : Int)) (h2 : q2 = (c2.toNat : Int)) (hb : Below B W w) :
    Scr ((w.setCell ⟨g, off + (j + 1), none⟩ (.int .u8 q1)).setCell ⟨g, off + j, none⟩ (.int .u8 q2)) B b bb v f l g off L (c2 :: c1 :: t) ∧ Below B W ((w.setCell ⟨g, off + (j + 1), none⟩ (.int .u8 q1)).setCell ⟨g, off + j, none⟩ (.int .u8 q2)) := by
  have a := h.store (j + 1) (by omega) c1 q1 h1
  exact ⟨a.store j (by simp; omega) c2 q2 h2, a.storeBelow _ _ (h.storeBelow _ _ hb)⟩
theorem Scr.setZe {w : World} {B b bb : Nat} {v : Value} {f : Fl} {l : List UInt8} {g off L : Nat} {t : List UInt8} (h : Scr w B b bb v f l g off L t) (z : Bool) : Scr (w.setCell ⟨b, 7, none⟩ (.bool z)) B b bb v { f with ze := z } l g off L t := by
  refine ⟨h.fm.setZe z, ?_, h.le, fun j hj => ?_⟩
  · rcases h.pl with hx | ⟨hb, h1, h2, h3, h4, cur, hc, hs⟩
    · exact Or.inl hx
    · exact Or.inr ⟨hb, h1, h2, h3, h4, cur, by rw [Below.heap_setCell _ _ _ _ h1]; exact hc, hs⟩
  · rw [← h.tl j hj]
    refine World.cell?_setCell_other _ _ _ _ (fun e => ?_)
    rcases h.pl with ⟨rfl, rfl, rfl⟩ | ⟨hb, h1, _⟩
    · injection e with _ e2; omega
    · injection e with e1; exact h1 e1.symm
theorem pad_at (t : List UInt8) (i c : Nat) (W : World) (B b bb : Nat) (v : Value) (f : Fl) (l : List UInt8) (g off L : Nat) (h : Scr W B b bb v f l g off L t) (hi : i + t.length = L) (hl : l.length ≤ 2146000000) (hs : t.length ≤ 131075) (ha : asciiL t)
    (hw0 : 0 ≤ f.wid) (hw1 : f.wid ≤ 65536) (R : List UInt8) (hR : R = l ++ padded f t) (n : Nat) (hn : n = t.length) :
    Calls Edvg.prog 29 #[.pointer (some ⟨b, 0, none⟩), .slice (some ⟨g, off + i, none⟩) n c] W fun e W' => e = .returned (.tuple #[]) ∧ Below B W W' ∧ ∃ v', FmtV W' B b bb v' f R := by
  subst hn; exact pad t i c W B b bb v f l g off L h hi hl hs ha hw0 hw1 R hR
/-- The text that fmtInteger writes, ahead of the padding. -/
def textOf (D : ByteArray) (base : Nat) (isS : Bool) (u : Nat) (o : Bool) (f : Fl) (prec wid : Int) : List UInt8 :=
  signT (negOf isS u) f.pl f.sp (verbT o (sharpT D base f.sh (withZeros (precOf f.pp prec f.ze f.wp wid (negOf isS u) f.pl f.sp) (repr D base 64 (magOf isS u)))))
theorem ascii_mem {t : List UInt8} (h : ∀ c ∈ t, c.toNat < 128) : asciiL t := fun j hj => h _ (List.getElem_mem hj)
theorem repr_ascii {D : ByteArray} (hD : Digs D) (base : Nat) (hb : 2 ≤ base ∧ base ≤ 16) : ∀ (k u : Nat), u < 2 ^ k → ∀ c ∈ repr D base k u, c.toNat < 128
  | 0, u, hu, c, hc => by
    simp [repr] at hc hu
    subst hc; exact hD.asc _ (by omega)
  | k + 1, u, hu, c, hc => by
    by_cases hlt : u < base
    · rw [repr_small D base _ u hlt] at hc
      simp at hc; subst hc; exact hD.asc _ (by omega)
    · rw [repr_step D base k u hlt] at hc
      rcases List.mem_append.1 hc with h | h
      · refine repr_ascii hD base hb k (u / base) ?_ c h
        rw [Nat.div_lt_iff_lt_mul (by omega)]
        rw [Nat.pow_succ] at hu
        exact Nat.lt_of_lt_of_le hu (Nat.mul_le_mul_left _ hb.1)
      · simp at h; subst h
        have := Nat.mod_lt u (show base > 0 by omega)
        exact hD.asc _ (by omega)
theorem text_ascii {D : ByteArray} (hD : Digs D) (base mag : Nat) (hb : 2 ≤ base ∧ base ≤ 16) (hm : mag < 2 ^ 64) (p : Int) (sh o neg pl sp : Bool) : asciiL (signT neg pl sp (verbT o (sharpT D base sh (withZeros p (repr D base 64 mag))))) := by
  apply ascii_mem
  have h0 : ∀ c ∈ withZeros p (repr D base 64 mag), c.toNat < 128 := by
    intro c hc
    unfold withZeros at hc
    rcases List.mem_append.1 hc with h | h
    · rw [(List.mem_replicate.1 h).2]; decide
    · exact repr_ascii hD base hb 64 mag hm c h
  have cons : ∀ (a : UInt8) (n : List UInt8), a.toNat < 128 → (∀ c ∈ n, c.toNat < 128) → ∀ c ∈ a :: n, c.toNat < 128 := by
    intro a n ha hn c hc
    rcases List.mem_cons.1 hc with h | h
    · rw [h]; exact ha
    · exact hn c h
  have h1 : ∀ c ∈ sharpT D base sh (withZeros p (repr D base 64 mag)), c.toNat < 128 := by
    unfold sharpT
    repeat' split
    · exact h0
    · exact cons _ _ (by decide) (cons _ _ (by decide) h0)
    · exact h0
    · exact cons _ _ (by decide) h0
    · exact cons _ _ (by decide) (cons _ _ (hD.asc 16 (by omega)) h0)
    · exact h0
  have h2 : ∀ c ∈ verbT o (sharpT D base sh (withZeros p (repr D base 64 mag))), c.toNat < 128 := by
    unfold verbT
    split
    · exact cons _ _ (by decide) (cons _ _ (by decide) h1)
    · exact h1
  unfold signT
  repeat' split
  · exact cons _ _ (by decide) h2
  · exact cons _ _ (by decide) h2
  · exact cons _ _ (by decide) h2
  · exact h2
theorem bufLen_no {wp pp : Bool} {wid prec : Nat} (h : false = (wp || pp)) : bufLen wp pp wid prec = 68 := by
  unfold bufLen; rw [if_neg]; rintro ⟨h1, _⟩; rw [← h] at h1; cases h1
theorem bufLen_big {wp pp : Bool} {wid prec : Nat} (h : true = (wp || pp)) (h2 : 68 < 3 + wid + prec) : bufLen wp pp wid prec = 3 + wid + prec := by
  unfold bufLen; rw [if_pos ⟨h.symm, h2⟩]
theorem bufLen_small {wp pp : Bool} {wid prec : Nat} (h2 : ¬ 68 < 3 + wid + prec) : bufLen wp pp wid prec = 68 := by
  unfold bufLen; rw [if_neg]; rintro ⟨_, h⟩; exact h2 h
theorem scr_own {W : World} {B b bb : Nat} {v : Value} {f : Fl} {l : List UInt8} (h : FmtV W B b bb v f l) : Scr W B b bb v f l b 15 68 [] :=
  ⟨h, Or.inl ⟨rfl, rfl, rfl⟩, by simp, fun j hj => by simp at hj⟩
theorem scr_made {W w1 : World} {n B b bb N : Nat} {v : Value} {f : Fl} {l : List UInt8} {xs : List Value} (h : FmtV W B b bb v f l) (ho : w1.ownsRow B 5 1 (.slice (some ⟨W.heap.size, 0, none⟩) N N) N xs) (hx : xs.length = N) (hg : (W.drewN n).grownBy w1 none) :
    Scr w1 B b bb v f l W.heap.size 0 N [] ∧ Below B W w1 := by
  have hkeep : ∀ k, k < W.heap.size → w1.heap[k]? = W.heap[k]? := fun k hk => hg.block k hk (by simp)
  have h1 := h.bLt
  have h2 := h.bbLt
  have h3 := h.hb
  refine ⟨⟨h.keep hkeep, Or.inr ⟨by omega, by omega, by omega, ?_, rfl, _, made_heap ho, by simpa using hx⟩, by simp, fun j hj => by simp at hj⟩, hg.os, hg.tape, hg.output, hg.size, fun k hk => hkeep k (by omega)⟩
  intro e
  have := (h.row _ e).2.1
  omega
theorem below_drewN' (B : Nat) (w : World) (n : Nat) : Below B w (w.drewN n) := ⟨rfl, rfl, rfl, Nat.le_refl _, fun _ _ => rfl⟩

set_option maxHeartbeats 2000000 in
set_option maxRecDepth 100000 in
theorem fmtInt (u : Nat) (base : Nat) (isS : Bool) (verb : Int) (D : ByteArray) (W : World) (B b bb : Nat) (v : Value) (f : Fl) (l : List UInt8) (h : FmtV W B b bb v f l)
    (hu : u < 18446744073709551616) (hD : Digs D) (wid prec : Nat) (hwid : f.wid = (wid : Int)) (hprec : f.prec = (prec : Int)) (hw1 : wid ≤ 65536) (hp1 : prec ≤ 65536)
    (hne : f.pp = true → prec = 0 → magOf isS u ≠ 0) (hbase : base = 2 ∨ base = 8 ∨ base = 10 ∨ base = 16) (hO : verb = 79 → base = 8) (hl0 : l.length ≤ 2146000000) (R : List UInt8) (hR : R = l ++ padded { f with ze := false } (textOf D base isS u (decide (verb = 79)) f prec wid)) :
    Calls Edvg.prog 23 #[.pointer (some ⟨b, 0, none⟩), .int .u64 u, .int .i64 base, .bool isS, .int .i32 verb, .string D] W fun e W' => e = .returned (.tuple #[]) ∧ Below B W W' ∧ ∃ v', FmtV W' B b bb v' f R := by
  have H : Hid (FmtV W B b bb v f l) := h
  clear h
  obtain ⟨neg, hneg⟩ : ∃ n, n = negOf isS u := ⟨_, rfl⟩
  obtain ⟨mag, hmag⟩ : ∃ n, n = magOf isS u := ⟨_, rfl⟩
  have HN : Hid (neg = negOf isS u) := hneg
  have HMg : Hid (mag = magOf isS u) := hmag
  have HU : Hid (u < 18446744073709551616) := hu
  have HD : Hid (Digs D) := hD
  have HWi : Hid (f.wid = (wid : Int)) := hwid
  have HPr : Hid (f.prec = (prec : Int)) := hprec
  have HNE : Hid (f.pp = true → prec = 0 → mag ≠ 0) := by rw [hmag]; exact hne
  have HBS : Hid (base = 2 ∨ base = 8 ∨ base = 10 ∨ base = 16) := hbase
  have HR64 : Hid ((repr D base 64 mag).length ≤ 64) := (repr_len D base mag (by rw [hmag]; exact mag_lt isS u hu) hbase).2.1
  have HM64 : Hid (mag < 2 ^ 64) := by rw [hmag]; exact mag_lt isS u hu
  obtain ⟨ds, hds⟩ : ∃ ds, ds = repr D base 64 mag := ⟨_, rfl⟩
  obtain ⟨n0, hn0⟩ : ∃ n0, n0 = withZeros (precOf f.pp prec f.ze f.wp wid neg f.pl f.sp) ds := ⟨_, rfl⟩
  obtain ⟨n1, hn1⟩ : ∃ n1, n1 = sharpT D base f.sh n0 := ⟨_, rfl⟩
  obtain ⟨n2, hn2⟩ : ∃ n2, n2 = verbT (decide (verb = 79)) n1 := ⟨_, rfl⟩
  obtain ⟨n3, hn3⟩ : ∃ n3, n3 = signT neg f.pl f.sp n2 := ⟨_, rfl⟩
  have HFit : Hid (1 ≤ n0.length ∧ n0.length ≤ n1.length ∧ n1.length ≤ n2.length ∧ n2.length ≤ n3.length ∧ n3.length ≤ bufLen f.wp f.pp wid prec) :=
    fits D base mag (by rw [hmag]; exact mag_lt isS u hu) hbase (decide (verb = 79)) (fun e => hO (of_decide_eq_true e)) f.wp f.pp wid prec f.ze neg f.pl f.sp f.sh n0 n1 n2 n3 (by rw [← hds]; exact hn0) hn1 hn2 hn3
  have HA : Hid (asciiL n3) := by
    show asciiL n3
    rw [hn3, hn2, hn1, hn0, hds]
    exact text_ascii hD base mag (by rcases hbase with e | e | e | e <;> omega) (by rw [hmag]; exact mag_lt isS u hu) _ _ _ _ _ _
  have HR : Hid (R = l ++ padded { f with ze := false } n3) := by
    show R = _
    rw [hR, hn3, hn2, hn1, hn0, hds, hmag, hneg]; rfl
  have HDS : Hid (ds = repr D base 64 mag) := hds
  have HN0 : Hid (n0 = withZeros (precOf f.pp prec f.ze f.wp wid neg f.pl f.sp) ds) := hn0
  have HN1 : Hid (n1 = sharpT D base f.sh n0) := hn1
  have HN2 : Hid (n2 = verbT (decide (verb = 79)) n1) := hn2
  have HN3 : Hid (n3 = signT neg f.pl f.sp n2) := hn3
  clear hds hn0 hn1 hn2 hn3
  clear hneg hmag hD hwid hprec hne hbase hO hR
  have h1 := H.out.c1
  have h2 := H.out.c2
  have h13 := H.out.c13
  have h14 := H.out.c14
  rw [HWi.out] at h13
  rw [HPr.out] at h14
  go_enter Edvg.func23, Edvg.ntmps23
  go_upto_region 0 with fail
  go_cut [12] from 20 to 25 (fun s12 w => s12 = .bool neg ∧ W = w)
  case first =>
    rcases isS with _ | _
    · go_wp2_with fail
      go_meet
      case rel => exact ⟨by rw [HN.out]; rfl, rfl⟩
    · by_cases h63 : 9223372036854775808 ≤ u
      · have ht : wrap64 (u : Int) < 0 := (neg_test u hu).2 h63
        go_wp2_with fail
        go_meet
        case rel => exact ⟨by rw [HN.out]; simp [negOf, h63], rfl⟩
      · have ht : ¬ wrap64 (u : Int) < 0 := fun e => h63 ((neg_test u hu).1 e)
        go_wp2_with fail
        go_meet
        case rel => exact ⟨by rw [HN.out]; simp [negOf, h63], rfl⟩
  case rest =>
    obtain ⟨rfl, rfl⟩ := hcut
    go_upto_if 26 with fail
    go_cut [1] from 26 to 28 (fun s1 w => s1 = .int .u64 mag ∧ W = w)
    case first =>
      rcases neg with _ | _
      · have HE : Hid (u = mag) := mag_false HN.out HMg.out
        go_wp2_with fail
        go_meet
        case rel => exact ⟨by rw [HE.out], rfl⟩
      · have HE : Hid (IntKind.u64.wrap (-(u : Int)) = (mag : Int)) := mag_true HN.out HMg.out HU.out
        go_wp2_with fail
        go_meet
        case rel => exact ⟨by rw [HE.out], rfl⟩
    case rest =>
      obtain ⟨rfl, rfl⟩ := hcut
      obtain ⟨wpp, hwpp⟩ : ∃ x, x = (f.wp || f.pp) := ⟨_, rfl⟩
      have HWP : Hid (wpp = (f.wp || f.pp)) := hwpp
      clear hwpp
      go_upto_region 4 with fail
      go_cut [44] from 33 to 43 (fun s44 w => s44 = .bool wpp ∧ W = w)
      case first =>
        rcases hw : f.wp with _ | _
        · rw [hw] at h1
          have HW : Hid (f.wp = false) := hw
          clear hw
          go_wp2_with fail
          go_meet
          case rel => exact ⟨by rw [HWP.out, HW.out]; rfl, rfl⟩
        · rw [hw] at h1
          have HW : Hid (f.wp = true) := hw
          clear hw
          go_wp2_with fail
          go_meet
          case rel => exact ⟨by rw [HWP.out, HW.out]; rfl, rfl⟩
      case rest =>
        obtain ⟨rfl, rfl⟩ := hcut
        obtain ⟨L, hL⟩ : ∃ L, L = bufLen f.wp f.pp wid prec := ⟨_, rfl⟩
        have hL1 : 68 ≤ L := by rw [hL]; unfold bufLen; split <;> omega
        have hL2 : L ≤ 131075 := by rw [hL]; unfold bufLen; split <;> omega
        have HL : Hid (L = bufLen f.wp f.pp wid prec) := hL
        clear hL
        obtain ⟨i, hi, hz, hsi, hby⟩ := info_parts info5
        go_upto_if 44 with fail
        go_cut [13] from 45 to 60 (fun s13 w => ∃ g off C, s13 = .slice (some ⟨g, off, none⟩) L C ∧ L ≤ C ∧ C ≤ 131075 ∧ Scr w B b bb v f l g off L [] ∧ Below B W w)
        case first =>
          rcases wpp with _ | _
          · have HLE : Hid (L = 68) := by show L = 68; rw [HL.out]; exact bufLen_no HWP.out
            go_wp2_with fail
            go_meet
            case rel => exact ⟨b, 15, 68, by rw [HLE.out], by rw [HLE.out]; omega, by omega, by rw [HLE.out]; exact scr_own H.out, Below.refl _ _⟩
          · by_cases h68 : 68 < 3 + wid + prec
            · have HLE : Hid (L = 3 + wid + prec) := by show L = _; rw [HL.out]; exact bufLen_big HWP.out h68
              go_wp2_with fail
              go_quiet (fail)
              go_wp2_with (at_make; refine wpList_make_full _ rfl (.tmp 59) (.tmp 59) 48 rfl B 5 i (.int .u8 0) 1 Edvg.underlying48 hi hz hsi .i64 .i64 (3 + (wid : Int) + prec) (3 + (wid : Int) + prec) (3 + wid + prec) rfl rfl ?l1 ?l2 ?l3 ?l4 ?l5 ?_)
              case l1 => omega
              case l2 => omega
              case l3 => rw [hby]; omega
              case l4 => unfold maxLen; omega
              case l5 => have := H.out.bLt; have := H.out.hb; show B ≤ W.heap.size; omega
              intro w1 ho1 hg1
              have HS : Hid (Scr w1 B b bb v f l W.heap.size 0 (3 + wid + prec) [] ∧ Below B W w1) := scr_made H.out ho1 (by simp [madeCells]) hg1
              clear ho1 hg1
              go_wp2_with fail
              go_meet
              case rel => exact ⟨W.heap.size, 0, 3 + wid + prec, by rw [HLE.out], by rw [HLE.out]; omega, by omega, by rw [HLE.out]; exact HS.out.1, HS.out.2⟩
            · have HLE : Hid (L = 68) := by show L = 68; rw [HL.out]; exact bufLen_small h68
              go_wp2_with fail
              go_quiet (fail)
              go_wp2_with fail
              go_meet
              case rel => exact ⟨b, 15, 68, by rw [HLE.out], by rw [HLE.out]; omega, by omega, by rw [HLE.out]; exact (scr_own H.out).drewN _, below_drewN' _ _ _⟩
        case rest =>
          obtain ⟨wo, rfl⟩ : ∃ wo : World, wo = wc := ⟨_, rfl⟩
          obtain ⟨g, off, C, rfl, hC1, hC2, hS, hB⟩ := hcut
          have HS : Hid (Scr wo B b bb v f l g off L []) := hS
          have HB : Hid (Below B W wo) := hB
          clear hS hB h1 h2 h13 h14 hi hz hsi hby HWP
          obtain ⟨p, hp⟩ : ∃ p, p = precOf f.pp prec f.ze f.wp wid neg f.pl f.sp := ⟨_, rfl⟩
          have hp0 : -1 ≤ p := by rw [hp]; unfold precOf; (repeat' split) <;> omega
          have hp2 : p ≤ 65536 := by rw [hp]; unfold precOf; (repeat' split) <;> omega
          have HP : Hid (p = precOf f.pp prec f.ze f.wp wid neg f.pl f.sp) := hp
          clear hp
          have k1 := HS.out.fm.c1
          have k2 := HS.out.fm.c2
          have k4 := HS.out.fm.c4
          have k6 := HS.out.fm.c6
          have k7 := HS.out.fm.c7
          have k13 := HS.out.fm.c13
          have k14 := HS.out.fm.c14
          rw [HWi.out] at k13
          rw [HPr.out] at k14
          go_upto_if 65 with fail
          go_cut [15] from 61 to 128 (fun s15 w => s15 = .int .i64 p ∧ wo = w)
          case first =>
            rcases hpp : f.pp with _ | _
            · rw [hpp] at k2
              have HP1 : Hid (p = precOf false prec f.ze f.wp wid neg f.pl f.sp) := by show p = _; rw [HP.out, hpp]
              clear hpp HP
              rcases hze : f.ze with _ | _
              · rw [hze] at k7
                have HP2 : Hid (p = 0) := by show p = 0; rw [HP1.out, hze]; rfl
                clear hze HP1
                go_wp2_with fail
                go_meet
                case rel => exact ⟨by rw [HP2.out], rfl⟩
              · rw [hze] at k7
                have HP2 : Hid (p = precOf false prec true f.wp wid neg f.pl f.sp) := by show p = _; rw [HP1.out, hze]
                clear hze HP1
                rcases hwp : f.wp with _ | _
                · rw [hwp] at k1
                  have HP3 : Hid (p = 0) := by show p = 0; rw [HP2.out, hwp]; rfl
                  clear hwp HP2
                  go_wp2_with fail
                  go_meet
                  case rel => exact ⟨by rw [HP3.out], rfl⟩
                · rw [hwp] at k1
                  have HP3 : Hid (p = if neg || f.pl || f.sp then (wid : Int) - 1 else wid) := by show p = _; rw [HP2.out, hwp]; rfl
                  clear hwp HP2
                  rcases neg with _ | _
                  · rcases hpl : f.pl with _ | _
                    · rw [hpl] at k4
                      rcases hsp : f.sp with _ | _
                      · rw [hsp] at k6
                        have HP4 : Hid (p = wid) := by show p = _; rw [HP3.out, hpl, hsp]; rfl
                        clear hpl hsp HP3
                        go_wp2_with fail
                        go_meet
                        case rel => exact ⟨by rw [HP4.out], rfl⟩
                      · rw [hsp] at k6
                        have HP4 : Hid (p = wid - 1) := by show p = _; rw [HP3.out, hpl, hsp]; rfl
                        clear hpl hsp HP3
                        go_wp2_with fail
                        go_meet
                        case rel => exact ⟨by rw [HP4.out], rfl⟩
                    · rw [hpl] at k4
                      have HP4 : Hid (p = wid - 1) := by show p = _; rw [HP3.out, hpl]; rfl
                      clear hpl HP3
                      go_wp2_with fail
                      go_meet
                      case rel => exact ⟨by rw [HP4.out], rfl⟩
                  · have HP4 : Hid (p = wid - 1) := by show p = _; rw [HP3.out]; rfl
                    clear HP3
                    go_wp2_with fail
                    go_meet
                    case rel => exact ⟨by rw [HP4.out], rfl⟩
            · rw [hpp] at k2
              have HP1 : Hid (p = prec) := by show p = _; rw [HP.out, hpp]; rfl
              have HX : Hid (prec = 0 → mag ≠ 0) := fun e => HNE.out hpp e
              clear hpp HP
              by_cases hq : prec = 0
              · have t1 : ((prec : Int) == 0) = true := by simp [hq]
                have t2 : ((mag : Int) == 0) = false := by have := HX.out hq; simp; omega
                clear hq
                go_wp2_with fail
                go_meet
                case rel => exact ⟨by rw [HP1.out], rfl⟩
              · have t1 : ((prec : Int) == 0) = false := by simp; omega
                clear hq
                go_wp2_with fail
                go_meet
                case rel => exact ⟨by rw [HP1.out], rfl⟩
          case rest =>
            obtain ⟨rfl, rfl⟩ := hcut
            have hD17 : D.size = 17 := HD.out.sz
            go_upto_block 0 with fail
            go_cut [1, 17] from 132 to 195 (fun s1 s17 w => ∃ (x i : Nat) (t : List UInt8), s1 = .int .u64 x ∧ s17 = .int .i64 i ∧ x < base ∧ i + t.length = L ∧ t.length ≤ 63 ∧ repr D base 64 mag = [D.get! x] ++ t ∧ Scr w B b bb v f l g off L t ∧ Below B W w)
            case first =>
              clear k1 k2 k4 k6 k7 k13 k14
              rcases HBS.out with hb | hb | hb | hb
              · subst hb
                go_wp2_with fail
                go_loopw [1, 17] (fun s1 s17 w => ∃ (x i k : Nat) (t : List UInt8), s1 = .int .u64 x ∧ s17 = .int .i64 i ∧ i + t.length = L ∧ k + t.length = 64 ∧ x < 2 ^ k ∧ x < 18446744073709551616 ∧ repr D 2 64 mag = repr D 2 k x ++ t ∧ Scr w B b bb v f l g off L t ∧ Below B W w) (fun s1 _ _ => (intOf s1).toNat)
                case atStart => exact ⟨mag, L, 64, [], rfl, rfl, by simp, by simp, HM64.out, HM64.out, by simp, HS.out, HB.out⟩
                case round =>
                  obtain ⟨x, i, k, t, rfl, rfl, hit, hkt, hxk, hx, hrp, hSt, hBt⟩ := hrel
                  have HXK : Hid (x < 2 ^ k) := hxk
                  have HRP : Hid (repr D 2 64 mag = repr D 2 k x ++ t) := hrp
                  have HSt : Hid (Scr wr B b bb v f l g off L t) := hSt
                  have HBt : Hid (Below B W wr) := hBt
                  clear hxk hrp hSt hBt
                  by_cases hlt : x < 2
                  · go_wp2_with fail
                    go_meet
                    case rel => exact ⟨x, i, t, rfl, rfl, hlt, hit, by have := HR64.out; rw [HRP.out, repr_small D _ k x hlt] at this; simp at this; omega, by rw [HRP.out, repr_small D 2 k x hlt], HSt.out, HBt.out⟩
                  · obtain ⟨i', rfl⟩ : ∃ i', i = i' + 1 := ⟨i - 1, by omega⟩
                    obtain ⟨u0, hu0⟩ := HSt.out.has i' (by omega)
                    have hf0 := HSt.out.unfrozen (off + i')
                    have hand := and2 x hx
                    have hmod : x % 2 < 2 := Nat.mod_lt _ (by omega)
                    go_wp2_with fail
                    go_roundw
                    case rel =>
                      obtain ⟨k', hk1, hk2, hk3⟩ := loop_step D 2 k x t _ (by omega) hlt HXK.out hkt HRP.out
                      exact ⟨x / 2, i', k', D.get! (x % 2) :: t, by go_num, rfl, by simp; omega, hk1, hk2, by omega, hk3, HSt.out.store i' (by omega) _ _ (digS2 HD.out x), HSt.out.storeBelow _ _ HBt.out⟩
                    case measure => simp [intOf]; omega
              · subst hb
                go_wp2_with fail
                go_loopw [1, 17] (fun s1 s17 w => ∃ (x i k : Nat) (t : List UInt8), s1 = .int .u64 x ∧ s17 = .int .i64 i ∧ i + t.length = L ∧ k + t.length = 64 ∧ x < 2 ^ k ∧ x < 18446744073709551616 ∧ repr D 8 64 mag = repr D 8 k x ++ t ∧ Scr w B b bb v f l g off L t ∧ Below B W w) (fun s1 _ _ => (intOf s1).toNat)
                case atStart => exact ⟨mag, L, 64, [], rfl, rfl, by simp, by simp, HM64.out, HM64.out, by simp, HS.out, HB.out⟩
                case round =>
                  obtain ⟨x, i, k, t, rfl, rfl, hit, hkt, hxk, hx, hrp, hSt, hBt⟩ := hrel
                  have HXK : Hid (x < 2 ^ k) := hxk
                  have HRP : Hid (repr D 8 64 mag = repr D 8 k x ++ t) := hrp
                  have HSt : Hid (Scr wr B b bb v f l g off L t) := hSt
                  have HBt : Hid (Below B W wr) := hBt
                  clear hxk hrp hSt hBt
                  by_cases hlt : x < 8
                  · go_wp2_with fail
                    go_meet
                    case rel => exact ⟨x, i, t, rfl, rfl, hlt, hit, by have := HR64.out; rw [HRP.out, repr_small D _ k x hlt] at this; simp at this; omega, by rw [HRP.out, repr_small D 8 k x hlt], HSt.out, HBt.out⟩
                  · obtain ⟨i', rfl⟩ : ∃ i', i = i' + 1 := ⟨i - 1, by omega⟩
                    obtain ⟨u0, hu0⟩ := HSt.out.has i' (by omega)
                    have hf0 := HSt.out.unfrozen (off + i')
                    have hand := and8 x hx
                    have hmod : x % 8 < 8 := Nat.mod_lt _ (by omega)
                    go_wp2_with fail
                    go_roundw
                    case rel =>
                      obtain ⟨k', hk1, hk2, hk3⟩ := loop_step D 8 k x t _ (by omega) hlt HXK.out hkt HRP.out
                      exact ⟨x / 8, i', k', D.get! (x % 8) :: t, by go_num, rfl, by simp; omega, hk1, hk2, by omega, hk3, HSt.out.store i' (by omega) _ _ (digS8 HD.out x), HSt.out.storeBelow _ _ HBt.out⟩
                    case measure => simp [intOf]; omega
              · subst hb
                go_wp2_with fail
                go_loopw [1, 17] (fun s1 s17 w => ∃ (x i k : Nat) (t : List UInt8), s1 = .int .u64 x ∧ s17 = .int .i64 i ∧ i + t.length = L ∧ k + t.length = 64 ∧ x < 2 ^ k ∧ x < 18446744073709551616 ∧ repr D 10 64 mag = repr D 10 k x ++ t ∧ Scr w B b bb v f l g off L t ∧ Below B W w) (fun s1 _ _ => (intOf s1).toNat)
                case atStart => exact ⟨mag, L, 64, [], rfl, rfl, by simp, by simp, HM64.out, HM64.out, by simp, HS.out, HB.out⟩
                case round =>
                  obtain ⟨x, i, k, t, rfl, rfl, hit, hkt, hxk, hx, hrp, hSt, hBt⟩ := hrel
                  have HXK : Hid (x < 2 ^ k) := hxk
                  have HRP : Hid (repr D 10 64 mag = repr D 10 k x ++ t) := hrp
                  have HSt : Hid (Scr wr B b bb v f l g off L t) := hSt
                  have HBt : Hid (Below B W wr) := hBt
                  clear hxk hrp hSt hBt
                  by_cases hlt : x < 10
                  · go_wp2_with fail
                    go_meet
                    case rel => exact ⟨x, i, t, rfl, rfl, hlt, hit, by have := HR64.out; rw [HRP.out, repr_small D _ k x hlt] at this; simp at this; omega, by rw [HRP.out, repr_small D 10 k x hlt], HSt.out, HBt.out⟩
                  · obtain ⟨i', rfl⟩ : ∃ i', i = i' + 1 := ⟨i - 1, by omega⟩
                    obtain ⟨u0, hu0⟩ := HSt.out.has i' (by omega)
                    have hf0 := HSt.out.unfrozen (off + i')
                    go_wp2_with fail
                    go_roundw
                    case rel =>
                      obtain ⟨k', hk1, hk2, hk3⟩ := loop_step D 10 k x t _ (by omega) hlt HXK.out hkt HRP.out
                      exact ⟨x / 10, i', k', D.get! (x % 10) :: t, by go_num, rfl, by simp; omega, hk1, hk2, by omega, hk3, HSt.out.store i' (by omega) _ _ (dig10 HD.out x hx), HSt.out.storeBelow _ _ HBt.out⟩
                    case measure => simp [intOf]; omega
              · subst hb
                go_wp2_with fail
                go_loopw [1, 17] (fun s1 s17 w => ∃ (x i k : Nat) (t : List UInt8), s1 = .int .u64 x ∧ s17 = .int .i64 i ∧ i + t.length = L ∧ k + t.length = 64 ∧ x < 2 ^ k ∧ x < 18446744073709551616 ∧ repr D 16 64 mag = repr D 16 k x ++ t ∧ Scr w B b bb v f l g off L t ∧ Below B W w) (fun s1 _ _ => (intOf s1).toNat)
                case atStart => exact ⟨mag, L, 64, [], rfl, rfl, by simp, by simp, HM64.out, HM64.out, by simp, HS.out, HB.out⟩
                case round =>
                  obtain ⟨x, i, k, t, rfl, rfl, hit, hkt, hxk, hx, hrp, hSt, hBt⟩ := hrel
                  have HXK : Hid (x < 2 ^ k) := hxk
                  have HRP : Hid (repr D 16 64 mag = repr D 16 k x ++ t) := hrp
                  have HSt : Hid (Scr wr B b bb v f l g off L t) := hSt
                  have HBt : Hid (Below B W wr) := hBt
                  clear hxk hrp hSt hBt
                  by_cases hlt : x < 16
                  · go_wp2_with fail
                    go_meet
                    case rel => exact ⟨x, i, t, rfl, rfl, hlt, hit, by have := HR64.out; rw [HRP.out, repr_small D _ k x hlt] at this; simp at this; omega, by rw [HRP.out, repr_small D 16 k x hlt], HSt.out, HBt.out⟩
                  · obtain ⟨i', rfl⟩ : ∃ i', i = i' + 1 := ⟨i - 1, by omega⟩
                    obtain ⟨u0, hu0⟩ := HSt.out.has i' (by omega)
                    have hf0 := HSt.out.unfrozen (off + i')
                    have hand := and16 x hx
                    have hmod : x % 16 < 16 := Nat.mod_lt _ (by omega)
                    go_wp2_with fail
                    go_roundw
                    case rel =>
                      obtain ⟨k', hk1, hk2, hk3⟩ := loop_step D 16 k x t _ (by omega) hlt HXK.out hkt HRP.out
                      exact ⟨x / 16, i', k', D.get! (x % 16) :: t, by go_num, rfl, by simp; omega, hk1, hk2, by omega, hk3, HSt.out.store i' (by omega) _ _ (dig16 HD.out x), HSt.out.storeBelow _ _ HBt.out⟩
                    case measure => simp [intOf]; omega
            case rest =>
              obtain ⟨x, i, t, rfl, rfl, hxb, hit, ht63, hrp, hSt, hBt⟩ := hcut
              obtain ⟨i', rfl⟩ : ∃ i', i = i' + 1 := ⟨i - 1, by omega⟩
              have hx17 : x < 16 := by rcases HBS.out with hb | hb | hb | hb <;> omega
              have HDT : Hid (ds = D.get! x :: t) := by show ds = _; rw [HDS.out, hrp]; rfl
              have HSt : Hid (Scr wc B b bb v f l g off L t) := hSt
              have HBt : Hid (Below B W wc) := hBt
              clear hrp hSt hBt k1 k2 k4 k6 k7 k13 k14
              obtain ⟨u0, hu0⟩ := HSt.out.has i' (by omega)
              have hf0 := HSt.out.unfrozen (off + i')
              have HSd : ∀ q : Int, q = ((D.get! x).toNat : Int) → Hid (Scr (wc.setCell ⟨g, off + i', none⟩ (.int .u8 q)) B b bb v f l g off L ds ∧ Below B W (wc.setCell ⟨g, off + i', none⟩ (.int .u8 q))) := fun q hq => by
                show Scr _ B b bb v f l g off L ds ∧ _
                rw [HDT.out]
                exact ⟨HSt.out.store i' (by omega) _ q hq, HSt.out.storeBelow _ _ HBt.out⟩
              have hid : i' + ds.length = L := by rw [HDT.out]; simp; omega
              go_upto_block 9 with fail
              go_cut [17] from 196 to 218 (fun s17 w => ∃ i : Nat, s17 = .int .i64 i ∧ i + n0.length = L ∧ Scr w B b bb v f l g off L n0 ∧ Below B W w)
              case first =>
                have hn0L : n0.length ≤ L := by have := HFit.out; rw [← HL.out] at this; omega
                have HNP : Hid (n0 = withZeros p ds) := by show n0 = _; rw [HN0.out, ← HP.out]
                have HNL : Hid (n0.length = (p - ds.length).toNat + ds.length) := by show n0.length = _; rw [HNP.out, withZeros_len]
                go_wp2_with fail
                go_loopw [17] (fun s17 w => ∃ (i k : Nat), s17 = .int .i64 i ∧ i + (k + ds.length) = L ∧ k ≤ (p - ds.length).toNat ∧ Scr w B b bb v f l g off L (List.replicate k 48 ++ ds) ∧ Below B W w) (fun s17 _ => (intOf s17).toNat)
                case atStart =>
                  have h2 := (HSd _ (by rw [getB D x (by omega)])).out
                  exact ⟨i', 0, rfl, by omega, by omega, h2.1, h2.2⟩
                case round =>
                  obtain ⟨i, k, rfl, hik, hkp, hSk, hBk⟩ := hrel
                  have HSk : Hid (Scr wr B b bb v f l g off L (List.replicate k 48 ++ ds)) := hSk
                  have HBk : Hid (Below B W wr) := hBk
                  have HKP : Hid (k ≤ (p - ds.length).toNat) := hkp
                  clear hSk hBk hkp HSd hu0 hf0
                  by_cases h0 : i = 0
                  · have hz : ¬ (0 : Int) < (i : Int) := by omega
                    have HK : Hid (List.replicate k 48 ++ ds = n0) := zeros_all HNP.out (by have h1 := HKP.out; have h2 := HNL.out; omega)
                    clear h0
                    go_wp2_with fail
                    go_meet
                    case rel => exact ⟨i, rfl, by rw [← HK.out]; simp; omega, by rw [← HK.out]; exact HSk.out, HBk.out⟩
                  · have hz : (0 : Int) < (i : Int) := by omega
                    by_cases hpl : (L : Int) - (i : Int) < p
                    · obtain ⟨j, rfl⟩ : ∃ j, i = j + 1 := ⟨i - 1, by omega⟩
                      obtain ⟨u1, hu1⟩ := HSk.out.has j (by omega)
                      have hf1 := HSk.out.unfrozen (off + j)
                      clear h0
                      go_wp2_with fail
                      go_roundw
                      case rel => exact ⟨j, k + 1, by go_num, by omega, by have := HKP.out; omega, by rw [List.replicate_succ, List.cons_append]; exact HSk.out.store j (by simp; omega) 48 _ rfl, HSk.out.storeBelow _ _ HBk.out⟩
                      case measure => simp [intOf]
                    · have HK : Hid (List.replicate k 48 ++ ds = n0) := zeros_all HNP.out (by have h1 := HKP.out; omega)
                      clear h0
                      go_wp2_with fail
                      go_meet
                      case rel => exact ⟨i, rfl, by rw [← HK.out]; simp; omega, by rw [← HK.out]; exact HSk.out, HBk.out⟩
              case rest =>
                obtain ⟨i, rfl, hi0, hS0, hB0⟩ := hcut
                obtain ⟨w0, rfl⟩ : ∃ w0 : World, w0 = wc := ⟨_, rfl⟩
                have HS0 : Hid (Scr w0 B b bb v f l g off L n0) := hS0
                have HB0 : Hid (Below B W w0) := hB0
                clear hS0 hB0
                have hfit := HFit.out
                rw [← HL.out] at hfit
                obtain ⟨f0, f1, f2, f3, f4⟩ := hfit
                have k5 := HS0.out.fm.c5
                go_upto_if 223 with fail
                go_cut [17] from 219 to 262 (fun s17 w => ∃ i : Nat, s17 = .int .i64 i ∧ i + n1.length = L ∧ Scr w B b bb v f l g off L n1 ∧ Below B W w)
                case first =>
                  rcases hsh : f.sh with _ | _
                  · rw [hsh] at k5
                    have HE : Hid (n1 = n0) := by show n1 = n0; rw [HN1.out, hsh]; rfl
                    clear hsh
                    go_wp2_with fail
                    go_meet
                    case rel => exact ⟨i, rfl, by rw [HE.out]; exact hi0, by rw [HE.out]; exact HS0.out, HB0.out⟩
                  · rw [hsh] at k5
                    have HE : Hid (n1 = sharpT D base true n0) := by show n1 = _; rw [HN1.out, hsh]
                    clear hsh
                    rcases HBS.out with hb | hb | hb | hb
                    · subst hb
                      have HE2 : Hid (n1 = 48 :: 98 :: n0) := HE.out
                      have hl : n1.length = n0.length + 2 := by rw [HE2.out]; rfl
                      obtain ⟨j, rfl⟩ : ∃ j, i = j + 2 := ⟨i - 2, by omega⟩
                      clear hl
                      obtain ⟨u1, hu1⟩ := HS0.out.has (j + 1) (by omega)
                      have hf1 := HS0.out.unfrozen (off + (j + 1))
                      obtain ⟨u2, hu2⟩ := HS0.out.has j (by omega)
                      have hf2 := HS0.out.unfrozen (off + j)
                      go_wp2_with fail
                      go_meet
                      case rel =>
                        have h2 := HS0.out.store2 j (by omega) 98 48 _ _ rfl rfl HB0.out
                        exact ⟨j, by go_num, by rw [HE2.out]; simp; omega, by rw [HE2.out]; exact h2.1, h2.2⟩
                    · subst hb
                      obtain ⟨c, r, hcr⟩ : ∃ c r, n0 = c :: r := by
                        cases hn : n0 with
                        | nil => rw [hn] at f0; simp at f0
                        | cons c r => exact ⟨c, r, rfl⟩
                      have hu1 : w0.cell? ⟨g, off + i, none⟩ = some (.int .u8 (c.toNat : Int)) := by
                        have h1 := HS0.out.tl 0 (by omega)
                        have e1 : off + (L - n0.length + 0) = off + i := by omega
                        rw [e1] at h1
                        rw [h1]
                        congr 3
                        simp [hcr]
                      by_cases hc : c = 48
                      · have HE2 : Hid (n1 = n0) := by show n1 = n0; rw [HE.out]; exact sharp8_yes hcr hc
                        have t1 : ((c.toNat : Int) != 48) = false := by rw [hc]; rfl
                        clear hcr hc
                        go_wp2_with fail
                        go_meet
                        case rel => exact ⟨i, rfl, by rw [HE2.out]; exact hi0, by rw [HE2.out]; exact HS0.out, HB0.out⟩
                      · have HE2 : Hid (n1 = 48 :: n0) := by show n1 = _; rw [HE.out]; exact sharp8_no hcr hc
                        have t1 : ((c.toNat : Int) != 48) = true := u8_ne hc
                        have hl : n1.length = n0.length + 1 := by rw [HE2.out]; rfl
                        obtain ⟨j, rfl⟩ : ∃ j, i = j + 1 := ⟨i - 1, by omega⟩
                        clear hl hcr hc
                        obtain ⟨u2, hu2⟩ := HS0.out.has j (by omega)
                        have hf2 := HS0.out.unfrozen (off + j)
                        go_wp2_with fail
                        go_meet
                        case rel =>
                          exact ⟨j, by go_num, by rw [HE2.out]; simp; omega, by rw [HE2.out]; exact HS0.out.store j (by omega) 48 _ rfl, HS0.out.storeBelow _ _ HB0.out⟩
                    · subst hb
                      have HE2 : Hid (n1 = n0) := HE.out
                      go_wp2_with fail
                      go_meet
                      case rel => exact ⟨i, rfl, by rw [HE2.out]; exact hi0, by rw [HE2.out]; exact HS0.out, HB0.out⟩
                    · subst hb
                      have HE2 : Hid (n1 = 48 :: D.get! 16 :: n0) := HE.out
                      have hl : n1.length = n0.length + 2 := by rw [HE2.out]; rfl
                      obtain ⟨j, rfl⟩ : ∃ j, i = j + 2 := ⟨i - 2, by omega⟩
                      clear hl
                      obtain ⟨u1, hu1⟩ := HS0.out.has (j + 1) (by omega)
                      have hf1 := HS0.out.unfrozen (off + (j + 1))
                      obtain ⟨u2, hu2⟩ := HS0.out.has j (by omega)
                      have hf2 := HS0.out.unfrozen (off + j)
                      go_wp2_with fail
                      go_meet
                      case rel =>
                        have h2 := HS0.out.store2 j (by omega) (D.get! 16) 48 _ _ (dig_at (d := 16) (by omega)) rfl HB0.out
                        exact ⟨j, by go_num, by rw [HE2.out]; simp; omega, by rw [HE2.out]; exact h2.1, h2.2⟩
                case rest =>
                  obtain ⟨i1, rfl, hi1, hS1, hB1⟩ := hcut
                  obtain ⟨w1, rfl⟩ : ∃ w1 : World, w1 = wc := ⟨_, rfl⟩
                  have HS1 : Hid (Scr w1 B b bb v f l g off L n1) := hS1
                  have HB1 : Hid (Below B W w1) := hB1
                  clear hS1 hB1 k5
                  go_upto_if 264 with fail
                  go_cut [17] from 263 to 274 (fun s17 w => ∃ i : Nat, s17 = .int .i64 i ∧ i + n2.length = L ∧ Scr w B b bb v f l g off L n2 ∧ Below B W w)
                  case first =>
                    by_cases hv : verb = 79
                    · have HE2 : Hid (n2 = 48 :: 111 :: n1) := by show n2 = _; rw [HN2.out, decide_eq_true hv]; rfl
                      have t1 : (verb == 79) = true := by simp [hv]
                      have hl : n2.length = n1.length + 2 := by rw [HE2.out]; rfl
                      obtain ⟨j, rfl⟩ : ∃ j, i1 = j + 2 := ⟨i1 - 2, by omega⟩
                      clear hl hv
                      obtain ⟨u1, hu1⟩ := HS1.out.has (j + 1) (by omega)
                      have hf1 := HS1.out.unfrozen (off + (j + 1))
                      obtain ⟨u2, hu2⟩ := HS1.out.has j (by omega)
                      have hf2 := HS1.out.unfrozen (off + j)
                      go_wp2_with fail
                      go_meet
                      case rel =>
                        have h2 := HS1.out.store2 j (by omega) 111 48 _ _ rfl rfl HB1.out
                        exact ⟨j, by go_num, by rw [HE2.out]; simp; omega, by rw [HE2.out]; exact h2.1, h2.2⟩
                    · have HE2 : Hid (n2 = n1) := by show n2 = _; rw [HN2.out, decide_eq_false hv]; rfl
                      have t1 : (verb == 79) = false := by simpa using hv
                      clear hv
                      go_wp2_with fail
                      go_meet
                      case rel => exact ⟨i1, rfl, by rw [HE2.out]; exact hi1, by rw [HE2.out]; exact HS1.out, HB1.out⟩
                  case rest =>
                    obtain ⟨i2, rfl, hi2, hS2, hB2⟩ := hcut
                    obtain ⟨w2, rfl⟩ : ∃ w2 : World, w2 = wc := ⟨_, rfl⟩
                    have HS2 : Hid (Scr w2 B b bb v f l g off L n2) := hS2
                    have HB2 : Hid (Below B W w2) := hB2
                    clear hS2 hB2
                    have k4 := HS2.out.fm.c4
                    have k6 := HS2.out.fm.c6
                    go_upto_if 275 with fail
                    go_cut [17] from 275 to 300 (fun s17 w => ∃ i : Nat, s17 = .int .i64 i ∧ i + n3.length = L ∧ Scr w B b bb v f l g off L n3 ∧ Below B W w)
                    case first =>
                      rcases neg with _ | _
                      · rcases hpl : f.pl with _ | _
                        · rw [hpl] at k4
                          rcases hsp : f.sp with _ | _
                          · rw [hsp] at k6
                            have HE2 : Hid (n3 = n2) := by show n3 = _; rw [HN3.out, hpl, hsp]; rfl
                            clear hpl hsp
                            go_wp2_with fail
                            go_meet
                            case rel => exact ⟨i2, rfl, by rw [HE2.out]; exact hi2, by rw [HE2.out]; exact HS2.out, HB2.out⟩
                          · rw [hsp] at k6
                            have HE2 : Hid (n3 = 32 :: n2) := by show n3 = _; rw [HN3.out, hpl, hsp]; rfl
                            clear hpl hsp
                            have hl : n3.length = n2.length + 1 := by rw [HE2.out]; rfl
                            obtain ⟨j, rfl⟩ : ∃ j, i2 = j + 1 := ⟨i2 - 1, by omega⟩
                            clear hl
                            obtain ⟨u2, hu2⟩ := HS2.out.has j (by omega)
                            have hf2 := HS2.out.unfrozen (off + j)
                            go_wp2_with fail
                            go_meet
                            case rel => exact ⟨j, by go_num, by rw [HE2.out]; simp; omega, by rw [HE2.out]; exact HS2.out.store j (by omega) 32 _ rfl, HS2.out.storeBelow _ _ HB2.out⟩
                        · rw [hpl] at k4
                          have HE2 : Hid (n3 = 43 :: n2) := by show n3 = _; rw [HN3.out, hpl]; rfl
                          clear hpl
                          have hl : n3.length = n2.length + 1 := by rw [HE2.out]; rfl
                          obtain ⟨j, rfl⟩ : ∃ j, i2 = j + 1 := ⟨i2 - 1, by omega⟩
                          clear hl
                          obtain ⟨u2, hu2⟩ := HS2.out.has j (by omega)
                          have hf2 := HS2.out.unfrozen (off + j)
                          go_wp2_with fail
                          go_meet
                          case rel => exact ⟨j, by go_num, by rw [HE2.out]; simp; omega, by rw [HE2.out]; exact HS2.out.store j (by omega) 43 _ rfl, HS2.out.storeBelow _ _ HB2.out⟩
                      · have HE2 : Hid (n3 = 45 :: n2) := by show n3 = _; rw [HN3.out]; rfl
                        have hl : n3.length = n2.length + 1 := by rw [HE2.out]; rfl
                        obtain ⟨j, rfl⟩ : ∃ j, i2 = j + 1 := ⟨i2 - 1, by omega⟩
                        clear hl
                        obtain ⟨u2, hu2⟩ := HS2.out.has j (by omega)
                        have hf2 := HS2.out.unfrozen (off + j)
                        go_wp2_with fail
                        go_meet
                        case rel => exact ⟨j, by go_num, by rw [HE2.out]; simp; omega, by rw [HE2.out]; exact HS2.out.store j (by omega) 45 _ rfl, HS2.out.storeBelow _ _ HB2.out⟩
                    case rest =>
                      obtain ⟨i3, rfl, hi3, hS3, hB3⟩ := hcut
                      have HS3 : Hid (Scr wc B b bb v f l g off L n3) := hS3
                      have HB3 : Hid (Below B W wc) := hB3
                      clear hS3 hB3 k4 k6
                      have k7 := HS3.out.fm.c7
                      have kf7 := HS3.out.fm.fz 7
                      go_wp2_with fail
                      refine (pad_at n3 i3 (C - i3) _ B b bb v { f with ze := false } l g off L (HS3.out.setZe false) hi3 (by omega) (by omega) HA.out (by show 0 ≤ f.wid; rw [HWi.out]; omega) (by show f.wid ≤ 65536; rw [HWi.out]; omega) R HR.out (L - i3) (by omega)).mono ?_
                      rintro e w5 ⟨rfl, hb5, v5, hv5⟩
                      have HF5 : Hid (FmtV w5 B b bb v5 { f with ze := false } R) := hv5
                      have HB5 : Hid (Below B (wc.setCell ⟨b, 7, none⟩ (.bool false)) w5) := hb5
                      have j7 := HF5.out.c7
                      have jf7 := HF5.out.fz 7
                      clear hv5 hb5 k7 kf7
                      go_wp2_with fail
                      go_end0
                      exact ⟨rfl, ((HB3.out.setCell H.out.hb _).trans HB5.out).setCell H.out.hb _, v5, HF5.out.setZe f.ze⟩
end Go.Proofs.YoedvwDoor
