/- writePadding, walked. -/
import Derived.Test.YoedvwDoorWr
import Derived.Deep.DeepCutAuto
import Derived.Deep.CutRange
import Derived.Deep.Light
import Derived.Laws.CopyOwn
namespace Go.Proofs.YoedvwDoor
open Go.RowKit
set_option linter.unusedVariables false

set_option maxHeartbeats 400000 in
theorem padding_no (n : Int) (hn : n ≤ 0) (b : Nat) (W : World) :
    Calls Edvg.prog 30 #[.pointer (some ⟨b, 0, none⟩), .int .i64 n] W fun e W' => e = .returned (.tuple #[]) ∧ W = W' := by
  go_enter Edvg.func30, Edvg.ntmps30
  go_wp2
  refine bodyPost_ret (results_none rfl _ _ _) rfl ?_
  exact ⟨rfl, rfl⟩

/-- The row that the padding is written into: block g, its first bytes are l. -/
structure Row (W w : World) (v : Value) (B g cap : Nat) (l : List UInt8) : Prop where
  hb : B ≤ g
  blk : ∃ cur : Array Value, w.heap[g]? = some (.cells cur 5 (0, 0)) ∧ cur.size = cap ∧ cur.toList.take l.length = cellsOf l
  le : l.length ≤ cap
  cm : cap ≤ maxLen
  gr : W.grownBy w v.ownBlock
  wh : v.ownBlock = some g ∨ g = W.heap.size

theorem Row.cellB {W w : World} {v : Value} {B g cap b bb : Nat} {l : List UInt8} {f : Fl} (h : Row W w v B g cap l) {l0 : List UInt8} (H : FmtV W B b bb v f l0) (j : Nat) : w.cell? ⟨b, j, none⟩ = W.cell? ⟨b, j, none⟩ :=
  World.cell?_of_block (w := W) (a := ⟨b, j, none⟩) (h.gr.block b H.bLt (fun e => (H.row b e.symm).2.2.1 rfl))
theorem Row.cellBB {W w : World} {v : Value} {B g cap b bb : Nat} {l : List UInt8} {f : Fl} (h : Row W w v B g cap l) {l0 : List UInt8} (H : FmtV W B b bb v f l0) (j : Nat) : w.cell? ⟨bb, j, none⟩ = W.cell? ⟨bb, j, none⟩ :=
  World.cell?_of_block (w := W) (a := ⟨bb, j, none⟩) (h.gr.block bb H.bbLt (fun e => (H.row bb e.symm).2.2.2 rfl))
theorem Row.frozenBB {W w : World} {v : Value} {B g cap b bb : Nat} {l : List UInt8} {f : Fl} (h : Row W w v B g cap l) {l0 : List UInt8} (H : FmtV W B b bb v f l0) (j : Nat) : w.frozen? ⟨bb, j, none⟩ = W.frozen? ⟨bb, j, none⟩ :=
  World.frozen?_of_block (w := W) (a := ⟨bb, j, none⟩) (h.gr.block bb H.bbLt (fun e => (H.row bb e.symm).2.2.2 rfl))
theorem Row.store {W w : World} {v : Value} {B g cap : Nat} {l : List UInt8} (h : Row W w v B g cap l) (hl : l.length < cap) (p : UInt8) (q : Int) (hq : q = (p.toNat : Int)) : Row W (w.setCell ⟨g, l.length, none⟩ (.int .u8 q)) v B g cap (l ++ [p]) := by
  obtain ⟨cur, hc, hs, ht⟩ := h.blk
  subst hq
  refine ⟨h.hb, ⟨cur.setIfInBounds l.length (.int .u8 p.toNat), ?_, by simpa using hs, ?_⟩, by simp; omega, h.cm, ?_, h.wh⟩
  · simp [World.setCell, Array.getElem?_modify, hc]
  · have hlc : l.length < cur.toList.length := by have := Array.length_toList (xs := cur); omega
    rw [Array.toList_setIfInBounds, List.length_append, List.length_singleton, List.take_succ_eq_append_getElem (by rw [List.length_set]; exact hlc), cellsOf_append]
    congr 1
    · rw [List.take_set_of_le (Nat.le_refl _)]; exact ht
    · rw [List.getElem_set_self]; rfl
  · refine ⟨h.gr.os, h.gr.tape, h.gr.output, by have := h.gr.size; simpa [World.setCell] using this, fun k hk hne => ?_⟩
    rw [Below.heap_setCell _ _ _ _ (by
      show k ≠ g
      rintro rfl
      rcases h.wh with e | e
      · exact hne e.symm
      · omega)]
    exact h.gr.block k hk hne
theorem Row.has {W w : World} {v : Value} {B g cap : Nat} {l : List UInt8} (h : Row W w v B g cap l) (j : Nat) (hj : j < cap) : ∃ u, w.cell? ⟨g, j, none⟩ = some u := by
  obtain ⟨cur, hc, hs, ht⟩ := h.blk
  exact ⟨cur[j]'(by omega), by rw [cell_of_heap hc, Array.getElem?_eq_getElem (by omega)]⟩
theorem Row.unfrozen {W w : World} {v : Value} {B g cap : Nat} {l : List UInt8} (h : Row W w v B g cap l) (j : Nat) : w.frozen? ⟨g, j, none⟩ = false := by
  obtain ⟨cur, hc, hs, ht⟩ := h.blk
  exact frozen_of_heap hc j
theorem Row.owns {W w : World} {v : Value} {B g cap : Nat} {l : List UInt8} (h : Row W w v B g cap l) : w.ownsRow B 5 1 (.slice (some ⟨g, 0, none⟩) l.length cap) l.length (cellsOf l) := by
  obtain ⟨cur, hc, hs, ht⟩ := h.blk
  exact ⟨by rw [cellsOf_length, Nat.mul_one], Or.inr ⟨g, cap, cur, rfl, h.hb, hc, h.le, h.cm, by omega, by simpa using ht⟩⟩

theorem row_step {W w : World} {v : Value} {B g cap i : Nat} {l : List UInt8} {p : UInt8} (h : Row W w v B g cap (l ++ List.replicate i p)) (hl : (l ++ List.replicate i p).length = l.length + i) (hc : l.length + i < cap) :
    Row W (w.setCell ⟨g, l.length + i, none⟩ (.int .u8 (p.toNat : Int))) v B g cap (l ++ List.replicate (i + 1) p) := by
  have := h.store (by omega) p _ rfl
  rw [hl, List.append_assoc, ← List.replicate_succ'] at this
  exact this

theorem pad_end {W w : World} {v : Value} {B g cap i b bb : Nat} {l : List UInt8} {f : Fl} {p : UInt8} (H : FmtV W B b bb v f l) (h : Row W w v B g cap (l ++ List.replicate i p)) (hl : (l ++ List.replicate i p).length = l.length + i) :
    ∃ v', FmtV (w.setCell ⟨bb, 0, none⟩ (.slice (some ⟨g, 0, none⟩) (l.length + i) cap)).drew B b bb v' f (l ++ List.replicate i p) ∧ Only bb v.ownBlock W (w.setCell ⟨bb, 0, none⟩ (.slice (some ⟨g, 0, none⟩) (l.length + i) cap)).drew ∧ (v'.ownBlock = v.ownBlock ∨ v'.ownBlock = some W.heap.size) := by
  have ho := h.owns
  rw [hl] at ho
  refine ⟨_, (H.put h.gr (v' := .slice (some ⟨g, 0, none⟩) (l.length + i) cap) (by rw [hl]; exact ho)).drew, ((Only.ofGrown h.gr).setB _).drew, ?_⟩
  rcases h.wh with e | e
  · exact Or.inl e.symm
  · exact Or.inr (by simp [Value.ownBlock, e])

def padB (ze : Bool) : UInt8 := if ze then 48 else 32

theorem row_room {W : World} {B b bb : Nat} {vb : Option Addr} {vc : Nat} {f : Fl} {l : List UInt8} (h : FmtV W B b bb (.slice vb l.length vc) f l) (n : Nat) (hn : 0 < n) (hr : l.length + n ≤ vc) :
    ∃ g, vb = some ⟨g, 0, none⟩ ∧ Row W W (.slice vb l.length vc) B g vc l := by
  rcases h.own.2 with ⟨h1, h2⟩ | ⟨g', cap, cur, h1, hb, hh, hnc, hcm, hsz, ht⟩
  · injection h1 with h3 h4 h5; omega
  · injection h1 with h3 h4 h5
    subst h3 h5
    exact ⟨g', rfl, hb, ⟨cur, hh, by omega, by simpa using ht⟩, by omega, hcm, World.grownBy.refl _ _, Or.inl rfl⟩

theorem made_heap {w1 : World} {B g N : Nat} {xs : List Value} (h : w1.ownsRow B 5 1 (.slice (some ⟨g, 0, none⟩) N N) N xs) : w1.heap[g]? = some (.cells xs.toArray 5 (0, 0)) := by
  rcases h.2 with ⟨h1, h2⟩ | ⟨g', cap, cur, h1, hb, hh, hnc, hcm, hsz, ht⟩
  · cases h1
  · injection h1 with h3 h4 h5
    injection h3 with h6
    injection h6 with h7
    subst h7 h5
    have : cur.toList = xs := by rw [← ht, List.take_of_length_le]; rw [Array.length_toList]; omega
    rw [hh, ← this]
theorem src_of {W : World} {B b bb : Nat} {vb : Option Addr} {vc : Nat} {f : Fl} {l : List UInt8} (h : FmtV W B b bb (.slice vb l.length vc) f l) : 0 < (cellsOf l).length → ∃ ad, vb = some ad ∧ ∀ j v, (cellsOf l)[j]? = some v → W.cell? (ad.add j) = some v := by
  intro hp
  rw [cellsOf_length] at hp
  rcases h.own.2 with ⟨h1, h2⟩ | ⟨g', cap, cur, h1, hb, hh, hnc, hcm, hsz, ht⟩
  · omega
  · injection h1 with h3 h4 h5
    subst h3
    exact ⟨_, rfl, h.own.cells (g := g') rfl⟩

theorem copy_made {W w1 : World} {g N : Nat} {L : List Value} {l : List UInt8} {vb : Option Addr} {vc : Nat} (hH : w1.heap[g]? = some (.cells L.toArray 5 (0, 0))) (hN : L.length = N) (hL : l.length ≤ N)
    (hV : 0 < (cellsOf l).length → ∃ ad, vb = some ad ∧ ∀ j v, (cellsOf l)[j]? = some v → w1.cell? (ad.add j) = some v) (hB : Below g W w1) :
    ∃ w2, (Builtin.copy_ #[49, 49] 3 #[.slice (some ⟨g, 0, none⟩) N N, .slice vb l.length vc]).run Edvg.prog w1 = .ok (goInt l.length) w2 ∧ Hid (w2.heap[g]? = some (.cells (splice L 0 (cellsOf l)).toArray 5 (0, 0))) ∧ Hid (Below g W w2) := by
  have hs : (Edvg.prog.info? 5).map (·.size) = some 1 := by
    obtain ⟨i, hi, hz, hsi, hby⟩ := info_parts info5
    rw [hi]; exact congrArg some hsi
  by_cases h0 : l.length = 0
  · obtain rfl : l = [] := List.eq_nil_of_length_eq_zero h0
    exact ⟨w1, run_copy_none (P := Edvg.prog) w1 49 49 3 5 _ _ _ _ _ _ Edvg.underlying49 hs (by simp), by show _ = _; rw [hH]; simp [splice, cellsOf], hB⟩
  · obtain ⟨ad, rfl, hc⟩ := hV (by rw [cellsOf_length]; omega)
    have hr := run_copy_row (P := Edvg.prog) w1 49 49 3 5 g 0 N N ad l.length vc L.toArray 5 (cellsOf l) Edvg.underlying49 hs hH (by rw [cellsOf_length]; exact (Nat.min_eq_left hL).symm) hc (by rw [cellsOf_length, List.size_toArray]; omega) (cellsOf_one l)
    rw [cellsOf_length] at hr
    refine ⟨_, hr, ?_, below_setRow hB (Nat.le_refl _) _⟩
    show _ = _
    rw [setRow_heap w1 g _ _ 5 _ hH]
    simp [splice, cellsOf_length]

set_option maxHeartbeats 1000000 in
theorem padding_yes (n : Nat) (hn : 0 < n) (W : World) (B b bb : Nat) (v : Value) (f : Fl) (l : List UInt8) (h : FmtV W B b bb v f l) (hs : l.length + n ≤ 2147483647) :
    Calls Edvg.prog 30 #[.pointer (some ⟨b, 0, none⟩), .int .i64 n] W fun e W' => e = .returned (.tuple #[]) ∧ ∃ v', FmtV W' B b bb v' f (l ++ List.replicate n (padB f.ze)) ∧ Only bb v.ownBlock W W' ∧ (v'.ownBlock = v.ownBlock ∨ v'.ownBlock = some W.heap.size) := by
  have h0 := h.c0
  have hcv := h.cv
  have hmax := h.max
  obtain ⟨vb, vc, hv⟩ := h.shape
  subst hv
  have H : Hid (FmtV W B b bb (.slice vb l.length vc) f l) := h
  clear h
  have hvc : vc ≤ 9223372036854775807 := by
    rcases H.out.own.2 with ⟨h1, h2⟩ | ⟨g', cap, cur, h1, _, _, _, hcm, _⟩
    · injection h1 with _ _ h5; omega
    · injection h1 with _ _ h5; unfold maxLen at hcm; omega
  have hlv : l.length ≤ vc := by
    rcases H.out.own.2 with ⟨h1, h2⟩ | ⟨g', cap, cur, h1, _, _, hnc, hcm, _⟩
    · injection h1 with _ _ h5; omega
    · injection h1 with _ _ h5; omega
  obtain ⟨i, hi, hz, hsi, hby⟩ := info_parts info5
  go_enter Edvg.func30, Edvg.ntmps30
  go_upto_if 30 with fail
  go_cut [4] (fun s4 w => ∃ g len cap, s4 = .slice (some ⟨g, 0, none⟩) len cap ∧ l.length + n ≤ cap ∧ Row W w (.slice vb l.length vc) B g cap l)
  case first =>
    by_cases hroom : l.length + n ≤ vc
    · obtain ⟨g, hg, hR⟩ := row_room H.out n hn hroom
      go_wp2_with fail
      go_meet
      case rel => exact ⟨g, l.length, vc, by rw [hg], hroom, hR⟩
    · have hB : B ≤ W.heap.size := by have := H.out.bLt; have := H.out.hb; omega
      go_wp2_with (at_make; refine wpList_make_full _ rfl (.tmp 35) (.tmp 35) 49 rfl B 5 i (.int .u8 0) 1 Edvg.underlying49 hi hz hsi .i64 .i64 ((vc : Int) * 2 + n) ((vc : Int) * 2 + n) (vc * 2 + n) rfl rfl ?l1 ?l2 ?l3 ?l4 ?l5 ?_)
      case l1 => omega
      case l2 => omega
      case l3 => rw [hby]; omega
      case l4 => unfold maxLen; omega
      case l5 => exact hB
      intro w1 ho1 hg1
      have HF : Hid (FmtV w1 B b bb (.slice vb l.length vc) f l) := H.out.keep fun k hk => hg1.block k hk (by simp)
      have h0' := HF.out.c0
      have hcv' := HF.out.cv
      obtain ⟨L, hL⟩ : ∃ L, L = (madeCells #[Value.int .u8 0] (vc * 2 + n)).toList := ⟨_, rfl⟩
      have HL : Hid (L.length = vc * 2 + n) := by show L.length = _; rw [hL, Array.length_toList, size_madeCells]
      rw [← hL] at ho1
      have HH : Hid (w1.heap[W.heap.size]? = some (.cells L.toArray 5 (0, 0))) := made_heap ho1
      have HB : Hid (Below W.heap.size W w1) := ⟨hg1.os, hg1.tape, hg1.output, hg1.size, fun k hk => hg1.block k hk (by simp)⟩
      have HV : Hid (0 < (cellsOf l).length → ∃ ad, vb = some ad ∧ ∀ j v, (cellsOf l)[j]? = some v → w1.cell? (ad.add j) = some v) := src_of HF.out
      clear ho1 hg1 hL hcv h0 hmax
      obtain ⟨w2, hcp, HH2, HB2⟩ := copy_made (l := l) (vb := vb) (vc := vc) HH.out HL.out (by omega) HV.out HB.out
      clear HH HB HV
      go_wp2_with fail
      go_meet
      case rel =>
        have hl : (cellsOf l).length = l.length := cellsOf_length l
        refine ⟨W.heap.size, vc * 2 + n, vc * 2 + n, rfl, by omega, ⟨hB, ⟨_, HH2.out, ?_, ?_⟩, by omega, by unfold maxLen; omega, ⟨HB2.out.os, HB2.out.tape, HB2.out.output, HB2.out.size, fun k hk _ => HB2.out.block k hk⟩, Or.inr rfl⟩⟩
        · rw [List.size_toArray, length_splice _ _ _ (by rw [hl, HL.out]; omega), HL.out]
        · unfold splice
          simp only [List.take_zero, List.nil_append]
          rw [← hl]; exact List.take_left
  case rest =>
    obtain ⟨g, len, cap, hu4, hcap, hR⟩ := hcut
    have HR : Hid (Row W wc (.slice vb l.length vc) B g cap l) := hR
    have k0 : wc.cell? ⟨b, 0, none⟩ = some (.pointer (some ⟨bb, 0, none⟩)) := (HR.out.cellB H.out 0).trans h0
    have k7 : wc.cell? ⟨b, 7, none⟩ = some (.bool f.ze) := (HR.out.cellB H.out 7).trans H.out.c7
    have hcm : cap ≤ 9223372036854775807 := by have := hR.cm; unfold maxLen at this; omega
    clear hR hmax
    subst hu4
    obtain ⟨p, hp⟩ : ∃ p : UInt8, p = padB f.ze := ⟨_, rfl⟩
    have HP : Hid (p = padB f.ze) := hp
    obtain ⟨wo, rfl⟩ : ∃ wo : World, wo = wc := ⟨_, rfl⟩
    go_upto_if 49 with fail
    go_cut [7] (fun s7 w => s7 = .int .u8 (p.toNat : Int) ∧ wo = w)
    case first =>
      rcases hz7 : f.ze with _ | _
      · rw [hz7] at k7 hp
        have hpp : p = 32 := hp
        have HPP : Hid (p = 32) := hpp
        clear hp hz7 hpp
        go_wp2_with fail
        go_meet
        case rel => exact ⟨by rw [HPP.out]; rfl, rfl⟩
      · rw [hz7] at k7 hp
        have hpp : p = 48 := hp
        have HPP : Hid (p = 48) := hpp
        clear hp hz7 hpp
        go_wp2_with fail
        go_meet
        case rel => exact ⟨by rw [HPP.out]; rfl, rfl⟩
    case rest =>
      obtain ⟨h7, hw⟩ := hcut
      subst h7 hw
      clear k7 hp
      have HP8 : Hid ((p.toNat : Int) < 256) := by show (p.toNat : Int) < 256; have := p.toNat_lt; omega
      go_wp2_with fail
      go_loopw [56] (fun s56 w => ∃ i : Nat, s56 = .int .i64 i ∧ i ≤ n ∧ Row W w (.slice vb l.length vc) B g cap (l ++ List.replicate i p)) (fun s56 _ => n - (intOf s56).toNat)
      case atStart => exact ⟨0, rfl, by omega, by simpa using HR.out⟩
      case round =>
        obtain ⟨i, rfl, hin, hRi⟩ := hrel
        have HRi : Hid (Row W wr (.slice vb l.length vc) B g cap (l ++ List.replicate i p)) := hRi
        clear hRi
        have hlen : Hid ((l ++ List.replicate i p).length = l.length + i) := by show _ = _; simp
        by_cases hlt : i < n
        · obtain ⟨u, hu⟩ := HRi.out.has (l.length + i) (by omega)
          have hfu := HRi.out.unfrozen (l.length + i)
          go_wp2_with fail
          go_roundw
          case rel => exact ⟨i + 1, by go_num, by omega, row_step HRi.out hlen.out (by omega)⟩
          case measure => simp [intOf]; omega
        · obtain rfl : i = n := by omega
          have j0 : wr.cell? ⟨b, 0, none⟩ = some (.pointer (some ⟨bb, 0, none⟩)) := (HRi.out.cellB H.out 0).trans h0
          have jv := (HRi.out.cellBB H.out 0).trans hcv
          have jf := (HRi.out.frozenBB H.out 0).trans (H.out.fzb 0)
          clear k0 h0 hcv
          go_wp2_with fail
          go_region
          go_wp2_with fail
          go_end0
          refine ⟨rfl, ?_⟩
          rw [← HP.out]
          exact pad_end H.out HRi.out hlen.out
end Go.Proofs.YoedvwDoor
