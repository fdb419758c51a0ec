/- WriteString, Write, ZZout, ZZzero, walked. -/
import Derived.Test.YoedvwDoorBase
import Derived.Deep.QuietTactic
import Derived.BigQuiet
namespace Go.Proofs.YoedvwDoor
open Go.RowKit
set_option linter.unusedVariables false

theorem info5 : (Edvg.prog.info? 5).map (fun i => (i.zero, i.size, i.bytes)) = some (some (.int .u8 0), 1, 1) := by kernel_rfl

theorem FmtV.shape {W : World} {B b bb : Nat} {v : Value} {f : Fl} {l : List UInt8} (h : FmtV W B b bb v f l) : ∃ vb vc, v = .slice vb l.length vc := by
  rcases h.own.2 with ⟨rfl, h2⟩ | ⟨g', cap, cur, rfl, _⟩
  · exact ⟨none, 0, by rw [h2]⟩
  · exact ⟨_, _, rfl⟩

theorem owns_shape {W : World} {B : Nat} {e : TypeId} {v : Value} {n : Nat} {xs : List Value} (h : W.ownsRow B e 1 v n xs) : ∃ vb vn vc, v = .slice vb vn vc := by
  rcases h.2 with ⟨rfl, h2⟩ | ⟨g', cap, cur, rfl, _⟩
  · exact ⟨_, _, _, rfl⟩
  · exact ⟨_, _, _, rfl⟩

/-- The end of both writers: the new slice is stored. -/
theorem wrote {W W' : World} {n B b bb : Nat} {v v' : Value} {f : Fl} {l t : List UInt8} (h : FmtV W B b bb v f l) (ho : W'.ownsRow B 5 1 v' (l.length + t.length) (cellsOf l ++ cellsOf t)) (hg : (W.drewN n).grownBy W' v.ownBlock)
    (hr : v'.ownBlock = v.ownBlock ∨ v'.ownBlock = some W.heap.size) :
    ∃ u, FmtV (W'.setCell ⟨bb, 0, none⟩ v') B b bb u f (l ++ t) ∧ Only bb v.ownBlock W (W'.setCell ⟨bb, 0, none⟩ v') ∧ (u.ownBlock = v.ownBlock ∨ u.ownBlock = some W.heap.size) :=
  ⟨v', (h.drewN n).put hg (by rw [List.length_append, cellsOf_append]; exact ho), (Only.ofGrown hg).fromDrewN.setB v', hr⟩

set_option maxHeartbeats 400000 in
theorem writeString (s : ByteArray) (W : World) (B b bb : Nat) (v : Value) (f : Fl) (l : List UInt8) (h : FmtV W B b bb v f l) (hs : l.length + s.size ≤ 2147483647) :
    Calls Edvg.prog 31 #[.pointer (some ⟨bb, 0, none⟩), .string s] W fun e W' => e = .returned (.tuple #[]) ∧ ∃ v', FmtV W' B b bb v' f (l ++ s.data.toList) ∧ Only bb v.ownBlock W W' ∧ (v'.ownBlock = v.ownBlock ∨ v'.ownBlock = some W.heap.size) := by
  have hcv := h.cv
  have hfz := h.fzb 0
  have hmax := h.max
  obtain ⟨vb, vc, hv⟩ := h.shape
  subst hv
  have H : Hid (FmtV W B b bb (.slice vb l.length vc) f l) := h
  clear h
  obtain ⟨i, hi, hz, hsi, hby⟩ := info_parts info5
  go_enter Edvg.func31, Edvg.ntmps31
  go_wp2_with fail
  go_quiet (fail)
  go_wp2_with (at_builtin; refine wpList_append_own_src _ rfl (.tmp 17) (.tmp 18) 49 9 rfl B 5 i (.int .u8 0) Edvg.underlying49 hi hz hsi hby rfl (.slice vb l.length vc) l.length (cellsOf l) rfl ?own (.string s) s.size (byteCells s) rfl ?src ?b1 ?b2 ?b3 ?_)
  case own => exact (H.out.drewN nq).own
  case src => rw [hsi]; exact Src.ofString _ Edvg.underlying9 s
  case b1 => unfold maxLen; omega
  case b2 => omega
  case b3 => have := H.out.bLt; have := H.out.hb; show B ≤ W.heap.size; omega
  intro v' w' ho hg hr
  obtain ⟨vb', vn', vc', hv'⟩ := owns_shape ho
  have hcv' : w'.cell? ⟨bb, 0, none⟩ = some (.slice vb l.length vc) := by
    rw [World.cell?_of_block (w := W) (a := ⟨bb, 0, none⟩) (hg.block bb (H.out.bbLt) (fun e => (H.out.row bb e.symm).2.2.2 rfl))]; exact hcv
  have hfz' : w'.frozen? ⟨bb, 0, none⟩ = false := by
    rw [World.frozen?_of_block (w := W) (a := ⟨bb, 0, none⟩) (hg.block bb (H.out.bbLt) (fun e => (H.out.row bb e.symm).2.2.2 rfl))]; exact hfz
  have HO : Hid (w'.ownsRow B 5 1 v' (l.length + s.size) (cellsOf l ++ byteCells s)) := ho
  have HG : Hid ((W.drewN nq).grownBy w' (Value.slice vb l.length vc).ownBlock) := hg
  have HR : Hid (v'.ownBlock = (Value.slice vb l.length vc).ownBlock ∨ v'.ownBlock = some W.heap.size) := hr
  clear ho hg hr hcv hfz hmax
  rw [hv']
  rw [hv'] at HO HR
  clear hv'
  go_wp2_with fail
  go_end0
  refine ⟨rfl, wrote (t := s.data.toList) H.out ?_ HG.out HR.out⟩
  have := HO.out
  rw [Array.length_toList]
  exact this
theorem cellsOf_one (t : List UInt8) : ∀ u ∈ cellsOf t, u.oneCell' = true := by
  intro u hu
  obtain ⟨_, _, rfl⟩ := List.mem_map.1 hu
  rfl

set_option maxHeartbeats 400000 in
theorem write (t : List UInt8) (g o c : Nat) (W : World) (B b bb : Nat) (v : Value) (f : Fl) (l : List UInt8) (h : FmtV W B b bb v f l) (hs : l.length + t.length ≤ 2147483647) (hc : ∀ j u, (cellsOf t)[j]? = some u → W.cell? ⟨g, o + j, none⟩ = some u) :
    Calls Edvg.prog 36 #[.pointer (some ⟨bb, 0, none⟩), .slice (some ⟨g, o, none⟩) t.length c] W fun e W' => e = .returned (.tuple #[]) ∧ ∃ v', FmtV W' B b bb v' f (l ++ t) ∧ Only bb v.ownBlock W W' ∧ (v'.ownBlock = v.ownBlock ∨ v'.ownBlock = some W.heap.size) := by
  have hcv := h.cv
  have hfz := h.fzb 0
  have hmax := h.max
  obtain ⟨vb, vc, hv⟩ := h.shape
  subst hv
  have H : Hid (FmtV W B b bb (.slice vb l.length vc) f l) := h
  have HC : Hid (∀ j u, (cellsOf t)[j]? = some u → W.cell? ⟨g, o + j, none⟩ = some u) := hc
  clear h hc
  obtain ⟨i, hi, hz, hsi, hby⟩ := info_parts info5
  go_enter Edvg.func36, Edvg.ntmps36
  go_wp2_with fail
  go_quiet (fail)
  go_wp2_with (at_builtin; refine wpList_append_own_src _ rfl (.tmp 17) (.tmp 18) 49 48 rfl B 5 i (.int .u8 0) Edvg.underlying49 hi hz hsi hby rfl (.slice vb l.length vc) l.length (cellsOf l) rfl ?own (.slice (some ⟨g, o, none⟩) t.length c) t.length (cellsOf t) rfl ?src ?b1 ?b2 ?b3 ?_)
  case own => exact (H.out.drewN nq).own
  case src => rw [hsi]; exact Src.ofSlice _ Edvg.underlying48 _ _ _ _ (by rw [cellsOf_length, Nat.mul_one]) (by simpa [Addr.add_lit] using HC.out) (cellsOf_one t)
  case b1 => unfold maxLen; omega
  case b2 => omega
  case b3 => have := H.out.bLt; have := H.out.hb; show B ≤ W.heap.size; omega
  intro v' w' ho hg hr
  obtain ⟨vb', vn', vc', hv'⟩ := owns_shape ho
  have hcv' : w'.cell? ⟨bb, 0, none⟩ = some (.slice vb l.length vc) := by
    rw [World.cell?_of_block (w := W) (a := ⟨bb, 0, none⟩) (hg.block bb (H.out.bbLt) (fun e => (H.out.row bb e.symm).2.2.2 rfl))]; exact hcv
  have hfz' : w'.frozen? ⟨bb, 0, none⟩ = false := by
    rw [World.frozen?_of_block (w := W) (a := ⟨bb, 0, none⟩) (hg.block bb (H.out.bbLt) (fun e => (H.out.row bb e.symm).2.2.2 rfl))]; exact hfz
  have HO : Hid (w'.ownsRow B 5 1 v' (l.length + t.length) (cellsOf l ++ cellsOf t)) := ho
  have HG : Hid ((W.drewN nq).grownBy w' (Value.slice vb l.length vc).ownBlock) := hg
  have HR : Hid (v'.ownBlock = (Value.slice vb l.length vc).ownBlock ∨ v'.ownBlock = some W.heap.size) := hr
  clear ho hg hr hcv hfz hmax
  rw [hv']
  rw [hv'] at HO HR
  clear hv'
  go_wp2_with fail
  go_end0
  refine ⟨rfl, wrote (t := t) H.out ?_ HG.out HR.out⟩
  exact HO.out

set_option maxHeartbeats 400000 in
theorem zzZero (W : World) (B b bb : Nat) (v : Value) (f : Fl) (l : List UInt8) (h : FmtV W B b bb v f l) :
    Calls Edvg.prog 12 #[.pointer (some ⟨b, 0, none⟩)] W fun e W' => e = .returned (.bool f.ze) ∧ W = W' := by
  have h7 := h.c7
  clear h
  go_enter Edvg.func12, Edvg.ntmps12
  go_wp2
  go_ret
  exact ⟨rfl, rfl⟩

theorem cellsOf_get (l : List UInt8) (j : Nat) (hj : j < l.length) : (cellsOf l)[j]? = some (.int .u8 (l[j].toNat : Int)) := by
  unfold cellsOf; rw [List.getElem?_map, List.getElem?_eq_getElem hj]; rfl
/-- 'string(b)' of a row of the call's own. -/
theorem conv_row {W : World} {B t : Nat} {vb : Option Addr} {vc : Nat} {l : List UInt8} (ht : Edvg.prog.underlying t = some (.slice 5)) (h : W.ownsRow B 5 1 (.slice vb l.length vc) l.length (cellsOf l)) :
    (convert t 9 (.slice vb l.length vc)).run Edvg.prog W = .ok (.string ⟨l.toArray⟩) W := by
  rcases h.2 with ⟨h1, h2⟩ | ⟨g', cap, cur, h1, r⟩
  · injection h1 with h3 h4 h5
    have hl : l = [] := List.eq_nil_of_length_eq_zero h2
    subst h3 h5 hl
    exact run_convert_bytes_nil W t 5 ht Edvg.underlying5 _ _ 9 Edvg.underlying9
  · injection h1 with h3 h4 h5
    subst h3 h5
    exact run_convert_bytes_back W t 9 5 ⟨g', 0, none⟩ vc l ht Edvg.underlying5 Edvg.underlying9 (fun j hj => h.cells (g := g') rfl j _ (cellsOf_get l j hj))

set_option maxHeartbeats 400000 in
theorem zzOut (W : World) (B b bb : Nat) (v : Value) (f : Fl) (l : List UInt8) (h : FmtV W B b bb v f l) :
    Calls Edvg.prog 10 #[.pointer (some ⟨b, 0, none⟩)] W fun e W' => e = .returned (.string ⟨l.toArray⟩) ∧ W = W' := by
  have h0 := h.c0
  have hv := h.cv
  obtain ⟨vb, vc, hs⟩ := h.shape
  subst hs
  have H : Hid (FmtV W B b bb (.slice vb l.length vc) f l) := h
  clear h
  have hcv := conv_row Edvg.underlying49 H.out.own
  go_enter Edvg.func10, Edvg.ntmps10
  go_wp2
  go_ret
  exact ⟨rfl, rfl⟩
end Go.Proofs.YoedvwDoor
