/- THE SCRATCH into which fmtInteger writes its digits from the right: the formatter's own 68 bytes, or a new array. No walk in this text. -/
import Derived.Test.YoedvwDoorWr
namespace Go.Proofs.YoedvwDoor
open Go.RowKit
set_option linter.unusedVariables false

/-- Where the scratch lies: in the formatter's block, cells 15 to 82; or in a block of its own. -/
def Place (w : World) (B b bb : Nat) (v : Value) (g off L : Nat) : Prop :=
  (g = b ∧ off = 15 ∧ L = 68) ∨ (B ≤ g ∧ g ≠ b ∧ g ≠ bb ∧ v.ownBlock ≠ some g ∧ off = 0 ∧ ∃ cur : Array Value, w.heap[g]? = some (.cells cur 5 (0, 0)) ∧ cur.size = L)

/-- The formatter, and the scratch's last bytes t. -/
structure Scr (w : World) (B b bb : Nat) (v : Value) (f : Fl) (l : List UInt8) (g off L : Nat) (t : List UInt8) : Prop where
  fm : FmtV w B b bb v f l
  pl : Place w B b bb v g off L
  le : t.length ≤ L
  tl : ∀ j (h : j < t.length), w.cell? ⟨g, off + (L - t.length + j), none⟩ = some (.int .u8 (t[j].toNat : Int))

section
variable {w : World} {B b bb : Nat} {v : Value} {f : Fl} {l : List UInt8} {g off L : Nat} {t : List UInt8}

theorem Scr.gB (h : Scr w B b bb v f l g off L t) : B ≤ g := by
  rcases h.pl with ⟨rfl, _⟩ | ⟨hb, _⟩
  · exact h.fm.hb
  · exact hb
theorem Scr.blk (h : Scr w B b bb v f l g off L t) : ∃ cur e, w.heap[g]? = some (.cells cur e (0, 0)) ∧ off + L ≤ cur.size := by
  rcases h.pl with ⟨rfl, rfl, rfl⟩ | ⟨hb, _, _, _, rfl, cur, hc, hs⟩
  · obtain ⟨c, hc, k⟩ := h.fm.fm
    exact ⟨c, _, hc, by rw [k.sz]; omega⟩
  · exact ⟨cur, _, hc, by omega⟩
theorem Scr.has (h : Scr w B b bb v f l g off L t) (j : Nat) (hj : j < L) : ∃ u, w.cell? ⟨g, off + j, none⟩ = some u := by
  obtain ⟨cur, e, hc, hs⟩ := h.blk
  exact ⟨cur[off + j]'(by omega), by rw [cell_of_heap hc, Array.getElem?_eq_getElem (by omega)]⟩
theorem Scr.unfrozen (h : Scr w B b bb v f l g off L t) (j : Nat) : w.frozen? ⟨g, j, none⟩ = false := by
  obtain ⟨cur, e, hc, hs⟩ := h.blk
  exact frozen_of_heap hc j

theorem setCell_self {k : Nat} {c : Array Value} {e : TypeId} (h : w.heap[k]? = some (.cells c e (0, 0))) (j : Nat) (u : Value) : (w.setCell ⟨k, j, none⟩ u).heap[k]? = some (.cells (c.setIfInBounds j u) e (0, 0)) := by
  simp [World.setCell, Array.getElem?_modify, h]

/-- A byte of the formatter's own scratch is written: the formatter is as it was. -/
theorem FmtV.setScr (h : FmtV w B b bb v f l) (j : Nat) (hj : 15 ≤ j) (n : Int) : FmtV (w.setCell ⟨b, j, none⟩ (.int .u8 n)) B b bb v f l := by
  obtain ⟨c, hc, k⟩ := h.fm
  have hne : ∀ i, i ≠ b → (w.setCell ⟨b, j, none⟩ (.int .u8 n)).heap[i]? = w.heap[i]? := fun i hi => Below.heap_setCell _ _ _ _ hi
  refine ⟨h.big, ?_, h.hb, h.hbb, ⟨c.setIfInBounds j (.int .u8 n), setCell_self hc j _, ?_⟩, ?_, h.own.1, ?_⟩
  · rw [World.cell?_of_block (w := w) (a := ⟨4, 0, none⟩) (hne 4 (by have := h.hb; have := h.big; omega))]; exact h.max
  · refine ⟨by simpa using k.sz, ?_, ?_, ?_, ?_, ?_, ?_, ?_, ?_, ?_, ?_, ?_⟩
    · rw [Array.getElem?_setIfInBounds_ne (by omega)]; exact k.c0
    · rw [Array.getElem?_setIfInBounds_ne (by omega)]; exact k.c1
    · rw [Array.getElem?_setIfInBounds_ne (by omega)]; exact k.c2
    · rw [Array.getElem?_setIfInBounds_ne (by omega)]; exact k.c3
    · rw [Array.getElem?_setIfInBounds_ne (by omega)]; exact k.c4
    · rw [Array.getElem?_setIfInBounds_ne (by omega)]; exact k.c5
    · rw [Array.getElem?_setIfInBounds_ne (by omega)]; exact k.c6
    · rw [Array.getElem?_setIfInBounds_ne (by omega)]; exact k.c7
    · rw [Array.getElem?_setIfInBounds_ne (by omega)]; exact k.c13
    · rw [Array.getElem?_setIfInBounds_ne (by omega)]; exact k.c14
    · intro i h1 h2
      by_cases hi : i = j
      · subst hi
        exact ⟨n, by rw [Array.getElem?_setIfInBounds_self_of_lt (by rw [k.sz]; exact h2)]⟩
      · rw [Array.getElem?_setIfInBounds_ne (by omega)]; exact k.cb i h1 h2
  · rw [hne bb (fun e => h.ne e.symm)]; exact h.bf
  · rcases h.own.2 with hx | ⟨g', cap, cur, rfl, hbg, hh, r⟩
    · exact Or.inl hx
    · exact Or.inr ⟨g', cap, cur, rfl, hbg, by rw [hne g' (h.row g' rfl).2.2.1]; exact hh, r⟩

/-- The flag 'zero' is written. -/
theorem FmtV.setZe (h : FmtV w B b bb v f l) (z : Bool) : FmtV (w.setCell ⟨b, 7, none⟩ (.bool z)) B b bb v { f with ze := z } l := by
  obtain ⟨c, hc, k⟩ := h.fm
  have hne : ∀ i, i ≠ b → (w.setCell ⟨b, 7, none⟩ (.bool z)).heap[i]? = w.heap[i]? := fun i hi => Below.heap_setCell _ _ _ _ hi
  refine ⟨h.big, ?_, h.hb, h.hbb, ⟨c.setIfInBounds 7 (.bool z), setCell_self hc 7 _, ?_⟩, ?_, h.own.1, ?_⟩
  · rw [World.cell?_of_block (w := w) (a := ⟨4, 0, none⟩) (hne 4 (by have := h.hb; have := h.big; omega))]; exact h.max
  · refine ⟨by simpa using k.sz, ?_, ?_, ?_, ?_, ?_, ?_, ?_, ?_, ?_, ?_, ?_⟩
    · rw [Array.getElem?_setIfInBounds_ne (by omega)]; exact k.c0
    · rw [Array.getElem?_setIfInBounds_ne (by omega)]; exact k.c1
    · rw [Array.getElem?_setIfInBounds_ne (by omega)]; exact k.c2
    · rw [Array.getElem?_setIfInBounds_ne (by omega)]; exact k.c3
    · rw [Array.getElem?_setIfInBounds_ne (by omega)]; exact k.c4
    · rw [Array.getElem?_setIfInBounds_ne (by omega)]; exact k.c5
    · rw [Array.getElem?_setIfInBounds_ne (by omega)]; exact k.c6
    · rw [Array.getElem?_setIfInBounds_self_of_lt (by rw [k.sz]; omega)]
    · rw [Array.getElem?_setIfInBounds_ne (by omega)]; exact k.c13
    · rw [Array.getElem?_setIfInBounds_ne (by omega)]; exact k.c14
    · intro i h1 h2
      rw [Array.getElem?_setIfInBounds_ne (by omega)]; exact k.cb i h1 h2
  · rw [hne bb (fun e => h.ne e.symm)]; exact h.bf
  · rcases h.own.2 with hx | ⟨g', cap, cur, rfl, hbg, hh, r⟩
    · exact Or.inl hx
    · exact Or.inr ⟨g', cap, cur, rfl, hbg, by rw [hne g' (h.row g' rfl).2.2.1]; exact hh, r⟩

/-- A store into a block of its own leaves the formatter alone. -/
theorem FmtV.setOther (h : FmtV w B b bb v f l) (a : Addr) (u : Value) (h1 : B ≤ a.block) (h2 : a.block ≠ b) (h3 : a.block ≠ bb) (h4 : v.ownBlock ≠ some a.block) : FmtV (w.setCell a u) B b bb v f l := by
  obtain ⟨c, hc, k⟩ := h.fm
  have hne : ∀ i, i ≠ a.block → (w.setCell a u).heap[i]? = w.heap[i]? := fun i hi => Below.heap_setCell _ _ _ _ hi
  refine ⟨h.big, ?_, h.hb, h.hbb, ⟨c, ?_, k⟩, ?_, h.own.1, ?_⟩
  · rw [World.cell?_of_block (w := w) (a := ⟨4, 0, none⟩) (hne 4 (by have := h.big; omega))]; exact h.max
  · rw [hne b (fun e => h2 e.symm)]; exact hc
  · rw [hne bb (fun e => h3 e.symm)]; exact h.bf
  · rcases h.own.2 with hx | ⟨g', cap, cur, rfl, hbg, hh, r⟩
    · exact Or.inl hx
    · exact Or.inr ⟨g', cap, cur, rfl, hbg, by rw [hne g' (fun e => h4 (by simp [Value.ownBlock, e]))]; exact hh, r⟩

/-- One byte more, ahead of the tail. -/
theorem Scr.store (h : Scr w B b bb v f l g off L t) (i : Nat) (hi : i + 1 + t.length = L) (c : UInt8) (q : Int) (hq : q = (c.toNat : Int)) : Scr (w.setCell ⟨g, off + i, none⟩ (.int .u8 q)) B b bb v f l g off L (c :: t) := by
  obtain ⟨cur, e, hc, hs⟩ := h.blk
  have hcell : ∀ j, (w.setCell ⟨g, off + i, none⟩ (.int .u8 q)).cell? ⟨g, off + j, none⟩ = if j = i then some (.int .u8 q) else w.cell? ⟨g, off + j, none⟩ := by
    intro j
    rw [cell_of_heap (setCell_self hc (off + i) _), cell_of_heap hc]
    by_cases hj : j = i
    · subst hj; rw [if_pos rfl, Array.getElem?_setIfInBounds_self_of_lt (by omega)]
    · rw [if_neg hj, Array.getElem?_setIfInBounds_ne (by omega)]
  refine ⟨?_, ?_, by simp; omega, ?_⟩
  · rcases h.pl with ⟨rfl, rfl, rfl⟩ | ⟨hb, h1, h2, h3, rfl, _⟩
    · exact h.fm.setScr _ (by omega) _
    · exact h.fm.setOther _ _ hb h1 h2 h3
  · rcases h.pl with ⟨rfl, rfl, rfl⟩ | ⟨hb, h1, h2, h3, rfl, cur', hc', hs'⟩
    · exact Or.inl ⟨rfl, rfl, rfl⟩
    · exact Or.inr ⟨hb, h1, h2, h3, rfl, _, setCell_self hc' _ _, by simpa using hs'⟩
  · intro j hj
    rw [List.length_cons] at hj ⊢
    rw [hcell]
    rcases j with _ | j
    · rw [if_pos (by omega), hq]; rfl
    · rw [if_neg (by omega)]
      have := h.tl j (by omega)
      have e1 : L - (t.length + 1) + (j + 1) = L - t.length + j := by omega
      rw [e1]; exact this
theorem Scr.storeBelow (h : Scr w B b bb v f l g off L t) (i : Nat) (u : Value) {W : World} (hb : Below B W w) : Below B W (w.setCell ⟨g, off + i, none⟩ u) := hb.setCell h.gB u

theorem Scr.drewN (h : Scr w B b bb v f l g off L t) (n : Nat) : Scr (w.drewN n) B b bb v f l g off L t := ⟨h.fm.drewN n, h.pl, h.le, h.tl⟩
/-- The scratch survives what turns only the buffer. -/
theorem Scr.only {w' : World} {v' : Value} {l' : List UInt8} (h : Scr w B b bb v f l g off L t) (hf : FmtV w' B b bb v' f l') (ho : Only bb v.ownBlock w w') (hv : v'.ownBlock = v.ownBlock ∨ v'.ownBlock = some w.heap.size) : Scr w' B b bb v' f l' g off L t := by
  obtain ⟨cur, e, hc, hs⟩ := h.blk
  have hg : w'.heap[g]? = w.heap[g]? := by
    refine ho.block g (lt_of_heap hc) ?_ ?_
    · rcases h.pl with ⟨rfl, _⟩ | ⟨_, _, h2, _⟩
      · exact h.fm.ne
      · exact h2
    · rcases h.pl with ⟨rfl, _⟩ | ⟨_, _, _, h3, _⟩
      · exact fun e => (h.fm.row g e.symm).2.2.1 rfl
      · exact fun e => h3 e.symm
  refine ⟨hf, ?_, h.le, fun j hj => ?_⟩
  · rcases h.pl with hx | ⟨hb, h1, h2, h3, h4, cur', hc', hs'⟩
    · exact Or.inl hx
    · refine Or.inr ⟨hb, h1, h2, ?_, h4, cur', by rw [hg]; exact hc', hs'⟩
      rcases hv with e | e
      · rw [e]; exact h3
      · rw [e]; intro e2; have := lt_of_heap hc; injection e2 with e3; omega
  · rw [World.cell?_of_block (w := w) (a := ⟨g, off + (L - t.length + j), none⟩) hg]; exact h.tl j hj
/-- The tail's cells, as a source that is written out. -/
theorem Scr.src (h : Scr w B b bb v f l g off L t) (i : Nat) (hi : i + t.length = L) : ∀ j u, (cellsOf t)[j]? = some u → w.cell? ⟨g, off + i + j, none⟩ = some u := by
  intro j u hu
  have hj : j < t.length := by
    have := (List.getElem?_eq_some_iff.1 hu).1
    rwa [cellsOf_length] at this
  rw [cellsOf_get t j hj] at hu
  have := h.tl j hj
  have e1 : off + i + j = off + (L - t.length + j) := by omega
  rw [e1, this]; exact hu
end
end Go.Proofs.YoedvwDoor
