/- THE PLAIN GROUND UNDER THE FORMATTER's WALKS: where its cells lie, what its buffer holds, and what a call may turn. No walk in this text. -/
import Derived.Test.YoedvwDoorRows
import Derived.WalkKit
import Derived.WalkSpells
import Derived.WalkLawsBesides
import Derived.Deep.AppendSrc
namespace Go.Proofs.YoedvwDoor
open Go.RowKit
set_option linter.unusedVariables false

/-- A formatter's flags and numbers. -/
structure Fl where
  wp : Bool
  wid : Int
  pp : Bool
  prec : Int
  mi : Bool
  pl : Bool
  sh : Bool
  sp : Bool
  ze : Bool

/-- Bytes, as cells. -/
def cellsOf (l : List UInt8) : List Value := l.map fun b => .int .u8 b.toNat
theorem cellsOf_length (l : List UInt8) : (cellsOf l).length = l.length := by simp [cellsOf]
theorem cellsOf_append (l m : List UInt8) : cellsOf (l ++ m) = cellsOf l ++ cellsOf m := by simp [cellsOf]

/-- The formatter's 83 cells. -/
structure FmtC (c : Array Value) (bb : Nat) (f : Fl) : Prop where
  sz : c.size = 83
  c0 : c[0]? = some (.pointer (some ⟨bb, 0, none⟩))
  c1 : c[1]? = some (.bool f.wp)
  c2 : c[2]? = some (.bool f.pp)
  c3 : c[3]? = some (.bool f.mi)
  c4 : c[4]? = some (.bool f.pl)
  c5 : c[5]? = some (.bool f.sh)
  c6 : c[6]? = some (.bool f.sp)
  c7 : c[7]? = some (.bool f.ze)
  c13 : c[13]? = some (.int .i64 f.wid)
  c14 : c[14]? = some (.int .i64 f.prec)
  cb : ∀ j, 15 ≤ j → j < 83 → ∃ n : Int, c[j]? = some (.int .u8 n)

/-- The formatter in block b, its buffer's variable in block bb, the buffer's slice v, its bytes l; all of them lie from block B on. -/
structure FmtV (W : World) (B b bb : Nat) (v : Value) (f : Fl) (l : List UInt8) : Prop where
  big : 5 < B
  max : W.cell? ⟨4, 0, none⟩ = some (.int .i64 2147483647)
  hb : B ≤ b
  hbb : B ≤ bb
  fm : ∃ c, W.heap[b]? = some (.cells c 46 (0, 0)) ∧ FmtC c bb f
  bf : W.heap[bb]? = some (.cells #[v] 49 (0, 0))
  own : W.ownsRow B 5 1 v l.length (cellsOf l)

/-- Only block bb, the row's block and new blocks may have turned. -/
structure Only (bb : Nat) (row : Option Nat) (w w' : World) : Prop where
  os : w'.os = w.os
  tape : w'.tape = w.tape
  output : w'.output = w.output
  size : w.heap.size ≤ w'.heap.size
  block : ∀ k, k < w.heap.size → k ≠ bb → some k ≠ row → w'.heap[k]? = w.heap[k]?

theorem Only.refl (bb : Nat) (row : Option Nat) (w : World) : Only bb row w w := ⟨rfl, rfl, rfl, Nat.le_refl _, fun _ _ _ _ => rfl⟩
theorem Only.ofGrown {bb : Nat} {row : Option Nat} {w w' : World} (h : w.grownBy w' row) : Only bb row w w' := ⟨h.os, h.tape, h.output, h.size, fun k hk _ hr => h.block k hk hr⟩
theorem Only.setB {bb : Nat} {row : Option Nat} {w w' : World} (h : Only bb row w w') (u : Value) : Only bb row w (w'.setCell ⟨bb, 0, none⟩ u) :=
  ⟨h.os, h.tape, h.output, by have := h.size; simp [World.setCell]; exact this, fun k hk hb hr => (Below.heap_setCell _ _ _ _ hb).trans (h.block k hk hb hr)⟩
theorem Only.drew {bb : Nat} {row : Option Nat} {w w' : World} (h : Only bb row w w') : Only bb row w w'.drew := ⟨h.os, h.tape, h.output, h.size, h.block⟩
theorem Only.fromDrewN {bb n : Nat} {row : Option Nat} {w w' : World} (h : Only bb row (w.drewN n) w') : Only bb row w w' := ⟨h.os, h.tape, h.output, h.size, h.block⟩
theorem Only.fromDrew {bb : Nat} {row : Option Nat} {w w' : World} (h : Only bb row w.drew w') : Only bb row w w' := ⟨h.os, h.tape, h.output, h.size, h.block⟩
/-- Two steps: the second may turn the row that the first left, which is the same or new. -/
theorem Only.trans {bb : Nat} {r1 r2 : Option Nat} {a b c : World} (h : Only bb r1 a b) (k : Only bb r2 b c) (hr : r2 = r1 ∨ ∀ j, r2 = some j → a.heap.size ≤ j) : Only bb r1 a c :=
  ⟨k.os.trans h.os, k.tape.trans h.tape, k.output.trans h.output, Nat.le_trans h.size k.size, fun j hj hb hne => by
    refine (k.block j (Nat.lt_of_lt_of_le hj h.size) hb (fun e => ?_)).trans (h.block j hj hb hne)
    rcases hr with rfl | hr
    · exact hne e
    · have := hr j e.symm; omega⟩
theorem Only.below {bb : Nat} {row : Option Nat} {w w' : World} (h : Only bb row w w') {B : Nat} (hb : B ≤ bb) (hB : B ≤ w.heap.size) (hr : ∀ j, row = some j → B ≤ j) : Below B w w' :=
  ⟨h.os, h.tape, h.output, h.size, fun k hk => h.block k (by omega) (by omega) (fun e => by have := hr k e.symm; omega)⟩

section
variable {W : World} {B b bb : Nat} {v : Value} {f : Fl} {l : List UInt8}

theorem lt_of_heap {o : Obj} {k : Nat} (h : W.heap[k]? = some o) : k < W.heap.size := by
  have := Array.getElem?_eq_some_iff.1 h; exact this.1
theorem cell_of_heap {c : Array Value} {e : TypeId} {fz : Nat × Nat} {k : Nat} (h : W.heap[k]? = some (.cells c e fz)) (j : Nat) : W.cell? ⟨k, j, none⟩ = c[j]? := by simp [World.cell?, h]
theorem frozen_of_heap {c : Array Value} {e : TypeId} {k : Nat} (h : W.heap[k]? = some (.cells c e (0, 0))) (j : Nat) : W.frozen? ⟨k, j, none⟩ = false := by simp [World.frozen?, h]

theorem FmtV.ne (h : FmtV W B b bb v f l) : b ≠ bb := by
  obtain ⟨c, hc, _⟩ := h.fm
  intro e; have := h.bf; rw [← e, hc] at this; simp at this
/-- The row's block is neither the formatter's nor the buffer's variable's. -/
theorem FmtV.row (h : FmtV W B b bb v f l) : ∀ g, v.ownBlock = some g → B ≤ g ∧ g < W.heap.size ∧ g ≠ b ∧ g ≠ bb := by
  intro g hg
  obtain ⟨h1, h2⟩ := h.own.lt g hg
  refine ⟨h1, h2, ?_, ?_⟩
  · obtain ⟨c, hc, _⟩ := h.fm
    rintro rfl
    rcases h.own.2 with ⟨rfl, _⟩ | ⟨g', cap, cur, rfl, _, hh, _⟩
    · simp [Value.ownBlock] at hg
    · simp [Value.ownBlock] at hg; subst hg; rw [hc] at hh; simp at hh
  · rintro rfl
    rcases h.own.2 with ⟨rfl, _⟩ | ⟨g', cap, cur, rfl, _, hh, _⟩
    · simp [Value.ownBlock] at hg
    · simp [Value.ownBlock] at hg; subst hg; rw [h.bf] at hh; simp at hh
theorem FmtV.bLt (h : FmtV W B b bb v f l) : b < W.heap.size := by obtain ⟨c, hc, _⟩ := h.fm; exact lt_of_heap hc
theorem FmtV.bbLt (h : FmtV W B b bb v f l) : bb < W.heap.size := lt_of_heap h.bf
theorem FmtV.c0 (h : FmtV W B b bb v f l) : W.cell? ⟨b, 0, none⟩ = some (.pointer (some ⟨bb, 0, none⟩)) := by obtain ⟨c, hc, k⟩ := h.fm; rw [cell_of_heap hc]; exact k.c0
theorem FmtV.c1 (h : FmtV W B b bb v f l) : W.cell? ⟨b, 1, none⟩ = some (.bool f.wp) := by obtain ⟨c, hc, k⟩ := h.fm; rw [cell_of_heap hc]; exact k.c1
theorem FmtV.c2 (h : FmtV W B b bb v f l) : W.cell? ⟨b, 2, none⟩ = some (.bool f.pp) := by obtain ⟨c, hc, k⟩ := h.fm; rw [cell_of_heap hc]; exact k.c2
theorem FmtV.c3 (h : FmtV W B b bb v f l) : W.cell? ⟨b, 3, none⟩ = some (.bool f.mi) := by obtain ⟨c, hc, k⟩ := h.fm; rw [cell_of_heap hc]; exact k.c3
theorem FmtV.c4 (h : FmtV W B b bb v f l) : W.cell? ⟨b, 4, none⟩ = some (.bool f.pl) := by obtain ⟨c, hc, k⟩ := h.fm; rw [cell_of_heap hc]; exact k.c4
theorem FmtV.c5 (h : FmtV W B b bb v f l) : W.cell? ⟨b, 5, none⟩ = some (.bool f.sh) := by obtain ⟨c, hc, k⟩ := h.fm; rw [cell_of_heap hc]; exact k.c5
theorem FmtV.c6 (h : FmtV W B b bb v f l) : W.cell? ⟨b, 6, none⟩ = some (.bool f.sp) := by obtain ⟨c, hc, k⟩ := h.fm; rw [cell_of_heap hc]; exact k.c6
theorem FmtV.c7 (h : FmtV W B b bb v f l) : W.cell? ⟨b, 7, none⟩ = some (.bool f.ze) := by obtain ⟨c, hc, k⟩ := h.fm; rw [cell_of_heap hc]; exact k.c7
theorem FmtV.c13 (h : FmtV W B b bb v f l) : W.cell? ⟨b, 13, none⟩ = some (.int .i64 f.wid) := by obtain ⟨c, hc, k⟩ := h.fm; rw [cell_of_heap hc]; exact k.c13
theorem FmtV.c14 (h : FmtV W B b bb v f l) : W.cell? ⟨b, 14, none⟩ = some (.int .i64 f.prec) := by obtain ⟨c, hc, k⟩ := h.fm; rw [cell_of_heap hc]; exact k.c14
theorem FmtV.fz (h : FmtV W B b bb v f l) (j : Nat) : W.frozen? ⟨b, j, none⟩ = false := by obtain ⟨c, hc, k⟩ := h.fm; exact frozen_of_heap hc j
theorem FmtV.cv (h : FmtV W B b bb v f l) : W.cell? ⟨bb, 0, none⟩ = some v := by rw [cell_of_heap h.bf]; rfl
theorem FmtV.fzb (h : FmtV W B b bb v f l) (j : Nat) : W.frozen? ⟨bb, j, none⟩ = false := frozen_of_heap h.bf j

theorem Only.belowF {W' : World} (h : FmtV W B b bb v f l) (ho : Only bb v.ownBlock W W') : Below B W W' :=
  ho.below h.hbb (by have := h.bLt; have := h.hb; omega) (fun j hj => (h.row j hj).1)

/-- The buffer's variable is given a new slice, in a world in which only its row has turned. -/
theorem FmtV.put {W' : World} {v' : Value} {l' : List UInt8} (h : FmtV W B b bb v f l) (hg : W.grownBy W' v.ownBlock) (ho : W'.ownsRow B 5 1 v' l'.length (cellsOf l')) :
    FmtV (W'.setCell ⟨bb, 0, none⟩ v') B b bb v' f l' := by
  have hbb' : W'.heap[bb]? = some (.cells #[v] 49 (0, 0)) := by
    rw [hg.block bb h.bbLt (fun e => (h.row bb e.symm).2.2.2 rfl)]; exact h.bf
  have hset : (W'.setCell ⟨bb, 0, none⟩ v').heap[bb]? = some (.cells #[v'] 49 (0, 0)) := by
    simp [World.setCell, Array.getElem?_modify, hbb']
  have hrow' : ∀ g, v'.ownBlock = some g → g ≠ bb := by
    intro g hgb
    rcases ho.2 with ⟨rfl, _⟩ | ⟨g', cap, cur, rfl, _, hh, _⟩
    · simp [Value.ownBlock] at hgb
    · simp [Value.ownBlock] at hgb; subst hgb
      rintro rfl; rw [hbb'] at hh; simp at hh
  obtain ⟨c, hc, kc⟩ := h.fm
  refine ⟨h.big, ?_, h.hb, h.hbb, ⟨c, ?_, kc⟩, hset, ho.1, ?_⟩
  · have h4 : (4 : Nat) < W.heap.size := by have := h.bLt; have := h.hb; have := h.big; omega
    have e4 : (W'.setCell ⟨bb, 0, none⟩ v').heap[4]? = W.heap[4]? := by
      rw [Below.heap_setCell _ _ _ _ (by show 4 ≠ bb; have := h.hbb; have := h.big; omega)]
      exact hg.block 4 h4 (fun e => by have := (h.row 4 e.symm).1; have := h.big; omega)
    rw [World.cell?_of_block (w := W) (a := ⟨4, 0, none⟩) e4]; exact h.max
  · rw [Below.heap_setCell _ _ _ _ (by exact h.ne), hg.block b h.bLt (fun e => (h.row b e.symm).2.2.1 rfl)]; exact hc
  · rcases ho.2 with hx | ⟨g', cap, cur, rfl, hbg, hh, r⟩
    · exact Or.inl hx
    · exact Or.inr ⟨g', cap, cur, rfl, hbg, by rw [Below.heap_setCell _ _ _ _ (by exact hrow' g' rfl)]; exact hh, r⟩

/-- A world that keeps every old block keeps the formatter. -/
theorem FmtV.keep {W' : World} (h : FmtV W B b bb v f l) (hk : ∀ k, k < W.heap.size → W'.heap[k]? = W.heap[k]?) : FmtV W' B b bb v f l := by
  obtain ⟨c, hc, kc⟩ := h.fm
  have h4 : (4 : Nat) < W.heap.size := by have := h.bLt; have := h.hb; have := h.big; omega
  refine ⟨h.big, ?_, h.hb, h.hbb, ⟨c, ?_, kc⟩, ?_, h.own.1, ?_⟩
  · rw [World.cell?_of_block (w := W) (a := ⟨4, 0, none⟩) (hk 4 h4)]; exact h.max
  · rw [hk b h.bLt]; exact hc
  · rw [hk bb h.bbLt]; exact h.bf
  · rcases h.own.2 with hx | ⟨g', cap, cur, rfl, hbg, hh, r⟩
    · exact Or.inl hx
    · exact Or.inr ⟨g', cap, cur, rfl, hbg, by rw [hk g' (lt_of_heap hh)]; exact hh, r⟩
theorem FmtV.alloc (h : FmtV W B b bb v f l) (o : Obj) : FmtV (W.alloc o) B b bb v f l := h.keep fun k hk => Below.heap_alloc _ _ _ hk
theorem FmtV.drew (h : FmtV W B b bb v f l) : FmtV W.drew B b bb v f l := h.keep fun _ _ => rfl
theorem FmtV.drewN (h : FmtV W B b bb v f l) (n : Nat) : FmtV (W.drewN n) B b bb v f l := h.keep fun _ _ => rfl
theorem FmtV.below {W' : World} {B' : Nat} (h : FmtV W B b bb v f l) (hb : Below B' W W') (hB : W.heap.size ≤ B') : FmtV W' B b bb v f l := h.keep fun k hk => hb.block k (by omega)
end

/-! ### append, whatever the source, onto a row of the call's own -/
theorem run_append_own_src {P : Program} (w : World) (base : Nat) (t tx ty e : TypeId) (i : TypeInfo) (z : Value) (ht : P.underlying t = some (.slice e)) (hi : P.info? e = some i) (hz : i.zero = some z)
    (hsize : i.size = 1) (hby : i.bytes = 1) (hzs : z.cells.size = 1)
    (v : Value) (n : Nat) (xs : List Value) (hown : w.ownsRow base e 1 v n xs)
    (x : Value) (m : Nat) (news : List Value) (hs : Src P i.size tx x m news w)
    (h63 : n + m ≤ maxLen) (hbytes : n + m ≤ 140737488355328) (hbase : base ≤ w.heap.size) :
    ∃ v' w', (Builtin.append_ #[t, tx] ty #[v, x]).run P w = .ok v' w' ∧ w'.ownsRow base e 1 v' (n + m) (xs ++ news) ∧ w.grownBy w' v.ownBlock ∧ (v'.ownBlock = v.ownBlock ∨ v'.ownBlock = some w.heap.size) := by
  have hsmall : ((n + m : Nat) : Int) ≤ 9223372036854775807 := by simp only [maxLen] at h63; omega
  have hl := hs.newsLen
  rw [hsize, Nat.mul_one] at hl
  have hxl := hown.1
  rw [Nat.mul_one] at hxl
  have hlen : (xs ++ news).length = (n + m) * 1 := by rw [List.length_append, hxl, hl, Nat.mul_one]
  have grown : ∀ (old : Nat), old < n + m → ∀ (row : Option Nat),
      (w.drew.alloc (.cells ((xs ++ news).toArray ++ Builtin.zeroCells z.cells (grownCap w (n + m) old e - (n + m))) e)).ownsRow base e 1
        (.slice (some ⟨w.heap.size, 0, none⟩) (n + m) (grownCap w (n + m) old e)) (n + m) (xs ++ news) ∧
      w.grownBy (w.drew.alloc (.cells ((xs ++ news).toArray ++ Builtin.zeroCells z.cells (grownCap w (n + m) old e - (n + m))) e)) row := by
    intro old ho row
    have hge := grownCap_ge w (n + m) old e
    have hcm : grownCap w (n + m) old e ≤ maxLen := grownCap_le_maxLen w (n + m) old e h63
    refine ⟨⟨hlen, .inr ⟨w.heap.size, _, _, rfl, hbase, heap_alloc_new w.drew _, hge, hcm, ?_, ?_⟩⟩, ⟨rfl, rfl, rfl, by simp, fun k hk _ => Below.heap_alloc w.drew _ k hk⟩⟩
    · simp only [Array.size_append, List.size_toArray, size_zeroCells, hzs, hlen]
      omega
    · simp only [Array.toList_append]
      rw [← hlen]
      exact List.take_left
  rcases hown.2 with ⟨rfl, rfl⟩ | ⟨g, cap, cur, rfl, hbg, hg, hnc, hcm, hcs, htake⟩
  · have hx : xs = [] := List.eq_nil_of_length_eq_zero (by simpa using hxl)
    subst hx
    by_cases hm : m = 0
    · subst hm
      have hn : news = [] := List.eq_nil_of_length_eq_zero (by simpa using hl)
      subst hn
      refine ⟨.slice none 0 0, w, ?_, World.ownsRow_nil w base e 1, ⟨rfl, rfl, rfl, Nat.le_refl _, fun _ _ _ => rfl⟩, Or.inl rfl⟩
      rcases hs.kind with ⟨e', hk⟩ | hk <;> simp [Builtin.append_, run_underlying ht, run_underlying hk, sizeOf, typeInfo, hi, hs.len, hs.cells]
    · have hr := run_append_grow_src (P := P) w t tx ty e i z ht hi hz none 0 0 [] (run_firstCells_none w.drew i.size 0 0 0) x m news hs (by omega) hsmall (growslice_fits (by omega) (by rw [hby]; omega))
      have hgr := grown 0 (by omega) (Value.ownBlock (.slice none 0 0))
      exact ⟨_, _, hr, hgr.1, hgr.2, Or.inr rfl⟩
  · by_cases hroom : n + m ≤ cap
    · have hr := run_append_room_src (P := P) w t tx ty e i ht hi g 0 n cap x m news hs hroom (fun j hj => by
        rw [cell_of_heap hg, hsize]
        simp; omega) (fun j _ => frozen_of_heap hg _)
      have hst := run_storeCells_at P g n e news 0 cur w hg (by omega) hs.one
      have hcc := run_storeCells_cells (P := P) g n news 0 w (fun j hj => by
        rw [cell_of_heap hg]
        simp; omega) (fun j _ => frozen_of_heap hg _) hs.one
      have hw : w.setCells g (0 + n * i.size) news = w.setRow g (cur.toList.take n ++ news ++ cur.toList.drop (n + news.length)).toArray := by
        rw [hsize]
        simp only [Nat.add_zero] at hcc hst
        rw [hcc] at hst
        have := (Result.ok.inj hst).2
        simpa using this
      rw [hw] at hr
      refine ⟨_, _, hr, ⟨hlen, .inr ⟨g, cap, _, rfl, hbg, setRow_heap w g cur _ e _ hg, hroom, hcm, ?_, ?_⟩⟩, ⟨rfl, rfl, rfl, by simp, fun k _ hk => setRow_other w g k _ (fun e => hk (by simp [Value.ownBlock, e]))⟩, Or.inl rfl⟩
      · simp only [List.size_toArray, List.length_append, List.length_take, List.length_drop, Array.length_toList]
        omega
      · have ht' : cur.toList.take n = xs := by rw [← htake, Nat.mul_one]
        rw [ht', ← hlen]
        exact List.take_left
    · have holds : ∀ j u, xs[j]? = some u → w.cell? ((⟨g, 0, none⟩ : Addr).add j) = some u := hown.cells (g := g) rfl
      have hr := run_append_grow_src (P := P) w t tx ty e i z ht hi hz (some ⟨g, 0, none⟩) n cap xs (run_firstCells_some w.drew i.size n ⟨g, 0, none⟩ n cap xs (by rw [hsize, Nat.mul_one]; exact hxl) (by simpa using holds)) x m news hs (by omega) hsmall (growslice_fits (by omega) (by rw [hby]; omega))
      have hgr := grown cap (by omega) (Value.ownBlock (.slice (some ⟨g, 0, none⟩) n cap))
      exact ⟨_, _, hr, hgr.1, hgr.2, Or.inr rfl⟩

theorem wpList_append_own_src {P : Program} (w : World) {ops : Array Oper} {rest : List Oper} {o : Oper} {a : Act} {Q : Exit → Act → World → Prop} (hgd : o.guard = none) (s x : Operand) (t tx : TypeId)
    (ho : o.op = .call { callee := .builtin .append, args := #[s, x], argTypes := #[t, tx] })
    (base : Nat) (e : TypeId) (i : TypeInfo) (z : Value) (ht : P.underlying t = some (.slice e)) (hi : P.info? e = some i) (hz : i.zero = some z)
    (hsize : i.size = 1) (hby : i.bytes = 1) (hzs : z.cells.size = 1)
    (v : Value) (n : Nat) (xs : List Value) (hs : a.eval s = v) (hown : w.ownsRow base e 1 v n xs)
    (xv : Value) (m : Nat) (news : List Value) (hx : a.eval x = xv) (hsrc : Src P i.size tx xv m news w)
    (h63 : n + m ≤ maxLen) (hbytes : n + m ≤ 140737488355328) (hbase : base ≤ w.heap.size)
    (h : ∀ v' w', w'.ownsRow base e 1 v' (n + m) (xs ++ news) → w.grownBy w' v.ownBlock → (v'.ownBlock = v.ownBlock ∨ v'.ownBlock = some w.heap.size) → wpList P ops Q rest (a.put o.dst v') w') : wpList P ops Q (o :: rest) a w := by
  refine wpList_plain hgd fun K hK => ?_
  obtain ⟨v', w', hr, h2, h3, h4⟩ := run_append_own_src (P := P) w base t tx o.type e i z ht hi hz hsize hby hzs v n xs hown xv m news hsrc h63 hbytes hbase
  unfold Oper.wp execOp
  simp only [ho, resolve, invoke, builtin, Sem.run_bind, Sem.run_pure, Result.andThen_ok, List.map_toArray, List.map_cons, List.map_nil, hs, hx, hr]
  exact hK _ _ (h v' w' h2 h3 h4)
end Go.Proofs.YoedvwDoor
