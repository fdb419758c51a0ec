/- The law FnIntegerSpec: its row, proved. -/
import Derived.Test.YoedvwDoorRows
import Derived.Test.YoedvwDoorSpec
import Derived.Test.YoedvwDoorLaid
namespace Go.Proofs.YoedvwDoor.fnIntegerSpec
open Go.ChangeShapes Go.WideShapes Go.ChangeAt Go.RowKit
set_option linter.unusedVariables false

set_option maxHeartbeats 1000000 in
set_option maxRecDepth 100000 in
theorem walk (a0 a1 : Int) (a2 : Bool) (a3 : Int) (a4 a5 : Bool) (a6 : Int) (a7 : Bool) (a8 a9 : Int) (w0 : (Lit.int .u64 a0).wf = true) (w : World) (hbig : 5 < w.heap.size) (hmax : w.cell? ⟨4, 0, none⟩ = some (.int .i64 2147483647)) :
    Calls Edvg.prog 6 #[.int .u64 a0, .int .i64 a1, .bool a2, .int .i32 a3, .bool a4, .bool a5, .int .i64 a6, .bool a7, .int .i64 a8, .int .u8 a9] w fun e w' => e = .returned (.bool true) ∧ Below w.heap.size w w' := by
  have hb := bounds_u64 w0
  obtain ⟨u, rfl⟩ : ∃ u : Nat, a0 = (u : Int) := ⟨a0.toNat, by omega⟩
  have hu : u < 18446744073709551616 := by omega
  clear hb w0
  by_cases hw : 0 ≤ a6 ∧ a6 ≤ 65536
  · by_cases hp : 0 ≤ a8 ∧ a8 ≤ 65536
    · obtain ⟨wid, rfl⟩ : ∃ k : Nat, a6 = (k : Int) := ⟨a6.toNat, by omega⟩
      obtain ⟨prec, rfl⟩ : ∃ k : Nat, a8 = (k : Int) := ⟨a8.toNat, by omega⟩
      have hw1 : wid ≤ 65536 := by omega
      have hp1 : prec ≤ 65536 := by omega
      clear hw hp
      by_cases hbs : a1 = 2 ∨ a1 = 8 ∨ a1 = 10 ∨ a1 = 16
      · obtain ⟨base, rfl⟩ : ∃ k : Nat, a1 = (k : Int) := ⟨a1.toNat, by omega⟩
        by_cases hO : a3 = 79 → base = 8
        · exact spec6 u base a2 a3 a4 a5 wid a7 prec a9 hu hw1 hp1 (by omega) hO w hbig hmax
        · have h79 : a3 = 79 := Classical.byContradiction fun e => hO fun e2 => absurd e2 e
          have h8 : base ≠ 8 := fun e => hO fun _ => e
          have t1 : (a3 == 79) = true := by simp [h79]
          have t2 : ((base : Int) != 8) = true := by simp; omega
          have HBS : Hid (base = 2 ∨ base = 10 ∨ base = 16) := by show base = 2 ∨ base = 10 ∨ base = 16; omega
          clear hO h79 h8 hbs hmax
          rcases HBS.out with e | e | e
          · subst e
            go_enter Edvg.func6, Edvg.ntmps6
            go_wp2_with fail
            go_ret
            exact ⟨rfl, Below.refl _ _⟩
          · subst e
            go_enter Edvg.func6, Edvg.ntmps6
            go_wp2_with fail
            go_ret
            exact ⟨rfl, Below.refl _ _⟩
          · subst e
            go_enter Edvg.func6, Edvg.ntmps6
            go_wp2_with fail
            go_ret
            exact ⟨rfl, Below.refl _ _⟩
      · have t2 : (a1 != 2) = true := by simp; omega
        have t8 : (a1 != 8) = true := by simp; omega
        have t10 : (a1 != 10) = true := by simp; omega
        have t16 : (a1 != 16) = true := by simp; omega
        clear hbs hmax
        go_enter Edvg.func6, Edvg.ntmps6
        go_wp2_with fail
        go_ret
        exact ⟨rfl, Below.refl _ _⟩
    · have h1 : 0 ≤ a6 := hw.1
      have h2 : a6 ≤ 65536 := hw.2
      clear hw hmax
      by_cases h3 : a8 < 0
      · clear hp
        go_enter Edvg.func6, Edvg.ntmps6
        go_wp2_with fail
        go_ret
        exact ⟨rfl, Below.refl _ _⟩
      · have h4 : 65536 < a8 := by omega
        have h5 : 0 ≤ a8 := by omega
        clear hp h3
        go_enter Edvg.func6, Edvg.ntmps6
        go_wp2_with fail
        go_ret
        exact ⟨rfl, Below.refl _ _⟩
  · clear hmax
    by_cases h3 : a6 < 0
    · clear hw
      go_enter Edvg.func6, Edvg.ntmps6
      go_wp2_with fail
      go_ret
      exact ⟨rfl, Below.refl _ _⟩
    · have h4 : 65536 < a6 := by omega
      have h5 : 0 ≤ a6 := by omega
      clear hw h3
      go_enter Edvg.func6, Edvg.ntmps6
      go_wp2_with fail
      go_ret
      exact ⟨rfl, Below.refl _ _⟩

theorem door_met (os : Os) (args : Array Value) : laidMetH Edvg.prog Rows.fnIntegerSpecRow.laid ((World.doorLaid Edvg.prog 400 os).forCall (fun _ _ => 0) ⟨#[], args, []⟩).memory := YoedvwDoor.door_met os args
theorem of_laid {W : World} (h : laidMetH Edvg.prog Rows.fnIntegerSpecRow.laid W) : 5 < W.heap.size ∧ W.cell? ⟨4, 0, none⟩ = some (.int .i64 2147483647) := YoedvwDoor.of_laid h

set_option maxRecDepth 100000 in
theorem lifted (os : Os) (started : os.Started) (H : Type) (enc : TypeId × Value → H) :
    ReturnsInHanded {} Edvg.checked os 6 .any (fun w args => (Rows.fnIntegerSpecSpec.pre enc Edvg.prog Edvg.f6 [] false w args ∧ laidMetH Edvg.prog Rows.fnIntegerSpecRow.laid w) ∧ sizedMet enc Edvg.prog Edvg.f6 (OpenSpec.ofChange Rows.fnIntegerSpecSpec) false w args)
      (Rows.fnIntegerSpecSpec.post enc Edvg.prog Edvg.f6 false true false false) := by
  refine returnsInHanded_of_change_and (C := Edvg.checked) (X := fun w _ => laidMetH Edvg.prog Rows.fnIntegerSpecRow.laid w) (fun _ _ _ hh h => h.of_heap hh) own started (by kernel_rfl) Edvg.func6
    (ChangeSpec.witness_shaped (enc := enc) (C := Edvg.checked) (os := os) (X := fun w _ => laidMetH Edvg.prog Rows.fnIntegerSpecRow.laid w) false (World.doorLaid Edvg.prog 400 os) #[.int .u64 0, .int .i64 0, .bool false, .int .i32 0, .bool false, .bool false, .int .i64 0, .bool false, .int .i64 0, .int .u8 0] 8 rfl (World.shaped_of_RefB (by kernel_rfl) (by kernel_rfl)) (by kernel_rfl) (by kernel_rfl) (by kernel_rfl) (door_met os _)) ?_
  intro W base args ds gs before hval0 hW _ _ hL _
  have hval : ∀ (j : Nat) t v, Edvg.f6.params[j]? = some t → args[j]? = some v → Value.okWide Edvg.prog W .any base t v := hval0
  have hW' := hW
  obtain ⟨p, q, hA0, hV, rfl, hfz, hnd⟩ := hW
  have hA : DataW.TrodAll enc Edvg.prog W 0 (fun _ => true) true Edvg.f6.params.toList args.toList ds p := hA0
  rw [Edvg.params6] at hA hval
  obtain ⟨v0, vs0, d0, ds0, p0, q0, hargs, rfl, rfl, h0, r0⟩ := trodAll_cons hA
  obtain ⟨v1, vs1, d1, ds1, p1, q1, rfl, rfl, rfl, h1, r1⟩ := trodAll_cons r0
  obtain ⟨v2, vs2, d2, ds2, p2, q2, rfl, rfl, rfl, h2, r2⟩ := trodAll_cons r1
  obtain ⟨v3, vs3, d3, ds3, p3, q3, rfl, rfl, rfl, h3, r3⟩ := trodAll_cons r2
  obtain ⟨v4, vs4, d4, ds4, p4, q4, rfl, rfl, rfl, h4, r4⟩ := trodAll_cons r3
  obtain ⟨v5, vs5, d5, ds5, p5, q5, rfl, rfl, rfl, h5, r5⟩ := trodAll_cons r4
  obtain ⟨v6, vs6, d6, ds6, p6, q6, rfl, rfl, rfl, h6, r6⟩ := trodAll_cons r5
  obtain ⟨v7, vs7, d7, ds7, p7, q7, rfl, rfl, rfl, h7, r7⟩ := trodAll_cons r6
  obtain ⟨v8, vs8, d8, ds8, p8, q8, rfl, rfl, rfl, h8, r8⟩ := trodAll_cons r7
  obtain ⟨v9, vs9, d9, ds9, p9, q9, rfl, rfl, rfl, h9, r9⟩ := trodAll_cons r8
  obtain ⟨rfl, rfl, rfl⟩ := trodAll_nil r9
  obtain rfl : args = #[v0, v1, v2, v3, v4, v5, v6, v7, v8, v9] := by cases args; simp_all
  obtain ⟨ga, gb, hgs⟩ : ∃ a b, gs = [a, b] := by
    obtain ⟨_, _, _, _, d0, _, _, _, _, _, d1, _, hgs, _⟩ := trodVars_two hV
    exact ⟨d0, d1, hgs⟩
  subst hgs
  obtain ⟨a0, rfl, rfl, rfl, w0⟩ := open_int Edvg.underlying27 (hval 0 27 v0 rfl rfl) h0
  obtain ⟨a1, rfl, rfl, rfl, w1⟩ := open_int Edvg.underlying3 (hval 1 3 v1 rfl rfl) h1
  obtain ⟨a2, rfl, rfl, rfl⟩ := open_bool Edvg.underlying4 (hval 2 4 v2 rfl rfl) h2
  obtain ⟨a3, rfl, rfl, rfl, w3⟩ := open_int Edvg.underlying21 (hval 3 21 v3 rfl rfl) h3
  obtain ⟨a4, rfl, rfl, rfl⟩ := open_bool Edvg.underlying4 (hval 4 4 v4 rfl rfl) h4
  obtain ⟨a5, rfl, rfl, rfl⟩ := open_bool Edvg.underlying4 (hval 5 4 v5 rfl rfl) h5
  obtain ⟨a6, rfl, rfl, rfl, w6⟩ := open_int Edvg.underlying3 (hval 6 3 v6 rfl rfl) h6
  obtain ⟨a7, rfl, rfl, rfl⟩ := open_bool Edvg.underlying4 (hval 7 4 v7 rfl rfl) h7
  obtain ⟨a8, rfl, rfl, rfl, w8⟩ := open_int Edvg.underlying3 (hval 8 3 v8 rfl rfl) h8
  obtain ⟨a9, rfl, rfl, rfl, w9⟩ := open_int Edvg.underlying5 (hval 9 5 v9 rfl rfl) h9
  obtain ⟨hbig, hmax⟩ := of_laid hL
  clear hA0 hval0
  refine (walk a0 a1 a2 a3 a4 a5 a6 a7 a8 a9 w0 W hbig hmax).mono fun e W' ⟨he, hg⟩ => ?_
  subst he
  exact ⟨_, rfl, _, _, _, [], [], _, hW', (trodAll_cons_mk (shut_bool Edvg.underlying4 _) trodAll_mk0), (trodAll_cons_mk (shut_int Edvg.underlying27 w0) (trodAll_cons_mk (shut_int Edvg.underlying3 w1) (trodAll_cons_mk (shut_bool Edvg.underlying4 _) (trodAll_cons_mk (shut_int Edvg.underlying21 w3) (trodAll_cons_mk (shut_bool Edvg.underlying4 _) (trodAll_cons_mk (shut_bool Edvg.underlying4 _) (trodAll_cons_mk (shut_int Edvg.underlying3 w6) (trodAll_cons_mk (shut_bool Edvg.underlying4 _) (trodAll_cons_mk (shut_int Edvg.underlying3 w8) (trodAll_cons_mk (shut_int Edvg.underlying5 w9) trodAll_mk0)))))))))), Below.trodVars laidOut hg (by kernel_rfl) hV, hg.frame _, fun h => by cases h⟩

theorem over : Rows.FnIntegerSpecSaid :=
  OpenClaim.holds_of_wide 6 Edvg.f6 rfl rfl rfl rfl rfl rfl rfl ⟨rfl, rfl, rfl, rfl, rfl⟩ rfl rfl rfl rfl rfl (by kernel_rfl) Edvg.func6 (by kernel_rfl)
    (of_decide_eq_true (by kernel_rfl)) (by unfold Func.isWrapper; first | (rw [if_pos (by decide +kernel)]; kernel_rfl) | (rw [if_neg (by decide +kernel)]; exact ⟨rfl, rfl⟩))
    (fun os started H enc _ => lifted os started H enc)
#print axioms over
end Go.Proofs.YoedvwDoor.fnIntegerSpec
