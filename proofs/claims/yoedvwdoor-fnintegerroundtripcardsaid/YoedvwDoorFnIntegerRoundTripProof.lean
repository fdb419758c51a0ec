/- The law FnIntegerRoundTrip: its row, proved. -/
import Derived.Test.YoedvwDoorRows
import Derived.Test.YoedvwDoorRtA
import Derived.Test.YoedvwDoorRtB
import Derived.Test.YoedvwDoorLaid
namespace Go.Proofs.YoedvwDoor.fnIntegerRoundTrip
open Go.ChangeShapes Go.WideShapes Go.ChangeAt Go.RowKit
set_option linter.unusedVariables false

set_option maxHeartbeats 1000000 in
set_option maxRecDepth 100000 in
theorem walk (a0 a1 : Int) (a2 a3 a4 a5 : Bool) (w0 : (Lit.int .u64 a0).wf = true) (w : World) (hbig : 5 < w.heap.size) (hmax : w.cell? ⟨4, 0, none⟩ = some (.int .i64 2147483647)) :
    Calls Edvg.prog 7 #[.int .u64 a0, .int .i64 a1, .bool a2, .bool a3, .bool a4, .bool a5] w fun e w' => e = .returned (.bool true) ∧ Below w.heap.size w w' := by
  have hb := bounds_u64 w0
  obtain ⟨u, rfl⟩ : ∃ u : Nat, a0 = (u : Int) := ⟨a0.toNat, by omega⟩
  have hu : u < 18446744073709551616 := by omega
  by_cases h2 : a1 = 2
  · subst h2
    cases a5
    · exact rt_2_false u hu a2 a3 a4 w hbig hmax
    · exact rt_2_true u hu a2 a3 a4 w hbig hmax
  · by_cases h8 : a1 = 8
    · subst h8
      cases a5
      · exact rt_8_false u hu a2 a3 a4 w hbig hmax
      · exact rt_8_true u hu a2 a3 a4 w hbig hmax
    · by_cases h10 : a1 = 10
      · subst h10
        cases a5
        · exact rt_10_false u hu a2 a3 a4 w hbig hmax
        · exact rt_10_true u hu a2 a3 a4 w hbig hmax
      · by_cases h16 : a1 = 16
        · subst h16
          cases a5
          · exact rt_16_false u hu a2 a3 a4 w hbig hmax
          · exact rt_16_true u hu a2 a3 a4 w hbig hmax
        · have t2 : (a1 != 2) = true := by simpa using h2
          have t8 : (a1 != 8) = true := by simpa using h8
          have t10 : (a1 != 10) = true := by simpa using h10
          have t16 : (a1 != 16) = true := by simpa using h16
          clear h2 h8 h10 h16 hmax hb hu
          go_enter Edvg.func7, Edvg.ntmps7
          go_wp2_with fail
          go_ret
          exact ⟨rfl, Below.refl _ _⟩

theorem door_met (os : Os) (args : Array Value) : laidMetH Edvg.prog Rows.fnIntegerRoundTripRow.laid ((World.doorLaid Edvg.prog 400 os).forCall (fun _ _ => 0) ⟨#[], args, []⟩).memory := YoedvwDoor.door_met os args
theorem of_laid {W : World} (h : laidMetH Edvg.prog Rows.fnIntegerRoundTripRow.laid W) : 5 < W.heap.size ∧ W.cell? ⟨4, 0, none⟩ = some (.int .i64 2147483647) := YoedvwDoor.of_laid h

set_option maxRecDepth 100000 in
theorem lifted (os : Os) (started : os.Started) (H : Type) (enc : TypeId × Value → H) :
    ReturnsInHanded {} Edvg.checked os 7 .any (fun w args => (Rows.fnIntegerRoundTripSpec.pre enc Edvg.prog Edvg.f7 [] false w args ∧ laidMetH Edvg.prog Rows.fnIntegerRoundTripRow.laid w) ∧ sizedMet enc Edvg.prog Edvg.f7 (OpenSpec.ofChange Rows.fnIntegerRoundTripSpec) false w args)
      (Rows.fnIntegerRoundTripSpec.post enc Edvg.prog Edvg.f7 false true false false) := by
  refine returnsInHanded_of_change_and (C := Edvg.checked) (X := fun w _ => laidMetH Edvg.prog Rows.fnIntegerRoundTripRow.laid w) (fun _ _ _ hh h => h.of_heap hh) own started (by kernel_rfl) Edvg.func7
    (ChangeSpec.witness_shaped (enc := enc) (C := Edvg.checked) (os := os) (X := fun w _ => laidMetH Edvg.prog Rows.fnIntegerRoundTripRow.laid w) false (World.doorLaid Edvg.prog 400 os) #[.int .u64 0, .int .i64 0, .bool false, .bool false, .bool false, .bool false] 8 rfl (World.shaped_of_RefB (by kernel_rfl) (by kernel_rfl)) (by kernel_rfl) (by kernel_rfl) (by kernel_rfl) (door_met os _)) ?_
  intro W base args ds gs before hval0 hW _ _ hL _
  have hval : ∀ (j : Nat) t v, Edvg.f7.params[j]? = some t → args[j]? = some v → Value.okWide Edvg.prog W .any base t v := hval0
  have hW' := hW
  obtain ⟨p, q, hA0, hV, rfl, hfz, hnd⟩ := hW
  have hA : DataW.TrodAll enc Edvg.prog W 0 (fun _ => true) true Edvg.f7.params.toList args.toList ds p := hA0
  rw [Edvg.params7] at hA hval
  obtain ⟨v0, vs0, d0, ds0, p0, q0, hargs, rfl, rfl, h0, r0⟩ := trodAll_cons hA
  obtain ⟨v1, vs1, d1, ds1, p1, q1, rfl, rfl, rfl, h1, r1⟩ := trodAll_cons r0
  obtain ⟨v2, vs2, d2, ds2, p2, q2, rfl, rfl, rfl, h2, r2⟩ := trodAll_cons r1
  obtain ⟨v3, vs3, d3, ds3, p3, q3, rfl, rfl, rfl, h3, r3⟩ := trodAll_cons r2
  obtain ⟨v4, vs4, d4, ds4, p4, q4, rfl, rfl, rfl, h4, r4⟩ := trodAll_cons r3
  obtain ⟨v5, vs5, d5, ds5, p5, q5, rfl, rfl, rfl, h5, r5⟩ := trodAll_cons r4
  obtain ⟨rfl, rfl, rfl⟩ := trodAll_nil r5
  obtain rfl : args = #[v0, v1, v2, v3, v4, v5] := by cases args; simp_all
  obtain ⟨ga, gb, hgs⟩ : ∃ a b, gs = [a, b] := by
    obtain ⟨_, _, _, _, d0, _, _, _, _, _, d1, _, hgs, _⟩ := trodVars_two hV
    exact ⟨d0, d1, hgs⟩
  subst hgs
  obtain ⟨a0, rfl, rfl, rfl, w0⟩ := open_int Edvg.underlying27 (hval 0 27 v0 rfl rfl) h0
  obtain ⟨a1, rfl, rfl, rfl, w1⟩ := open_int Edvg.underlying3 (hval 1 3 v1 rfl rfl) h1
  obtain ⟨a2, rfl, rfl, rfl⟩ := open_bool Edvg.underlying4 (hval 2 4 v2 rfl rfl) h2
  obtain ⟨a3, rfl, rfl, rfl⟩ := open_bool Edvg.underlying4 (hval 3 4 v3 rfl rfl) h3
  obtain ⟨a4, rfl, rfl, rfl⟩ := open_bool Edvg.underlying4 (hval 4 4 v4 rfl rfl) h4
  obtain ⟨a5, rfl, rfl, rfl⟩ := open_bool Edvg.underlying4 (hval 5 4 v5 rfl rfl) h5
  obtain ⟨hbig, hmax⟩ := of_laid hL
  clear hA0 hval0
  refine (walk a0 a1 a2 a3 a4 a5 w0 W hbig hmax).mono fun e W' ⟨he, hg⟩ => ?_
  subst he
  exact ⟨_, rfl, _, _, _, [], [], _, hW', (trodAll_cons_mk (shut_bool Edvg.underlying4 _) trodAll_mk0), (trodAll_cons_mk (shut_int Edvg.underlying27 w0) (trodAll_cons_mk (shut_int Edvg.underlying3 w1) (trodAll_cons_mk (shut_bool Edvg.underlying4 _) (trodAll_cons_mk (shut_bool Edvg.underlying4 _) (trodAll_cons_mk (shut_bool Edvg.underlying4 _) (trodAll_cons_mk (shut_bool Edvg.underlying4 _) trodAll_mk0)))))), Below.trodVars laidOut hg (by kernel_rfl) hV, hg.frame _, fun h => by cases h⟩

theorem over : Rows.FnIntegerRoundTripSaid :=
  OpenClaim.holds_of_wide 7 Edvg.f7 rfl rfl rfl rfl rfl rfl rfl ⟨rfl, rfl, rfl, rfl, rfl⟩ rfl rfl rfl rfl rfl (by kernel_rfl) Edvg.func7 (by kernel_rfl)
    (of_decide_eq_true (by kernel_rfl)) (by unfold Func.isWrapper; first | (rw [if_pos (by decide +kernel)]; kernel_rfl) | (rw [if_neg (by decide +kernel)]; exact ⟨rfl, rfl⟩))
    (fun os started H enc _ => lifted os started H enc)
#print axioms over
end Go.Proofs.YoedvwDoor.fnIntegerRoundTrip
