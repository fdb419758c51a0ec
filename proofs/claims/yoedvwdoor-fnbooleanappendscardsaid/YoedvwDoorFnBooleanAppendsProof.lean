/- The law FnBooleanAppends: its row, proved. -/
import Derived.Test.YoedvwDoorRows
import Derived.Test.YoedvwDoorBool
import Derived.Test.YoedvwDoorLaid
namespace Go.Proofs.YoedvwDoor.fnBooleanAppends
open Go.ChangeShapes Go.WideShapes Go.ChangeAt Go.RowKit
set_option linter.unusedVariables false

set_option maxHeartbeats 1000000 in
theorem walk (a0 a1 a2 : Bool) (a3 : Int) (a4 a5 : Bool) (w : World) (hbig : 5 < w.heap.size) (hmax : w.cell? ⟨4, 0, none⟩ = some (.int .i64 2147483647)) :
    Calls Edvg.prog 3 #[.bool a0, .bool a1, .bool a2, .int .i64 a3, .bool a4, .bool a5] w fun e w' => e = .returned (.bool true) ∧ Below w.heap.size w w' := by
  by_cases h0 : 0 ≤ a3
  · by_cases h1 : a3 ≤ 65536
    · exact appends a0 a1 a2 a3 a4 a5 w h0 h1 hbig hmax
    · clear hmax
      go_enter Edvg.func3, Edvg.ntmps3
      go_wp2_with fail
      go_ret
      exact ⟨rfl, Below.refl _ _⟩
  · clear hmax
    go_enter Edvg.func3, Edvg.ntmps3
    go_wp2_with fail
    go_ret
    exact ⟨rfl, Below.refl _ _⟩

set_option maxRecDepth 100000 in
theorem lifted (os : Os) (started : os.Started) (H : Type) (enc : TypeId × Value → H) :
    ReturnsInHanded {} Edvg.checked os 3 .any (fun w args => (Rows.fnBooleanAppendsSpec.pre enc Edvg.prog Edvg.f3 [] false w args ∧ laidMetH Edvg.prog Rows.fnBooleanAppendsRow.laid w) ∧ sizedMet enc Edvg.prog Edvg.f3 (OpenSpec.ofChange Rows.fnBooleanAppendsSpec) false w args)
      (Rows.fnBooleanAppendsSpec.post enc Edvg.prog Edvg.f3 false true false false) := by
  refine returnsInHanded_of_change_and (C := Edvg.checked) (X := fun w _ => laidMetH Edvg.prog Rows.fnBooleanAppendsRow.laid w) (fun _ _ _ hh h => h.of_heap hh) own started (by kernel_rfl) Edvg.func3
    (ChangeSpec.witness_shaped (enc := enc) (C := Edvg.checked) (os := os) (X := fun w _ => laidMetH Edvg.prog Rows.fnBooleanAppendsRow.laid w) false (World.doorLaid Edvg.prog 400 os) #[.bool false, .bool false, .bool false, .int .i64 0, .bool false, .bool false] 8 rfl (World.shaped_of_RefB (by kernel_rfl) (by kernel_rfl)) (by kernel_rfl) (by kernel_rfl) (by kernel_rfl) (door_met os _)) ?_
  intro W base args ds gs before hval0 hW _ _ hL _
  have hval : ∀ (j : Nat) t v, Edvg.f3.params[j]? = some t → args[j]? = some v → Value.okWide Edvg.prog W .any base t v := hval0
  have hW' := hW
  obtain ⟨p, q, hA0, hV, rfl, hfz, hnd⟩ := hW
  have hA : DataW.TrodAll enc Edvg.prog W 0 (fun _ => true) true Edvg.f3.params.toList args.toList ds p := hA0
  rw [Edvg.params3] at hA hval
  obtain ⟨v0, vs0, d0, ds0, p0, q0, hargs, rfl, rfl, h0, r0⟩ := trodAll_cons hA
  obtain ⟨v1, vs1, d1, ds1, p1, q1, rfl, rfl, rfl, h1, r1⟩ := trodAll_cons r0
  obtain ⟨v2, vs2, d2, ds2, p2, q2, rfl, rfl, rfl, h2, r2⟩ := trodAll_cons r1
  obtain ⟨v3, vs3, d3, ds3, p3, q3, rfl, rfl, rfl, h3, r3⟩ := trodAll_cons r2
  obtain ⟨v4, vs4, d4, ds4, p4, q4, rfl, rfl, rfl, h4, r4⟩ := trodAll_cons r3
  obtain ⟨v5, vs5, d5, ds5, p5, q5, rfl, rfl, rfl, h5, r5⟩ := trodAll_cons r4
  obtain ⟨rfl, rfl, rfl⟩ := trodAll_nil r5
  obtain rfl : args = #[v0, v1, v2, v3, v4, v5] := by cases args; simp_all
  obtain ⟨ga, gb, hgs⟩ : ∃ a b, gs = [a, b] := by
    obtain ⟨_, _, _, _, d0, _, _, _, _, _, d1, _, hgs, _⟩ := trodVars_two hV
    exact ⟨d0, d1, hgs⟩
  subst hgs
  obtain ⟨a0, rfl, rfl, rfl⟩ := open_bool Edvg.underlying4 (hval 0 4 v0 rfl rfl) h0
  obtain ⟨a1, rfl, rfl, rfl⟩ := open_bool Edvg.underlying4 (hval 1 4 v1 rfl rfl) h1
  obtain ⟨a2, rfl, rfl, rfl⟩ := open_bool Edvg.underlying4 (hval 2 4 v2 rfl rfl) h2
  obtain ⟨a3, rfl, rfl, rfl, w3⟩ := open_int Edvg.underlying3 (hval 3 3 v3 rfl rfl) h3
  obtain ⟨a4, rfl, rfl, rfl⟩ := open_bool Edvg.underlying4 (hval 4 4 v4 rfl rfl) h4
  obtain ⟨a5, rfl, rfl, rfl⟩ := open_bool Edvg.underlying4 (hval 5 4 v5 rfl rfl) h5
  obtain ⟨hbig, hmax⟩ := of_laid hL
  clear hA0 hval0
  refine (walk a0 a1 a2 a3 a4 a5 W hbig hmax).mono fun e W' ⟨he, hg⟩ => ?_
  subst he
  exact ⟨_, rfl, _, _, _, [], [], _, hW', (trodAll_cons_mk (shut_bool Edvg.underlying4 _) trodAll_mk0), (trodAll_cons_mk (shut_bool Edvg.underlying4 _) (trodAll_cons_mk (shut_bool Edvg.underlying4 _) (trodAll_cons_mk (shut_bool Edvg.underlying4 _) (trodAll_cons_mk (shut_int Edvg.underlying3 w3) (trodAll_cons_mk (shut_bool Edvg.underlying4 _) (trodAll_cons_mk (shut_bool Edvg.underlying4 _) trodAll_mk0)))))), Below.trodVars laidOut hg (by kernel_rfl) hV, hg.frame _, fun h => by cases h⟩

theorem over : Rows.FnBooleanAppendsSaid :=
  OpenClaim.holds_of_wide 3 Edvg.f3 rfl rfl rfl rfl rfl rfl rfl ⟨rfl, rfl, rfl, rfl, rfl⟩ rfl rfl rfl rfl rfl (by kernel_rfl) Edvg.func3 (by kernel_rfl)
    (of_decide_eq_true (by kernel_rfl)) (by unfold Func.isWrapper; first | (rw [if_pos (by decide +kernel)]; kernel_rfl) | (rw [if_neg (by decide +kernel)]; exact ⟨rfl, rfl⟩))
    (fun os started H enc _ => lifted os started H enc)
#print axioms over
end Go.Proofs.YoedvwDoor.fnBooleanAppends
