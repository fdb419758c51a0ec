/- The law FnTruncateSpec, proved: its walk out of the contracts of YoedvwSpecW; the rest is the guide's template at this function. -/
import Derived.Test.YoedvwRows
import Derived.Test.YoedvwSpecW
import Derived.WalkKit
import Derived.ProofKit
import Derived.OpenShut
import Derived.ShutString
namespace Go.Proofs.Yoedvw.fnTruncateSpec
open Go.ChangeShapes Go.WideShapes Go.ChangeAt Go.RowKit
open Go.ChangeMaps (open_string shut_string)
set_option linter.unusedVariables false      -- a walk need not use every 'w<i>' (that an integer argument fits its kind)

theorem own : ownKnob Edvg.prog.godebug = none := by kernel_rfl

/-! ### STEP 1: THE WALK: the Go text returns true. -/
set_option maxHeartbeats 1000000 in
theorem walk (a0 : ByteArray) (a1 : Bool) (a2 : Int) (w0 : a0.size ≤ maxLen) (w2 : (Lit.int .i64 a2).wf = true) (w : World) :
    Calls Edvg.prog 3 #[.string a0, .bool a1, .int .i64 a2] w fun e w' => e = .returned (.bool true) ∧ Below w.heap.size w w' := by
  have b2 := bounds_i64 w2
  by_cases hs : a0.size ≤ 1048576
  · cases a1 with
    | false => exact spec_none a0 a2 w hs
    | true =>
      by_cases h2 : -1073741824 ≤ a2
      · exact spec_some a0 a2 w hs h2 b2.2
      · go_enter Edvg.func3, Edvg.ntmps3
        go_wp2_with (go_at_call 5; refine (bytesS_yes a0 true a2 _ hs).mono ?_; rintro e w' ⟨rfl, rfl⟩)
        go_ret
        exact ⟨rfl, Below.refl _ _⟩
  · go_enter Edvg.func3, Edvg.ntmps3
    go_wp2_with (go_at_call 5; refine (bytesS_no a0 a1 a2 _ (by omega)).mono ?_; rintro e w' ⟨rfl, rfl⟩)
    go_ret
    exact ⟨rfl, Below.refl _ _⟩

/-! ### THE ROW's STEP: WRITTEN OUT: LEAVE IT -/
set_option maxRecDepth 100000 in
theorem lifted (os : Os) (started : os.Started) (H : Type) (enc : TypeId × Value → H) :
    ReturnsInHanded {} Edvg.checked os 3 .any (Rows.fnTruncateSpecSpec.pre6 enc Edvg.prog Edvg.f3 Rows.fnTruncateSpecRow.domain false) (Rows.fnTruncateSpecSpec.post enc Edvg.prog Edvg.f3 false true false false) := by
  refine returnsInHanded_of_change (C := Edvg.checked) own started (by kernel_rfl) Edvg.func3
    (ChangeSpec.witness6 (enc := enc) (C := Edvg.checked) false ⟨#[], #[.string ByteArray.empty, .bool false, .int .i64 0], []⟩ 8 (by kernel_rfl) (by kernel_rfl) (by kernel_rfl) (by kernel_rfl)) ?_
  intro W base args ds gs before hval0 hW hcnd _
  have hval : ∀ (j : Nat) t v, Edvg.f3.params[j]? = some t → args[j]? = some v → Value.okWide Edvg.prog W .any base t v := hval0
  have hW' := hW
  obtain ⟨p, q, hA0, hV, rfl, hfz, hnd⟩ := hW
  have hA : DataW.TrodAll enc Edvg.prog W 0 (fun _ => true) true Edvg.f3.params.toList args.toList ds p := hA0
  rw [Edvg.params3] at hA hval
  obtain ⟨v0, vs0, d0, ds0, p0, q0, hargs, rfl, rfl, h0, r0⟩ := trodAll_cons hA
  obtain ⟨v1, vs1, d1, ds1, p1, q1, rfl, rfl, rfl, h1, r1⟩ := trodAll_cons r0
  obtain ⟨v2, vs2, d2, ds2, p2, q2, rfl, rfl, rfl, h2, r2⟩ := trodAll_cons r1
  obtain ⟨rfl, rfl, rfl⟩ := trodAll_nil r2
  obtain rfl : args = #[v0, v1, v2] := by cases args; simp_all
  obtain ⟨rfl, rfl⟩ := trodVars_none hV
  obtain ⟨a0, rfl, rfl, rfl, w0⟩ := open_string Edvg.underlying9 (hval 0 9 v0 rfl rfl) h0
  obtain ⟨a1, rfl, rfl, rfl⟩ := open_bool Edvg.underlying4 (hval 1 4 v1 rfl rfl) h1
  obtain ⟨a2, rfl, rfl, rfl, w2⟩ := open_int Edvg.underlying3 (hval 2 3 v2 rfl rfl) h2
  clear hA0 hval0
  simp only [List.append_nil] at hW'
  refine (walk a0 a1 a2 w0 w2 W).mono fun e W' ⟨he, hg⟩ => ?_
  subst he
  exact ⟨_, rfl, _, _, _, [], [], [], hW', (trodAll_cons_mk (shut_bool Edvg.underlying4 _) trodAll_mk0), (trodAll_cons_mk (shut_string Edvg.underlying9 w0) (trodAll_cons_mk (shut_bool Edvg.underlying4 _) (trodAll_cons_mk (shut_int Edvg.underlying3 w2) trodAll_mk0))), rfl, hg.frame _, fun h => by cases h⟩

theorem over : Rows.fnTruncateSpecRow.holds Edvg.pinned (OpenSpec.ofChange Rows.fnTruncateSpecSpec) :=
  OpenClaim.holds_of_wide 3 Edvg.f3 rfl rfl rfl rfl rfl rfl rfl ⟨rfl, rfl, rfl, rfl, rfl⟩ rfl rfl rfl rfl rfl (by kernel_rfl) Edvg.func3 (by kernel_rfl)
    (of_decide_eq_true (by kernel_rfl)) (by unfold Func.isWrapper; first | (rw [if_pos (by decide +kernel)]; kernel_rfl) | (rw [if_neg (by decide +kernel)]; exact ⟨rfl, rfl⟩))
    (fun os started H enc _ => lifted os started H enc)

/-- ████ THE STATEMENT ████ -/
theorem proved : Rows.FnTruncateSpecSaid :=
  over
#print axioms proved
end Go.Proofs.Yoedvw.fnTruncateSpec
