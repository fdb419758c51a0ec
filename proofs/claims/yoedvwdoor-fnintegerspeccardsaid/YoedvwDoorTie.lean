/-
  DERIVED. GIVEN WITH THE SEED: THE PROGRAM's TIES (one call each: nine closed facts by the kernel) AND EACH ROW's TIE, after the 31st guide's Derived/Test/Toyas{Tie, Card}.lean. No idea stands in it: it is a product of the set-up. Laid BY PROGRAM, IN A SANDBOX (cutbox-door.mjs). By AI agents, Wed Nov 11 2026. No macro, syntax, notation, axiom, sorry.
-/
import Derived.Test.YoedvwDoorRows
import Derived.LaidByTextLater
import Derived.SevenTiedAt
import Derived.LaidSub
import Derived.LaidOnce
namespace Go.Proofs.YoedvwDoor
open Go
set_option maxRecDepth 100000
theorem seatTie1 : Edvg.prog.laidByTextLater [("github.com/d5/tengo/v2.ErrStringLimit", Rows.laid_github_com_d5_tengo_v2_ErrStringLimit), ("github.com/d5/tengo/v2.MaxStringLen", Rows.laid_github_com_d5_tengo_v2_MaxStringLen)] [.called, .data] true :=
  Program.laidByTextLater_by_one 32 8 2 (by kernel_rfl) (by kernel_rfl) (by kernel_rfl) (by kernel_rfl) (by kernel_rfl) (by kernel_rfl) (fun _ _ => by kernel_rfl)
theorem pin_laid_strconv_isNotPrint16 : Edvg.pinned.checked.prog.pinnedFits "strconv.isNotPrint16" = true := by kernel_rfl
theorem pin_laid_strconv_isNotPrint32 : Edvg.pinned.checked.prog.pinnedFits "strconv.isNotPrint32" = true := by kernel_rfl
theorem pin_laid_strconv_isPrint16 : Edvg.pinned.checked.prog.pinnedFits "strconv.isPrint16" = true := by kernel_rfl
theorem pin_laid_strconv_isPrint32 : Edvg.pinned.checked.prog.pinnedFits "strconv.isPrint32" = true := by kernel_rfl
theorem noOwnUnsafe : Edvg.pinned.checked.prog.headLifts.contains "ownunsafe" = false := by kernel_rfl
theorem tie : Edvg.prog.laidByTextLater [("github.com/d5/tengo/v2.ErrStringLimit", Rows.laid_github_com_d5_tengo_v2_ErrStringLimit), ("github.com/d5/tengo/v2.MaxStringLen", Rows.laid_github_com_d5_tengo_v2_MaxStringLen)] [.called, .data] true :=
  Program.laidByTextLater.sub seatTie1 ["github.com/d5/tengo/v2.ErrStringLimit", "github.com/d5/tengo/v2.MaxStringLen"] (by kernel_rfl) (by kernel_rfl)
theorem fnBooleanAppends_row_tie : Rows.fnBooleanAppendsRow.laidByTextAt .later Edvg.pinned [.called, .data] true :=
  OpenClaim.laidByTextAt_later rfl rfl tie noOwnUnsafe
theorem fnIntegerSpec_row_tie : Rows.fnIntegerSpecRow.laidByTextAt .later Edvg.pinned [.called, .data] true :=
  OpenClaim.laidByTextAt_later rfl rfl tie noOwnUnsafe
theorem fnIntegerRoundTrip_row_tie : Rows.fnIntegerRoundTripRow.laidByTextAt .later Edvg.pinned [.called, .data] true :=
  OpenClaim.laidByTextAt_later rfl rfl tie noOwnUnsafe
theorem fits2 : Edvg.pinned.checked.prog.listedFits [("github.com/d5/tengo/v2.ErrStringLimit", Rows.laid_github_com_d5_tengo_v2_ErrStringLimit), ("github.com/d5/tengo/v2.MaxStringLen", Rows.laid_github_com_d5_tengo_v2_MaxStringLen), ("strconv.isNotPrint16", Rows.laid_strconv_isNotPrint16), ("strconv.isNotPrint32", Rows.laid_strconv_isNotPrint32), ("strconv.isPrint16", Rows.laid_strconv_isPrint16), ("strconv.isPrint32", Rows.laid_strconv_isPrint32)] = true := by
  unfold Program.listedFits
  rw [noOwnUnsafe]
  kernel_rfl
theorem tie2 : Edvg.prog.laidByTextLater [("github.com/d5/tengo/v2.ErrStringLimit", Rows.laid_github_com_d5_tengo_v2_ErrStringLimit), ("github.com/d5/tengo/v2.MaxStringLen", Rows.laid_github_com_d5_tengo_v2_MaxStringLen)] [.called, .data] true :=
  Program.laidByTextLater.sub seatTie1 ["github.com/d5/tengo/v2.ErrStringLimit", "github.com/d5/tengo/v2.MaxStringLen"] (by kernel_rfl) (by kernel_rfl)
theorem fnUnicodeSpec_row_tie : Rows.fnUnicodeSpecRow.laidByTextAt .later Edvg.pinned [.called, .data, .pinned, .pinned, .pinned, .pinned] true :=
  OpenClaim.laidByTextAt_pinned rfl rfl tie2 rfl rfl rfl rfl (fun y hy _e => by
    simp only [Rows.fnUnicodeSpecRow, List.zip_cons_cons, List.zip_nil_right, List.mem_cons, List.mem_nil_iff, or_false] at hy
    rcases hy with rfl | rfl | rfl | rfl | rfl | rfl
    · cases _e
    · cases _e
    · exact ⟨pin_laid_strconv_isNotPrint16, by kernel_rfl⟩
    · exact ⟨pin_laid_strconv_isNotPrint32, by kernel_rfl⟩
    · exact ⟨pin_laid_strconv_isPrint16, by kernel_rfl⟩
    · exact ⟨pin_laid_strconv_isPrint32, by kernel_rfl⟩) fits2
theorem fnUnicodeAgreesWithHexInteger_row_tie : Rows.fnUnicodeAgreesWithHexIntegerRow.laidByTextAt .later Edvg.pinned [.called, .data, .pinned, .pinned, .pinned, .pinned] true :=
  OpenClaim.laidByTextAt_pinned rfl rfl tie2 rfl rfl rfl rfl (fun y hy _e => by
    simp only [Rows.fnUnicodeAgreesWithHexIntegerRow, List.zip_cons_cons, List.zip_nil_right, List.mem_cons, List.mem_nil_iff, or_false] at hy
    rcases hy with rfl | rfl | rfl | rfl | rfl | rfl
    · cases _e
    · cases _e
    · exact ⟨pin_laid_strconv_isNotPrint16, by kernel_rfl⟩
    · exact ⟨pin_laid_strconv_isNotPrint32, by kernel_rfl⟩
    · exact ⟨pin_laid_strconv_isPrint16, by kernel_rfl⟩
    · exact ⟨pin_laid_strconv_isPrint32, by kernel_rfl⟩) fits2
end Go.Proofs.YoedvwDoor
