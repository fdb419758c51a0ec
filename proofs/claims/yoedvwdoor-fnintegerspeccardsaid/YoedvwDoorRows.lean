/-
  NARROWER THAN 'FOR EVERY INPUT', by the rows' own cells (each row's printed sentence says how): FnBooleanAppends: ifaces, laid · FnUnicodeSpec: ifaces, laid · FnUnicodeAgreesWithHexInteger: ifaces, laid · FnIntegerSpec: ifaces, laid · FnIntegerRoundTrip: ifaces, laid.
  DERIVED. THE GIVEN ROWS OF THIS SEAT. 5 by the template 'for every input the law returns true; each argument reads behind the call as it read before'; 0 by the template 'total and deterministic' (their statements: YoedvwDoorTotals.lean).
  GIVEN WITH THE SEED: the statements are not yours to turn. If you find one false, say at which input.
  Laid BY PROGRAM, IN A SANDBOX (cutbox-rows.mjs): the forced cells as the released guide's own fill.sh prints them over the translation f0767ffb01e41ef9… (all of the seat's roots in one cut). By AI agents, Wed Nov 11 2026. No macro, syntax, notation, axiom, sorry.
-/
import Derived.Test.YoedvwDoorChecked
import GoSem.PinnedTables
import GoSem.Claim
import GoSem.ClaimJoined
import GoSem.ClaimMapViews
import Derived.JoinedTies
import Derived.KernelRfl
namespace Go.Proofs.YoedvwDoor
/- THE CELL 'sum', in the pinned program and in every row, IS THE sha256 OF THE DUMP (.gsa) THAT YoedvwDoorProg.lean LOADS. Nothing in Lean hashes anything: it is a label: what it is worth is what the hold of that sum in a sandbox is worth. -/
noncomputable def Edvg.pinned : Pinned := { name := "yoedvwdoor", sum := "f0767ffb01e41ef9087fcda8ea6811987d39c99591d584e6a3f2af1f3a291e4b", checked := Edvg.checked }
namespace Rows
def none {H : Type} : Left H := { results := [], args := [] }

/- WHAT THE LISTED PACKAGE-LEVEL VARIABLES READ AS WHEN THE CALL BEGINS. Each datum BY PROGRAM (the guide's laid-datum.mjs) off the statement by which the dump's own 'gosem.cut.vars' lays the variable. In a bare row this is a premise. The card (YoedvwDoorCards.lean) ties it to the program's text. -/
def laid_github_com_d5_tengo_v2_ErrStringLimit {H : Type} : DataW H := .iface "*errors.errorString" (.ptr (.agg [.lit (.string [101, 120, 99, 101, 101, 100, 105, 110, 103, 32, 115, 116, 114, 105, 110, 103, 32, 115, 105, 122, 101, 32, 108, 105, 109, 105, 116])]))
def laid_github_com_d5_tengo_v2_MaxStringLen {H : Type} : DataW H := .lit (.int .i64 2147483647)
/-- One of Go's own tables, pinned by name: the form's constant. -/
def laid_strconv_isNotPrint16 : DataW Unit := Go.Pinned.isNotPrint16
/-- One of Go's own tables, pinned by name: the form's constant. -/
def laid_strconv_isNotPrint32 : DataW Unit := Go.Pinned.isNotPrint32
/-- One of Go's own tables, pinned by name: the form's constant. -/
def laid_strconv_isPrint16 : DataW Unit := Go.Pinned.isPrint16
/-- One of Go's own tables, pinned by name: the form's constant. -/
def laid_strconv_isPrint32 : DataW Unit := Go.Pinned.isPrint32

/-- 'zzlaws_root_b2.FnBooleanAppends': WHATEVER THE INPUT: true; the input reads as it did. -/
def fnBooleanAppendsSpec : ChangeSpec := { name := "fnBooleanAppends", vars := ["github.com/d5/tengo/v2.MaxStringLen", "github.com/d5/tengo/v2.ErrStringLimit"], fn := fun _ => fun
  | [d1, d2, d3, d4, d5, d6, g1, g2] => { results := [.lit (.bool true)], args := [d1, d2, d3, d4, d5, d6], vars := [g1, g2] }
  | _ => none }
def fnBooleanAppendsRow : OpenClaim := { program := "yoedvwdoor", sum := "f0767ffb01e41ef9087fcda8ea6811987d39c99591d584e6a3f2af1f3a291e4b", func := "github.com/d5/tengo/v2/zzlaws_root_b2.FnBooleanAppends", spec := "fnBooleanAppends", named := ["github.com/d5/tengo/v2.MaxStringLen", "github.com/d5/tengo/v2.ErrStringLimit"], ifaces := true, apart := false, laid := [("github.com/d5/tengo/v2.ErrStringLimit", laid_github_com_d5_tengo_v2_ErrStringLimit), ("github.com/d5/tengo/v2.MaxStringLen", laid_github_com_d5_tengo_v2_MaxStringLen)] }
def FnBooleanAppendsSaid : Prop := fnBooleanAppendsRow.holds Edvg.pinned (OpenSpec.ofChange fnBooleanAppendsSpec)

/-- ITS FALSE NEIGHBOUR: 'it returns false'. Refute it at one input. -/
def fnBooleanAppendsWrong : ChangeSpec := { name := "fnBooleanAppends", vars := ["github.com/d5/tengo/v2.MaxStringLen", "github.com/d5/tengo/v2.ErrStringLimit"], fn := fun _ => fun
  | [d1, d2, d3, d4, d5, d6, g1, g2] => { results := [.lit (.bool false)], args := [d1, d2, d3, d4, d5, d6], vars := [g1, g2] }
  | _ => none }
def FnBooleanAppendsWrongFalsely : Prop := fnBooleanAppendsRow.holds Edvg.pinned (OpenSpec.ofChange fnBooleanAppendsWrong)

/-- 'zzlaws_root_b2.FnUnicodeSpec': WHATEVER THE INPUT: true; the input reads as it did. -/
def fnUnicodeSpecSpec : ChangeSpec := { name := "fnUnicodeSpec", vars := ["github.com/d5/tengo/v2.MaxStringLen", "github.com/d5/tengo/v2.ErrStringLimit"], fn := fun _ => fun
  | [d1, d2, d3, d4, d5, d6, d7, d8, d9, d10, g1, g2] => { results := [.lit (.bool true)], args := [d1, d2, d3, d4, d5, d6, d7, d8, d9, d10], vars := [g1, g2] }
  | _ => none }
def fnUnicodeSpecRow : OpenClaim := { program := "yoedvwdoor", sum := "f0767ffb01e41ef9087fcda8ea6811987d39c99591d584e6a3f2af1f3a291e4b", func := "github.com/d5/tengo/v2/zzlaws_root_b2.FnUnicodeSpec", spec := "fnUnicodeSpec", named := ["strconv.isPrint16", "strconv.isNotPrint16", "strconv.isPrint32", "strconv.isNotPrint32", "github.com/d5/tengo/v2.MaxStringLen", "github.com/d5/tengo/v2.ErrStringLimit"], ifaces := true, apart := false, laid := [("github.com/d5/tengo/v2.ErrStringLimit", laid_github_com_d5_tengo_v2_ErrStringLimit), ("github.com/d5/tengo/v2.MaxStringLen", laid_github_com_d5_tengo_v2_MaxStringLen), ("strconv.isNotPrint16", laid_strconv_isNotPrint16), ("strconv.isNotPrint32", laid_strconv_isNotPrint32), ("strconv.isPrint16", laid_strconv_isPrint16), ("strconv.isPrint32", laid_strconv_isPrint32)] }
def FnUnicodeSpecSaid : Prop := fnUnicodeSpecRow.holds Edvg.pinned (OpenSpec.ofChange fnUnicodeSpecSpec)

/-- ITS FALSE NEIGHBOUR: 'it returns false'. Refute it at one input. -/
def fnUnicodeSpecWrong : ChangeSpec := { name := "fnUnicodeSpec", vars := ["github.com/d5/tengo/v2.MaxStringLen", "github.com/d5/tengo/v2.ErrStringLimit"], fn := fun _ => fun
  | [d1, d2, d3, d4, d5, d6, d7, d8, d9, d10, g1, g2] => { results := [.lit (.bool false)], args := [d1, d2, d3, d4, d5, d6, d7, d8, d9, d10], vars := [g1, g2] }
  | _ => none }
def FnUnicodeSpecWrongFalsely : Prop := fnUnicodeSpecRow.holds Edvg.pinned (OpenSpec.ofChange fnUnicodeSpecWrong)

/-- 'zzlaws_root_b2.FnUnicodeAgreesWithHexInteger': WHATEVER THE INPUT: true; the input reads as it did. -/
def fnUnicodeAgreesWithHexIntegerSpec : ChangeSpec := { name := "fnUnicodeAgreesWithHexInteger", vars := ["github.com/d5/tengo/v2.MaxStringLen", "github.com/d5/tengo/v2.ErrStringLimit"], fn := fun _ => fun
  | [d1, d2, d3, d4, d5, d6, g1, g2] => { results := [.lit (.bool true)], args := [d1, d2, d3, d4, d5, d6], vars := [g1, g2] }
  | _ => none }
def fnUnicodeAgreesWithHexIntegerRow : OpenClaim := { program := "yoedvwdoor", sum := "f0767ffb01e41ef9087fcda8ea6811987d39c99591d584e6a3f2af1f3a291e4b", func := "github.com/d5/tengo/v2/zzlaws_root_b2.FnUnicodeAgreesWithHexInteger", spec := "fnUnicodeAgreesWithHexInteger", named := ["strconv.isPrint16", "strconv.isNotPrint16", "strconv.isPrint32", "strconv.isNotPrint32", "github.com/d5/tengo/v2.MaxStringLen", "github.com/d5/tengo/v2.ErrStringLimit"], ifaces := true, apart := false, laid := [("github.com/d5/tengo/v2.ErrStringLimit", laid_github_com_d5_tengo_v2_ErrStringLimit), ("github.com/d5/tengo/v2.MaxStringLen", laid_github_com_d5_tengo_v2_MaxStringLen), ("strconv.isNotPrint16", laid_strconv_isNotPrint16), ("strconv.isNotPrint32", laid_strconv_isNotPrint32), ("strconv.isPrint16", laid_strconv_isPrint16), ("strconv.isPrint32", laid_strconv_isPrint32)] }
def FnUnicodeAgreesWithHexIntegerSaid : Prop := fnUnicodeAgreesWithHexIntegerRow.holds Edvg.pinned (OpenSpec.ofChange fnUnicodeAgreesWithHexIntegerSpec)

/-- ITS FALSE NEIGHBOUR: 'it returns false'. Refute it at one input. -/
def fnUnicodeAgreesWithHexIntegerWrong : ChangeSpec := { name := "fnUnicodeAgreesWithHexInteger", vars := ["github.com/d5/tengo/v2.MaxStringLen", "github.com/d5/tengo/v2.ErrStringLimit"], fn := fun _ => fun
  | [d1, d2, d3, d4, d5, d6, g1, g2] => { results := [.lit (.bool false)], args := [d1, d2, d3, d4, d5, d6], vars := [g1, g2] }
  | _ => none }
def FnUnicodeAgreesWithHexIntegerWrongFalsely : Prop := fnUnicodeAgreesWithHexIntegerRow.holds Edvg.pinned (OpenSpec.ofChange fnUnicodeAgreesWithHexIntegerWrong)

/-- 'zzlaws_root_b2.FnIntegerSpec': WHATEVER THE INPUT: true; the input reads as it did. -/
def fnIntegerSpecSpec : ChangeSpec := { name := "fnIntegerSpec", vars := ["github.com/d5/tengo/v2.MaxStringLen", "github.com/d5/tengo/v2.ErrStringLimit"], fn := fun _ => fun
  | [d1, d2, d3, d4, d5, d6, d7, d8, d9, d10, g1, g2] => { results := [.lit (.bool true)], args := [d1, d2, d3, d4, d5, d6, d7, d8, d9, d10], vars := [g1, g2] }
  | _ => none }
def fnIntegerSpecRow : OpenClaim := { program := "yoedvwdoor", sum := "f0767ffb01e41ef9087fcda8ea6811987d39c99591d584e6a3f2af1f3a291e4b", func := "github.com/d5/tengo/v2/zzlaws_root_b2.FnIntegerSpec", spec := "fnIntegerSpec", named := ["github.com/d5/tengo/v2.MaxStringLen", "github.com/d5/tengo/v2.ErrStringLimit"], ifaces := true, apart := false, laid := [("github.com/d5/tengo/v2.ErrStringLimit", laid_github_com_d5_tengo_v2_ErrStringLimit), ("github.com/d5/tengo/v2.MaxStringLen", laid_github_com_d5_tengo_v2_MaxStringLen)] }
def FnIntegerSpecSaid : Prop := fnIntegerSpecRow.holds Edvg.pinned (OpenSpec.ofChange fnIntegerSpecSpec)

/-- ITS FALSE NEIGHBOUR: 'it returns false'. Refute it at one input. -/
def fnIntegerSpecWrong : ChangeSpec := { name := "fnIntegerSpec", vars := ["github.com/d5/tengo/v2.MaxStringLen", "github.com/d5/tengo/v2.ErrStringLimit"], fn := fun _ => fun
  | [d1, d2, d3, d4, d5, d6, d7, d8, d9, d10, g1, g2] => { results := [.lit (.bool false)], args := [d1, d2, d3, d4, d5, d6, d7, d8, d9, d10], vars := [g1, g2] }
  | _ => none }
def FnIntegerSpecWrongFalsely : Prop := fnIntegerSpecRow.holds Edvg.pinned (OpenSpec.ofChange fnIntegerSpecWrong)

/-- 'zzlaws_root_b2.FnIntegerRoundTrip': WHATEVER THE INPUT: true; the input reads as it did. -/
def fnIntegerRoundTripSpec : ChangeSpec := { name := "fnIntegerRoundTrip", vars := ["github.com/d5/tengo/v2.MaxStringLen", "github.com/d5/tengo/v2.ErrStringLimit"], fn := fun _ => fun
  | [d1, d2, d3, d4, d5, d6, g1, g2] => { results := [.lit (.bool true)], args := [d1, d2, d3, d4, d5, d6], vars := [g1, g2] }
  | _ => none }
def fnIntegerRoundTripRow : OpenClaim := { program := "yoedvwdoor", sum := "f0767ffb01e41ef9087fcda8ea6811987d39c99591d584e6a3f2af1f3a291e4b", func := "github.com/d5/tengo/v2/zzlaws_root_b2.FnIntegerRoundTrip", spec := "fnIntegerRoundTrip", named := ["github.com/d5/tengo/v2.MaxStringLen", "github.com/d5/tengo/v2.ErrStringLimit"], ifaces := true, apart := false, laid := [("github.com/d5/tengo/v2.ErrStringLimit", laid_github_com_d5_tengo_v2_ErrStringLimit), ("github.com/d5/tengo/v2.MaxStringLen", laid_github_com_d5_tengo_v2_MaxStringLen)] }
def FnIntegerRoundTripSaid : Prop := fnIntegerRoundTripRow.holds Edvg.pinned (OpenSpec.ofChange fnIntegerRoundTripSpec)

/-- ITS FALSE NEIGHBOUR: 'it returns false'. Refute it at one input. -/
def fnIntegerRoundTripWrong : ChangeSpec := { name := "fnIntegerRoundTrip", vars := ["github.com/d5/tengo/v2.MaxStringLen", "github.com/d5/tengo/v2.ErrStringLimit"], fn := fun _ => fun
  | [d1, d2, d3, d4, d5, d6, g1, g2] => { results := [.lit (.bool false)], args := [d1, d2, d3, d4, d5, d6], vars := [g1, g2] }
  | _ => none }
def FnIntegerRoundTripWrongFalsely : Prop := fnIntegerRoundTripRow.holds Edvg.pinned (OpenSpec.ofChange fnIntegerRoundTripWrong)

end Rows
end Go.Proofs.YoedvwDoor
