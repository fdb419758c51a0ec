/-
  DERIVED. GIVEN WITH THE SEED: THE CARDS: each row of YoedvwDoorRows.lean that lists a variable, with what it lists TIED to the program's text (the seventh form; the later family's looks); each row that meets fmt, with fmt's text TOLD by the authors' own Lean function (tested against real Go, not proved from fmt's source: count such statements apart). THE CARD IS WHAT COUNTS. Prove the row's statement (the work); the ties are given (YoedvwDoorTie.lean); close each card by the builder's one call (the guide's Derived/Test/ToyasCard.lean, 'card_holds'). Laid BY PROGRAM, IN A SANDBOX (cutbox-door.mjs). By AI agents, Wed Nov 11 2026. No macro, syntax, notation, axiom, sorry.
-/
import Derived.Test.YoedvwDoorRows
import GoSem.ClaimSeven
namespace Go.Proofs.YoedvwDoor
namespace Rows

/-- THE TIED CARD OF 'zzlaws_root_b2.FnBooleanAppends'. -/
def fnBooleanAppendsCard : Claim7 := { stood := { row := fnBooleanAppendsRow, standIns := [], harness := (true, "9f51bcba5e675b5b15e1d8174555e69dc872a3ea518ae2261f93878b6d089ca9"), looks := false }, kinds := [], alts := [], laidByText := true, laidKinds := [.called, .data], laidTests := true, laidLooks := .later }
def FnBooleanAppendsCardSaid : Prop := Claim7.holds Edvg.pinned (.plain (OpenSpec.ofChange fnBooleanAppendsSpec)) fnBooleanAppendsCard

/-- THE TIED CARD OF 'zzlaws_root_b2.FnUnicodeSpec'. -/
def fnUnicodeSpecCard : Claim7 := { stood := { row := fnUnicodeSpecRow, standIns := [], harness := (true, "9f51bcba5e675b5b15e1d8174555e69dc872a3ea518ae2261f93878b6d089ca9"), looks := false }, kinds := [], alts := [], laidByText := true, laidKinds := [.called, .data, .pinned, .pinned, .pinned, .pinned], laidTests := true, laidLooks := .later }
def FnUnicodeSpecCardSaid : Prop := Claim7.holds Edvg.pinned (.plain (OpenSpec.ofChange fnUnicodeSpecSpec)) fnUnicodeSpecCard

/-- THE TIED CARD OF 'zzlaws_root_b2.FnUnicodeAgreesWithHexInteger'. -/
def fnUnicodeAgreesWithHexIntegerCard : Claim7 := { stood := { row := fnUnicodeAgreesWithHexIntegerRow, standIns := [], harness := (true, "9f51bcba5e675b5b15e1d8174555e69dc872a3ea518ae2261f93878b6d089ca9"), looks := false }, kinds := [], alts := [], laidByText := true, laidKinds := [.called, .data, .pinned, .pinned, .pinned, .pinned], laidTests := true, laidLooks := .later }
def FnUnicodeAgreesWithHexIntegerCardSaid : Prop := Claim7.holds Edvg.pinned (.plain (OpenSpec.ofChange fnUnicodeAgreesWithHexIntegerSpec)) fnUnicodeAgreesWithHexIntegerCard

/-- THE TIED CARD OF 'zzlaws_root_b2.FnIntegerSpec'. -/
def fnIntegerSpecCard : Claim7 := { stood := { row := fnIntegerSpecRow, standIns := [], harness := (true, "9f51bcba5e675b5b15e1d8174555e69dc872a3ea518ae2261f93878b6d089ca9"), looks := false }, kinds := [], alts := [], laidByText := true, laidKinds := [.called, .data], laidTests := true, laidLooks := .later }
def FnIntegerSpecCardSaid : Prop := Claim7.holds Edvg.pinned (.plain (OpenSpec.ofChange fnIntegerSpecSpec)) fnIntegerSpecCard

/-- THE TIED CARD OF 'zzlaws_root_b2.FnIntegerRoundTrip'. -/
def fnIntegerRoundTripCard : Claim7 := { stood := { row := fnIntegerRoundTripRow, standIns := [], harness := (true, "9f51bcba5e675b5b15e1d8174555e69dc872a3ea518ae2261f93878b6d089ca9"), looks := false }, kinds := [], alts := [], laidByText := true, laidKinds := [.called, .data], laidTests := true, laidLooks := .later }
def FnIntegerRoundTripCardSaid : Prop := Claim7.holds Edvg.pinned (.plain (OpenSpec.ofChange fnIntegerRoundTripSpec)) fnIntegerRoundTripCard
end Rows
end Go.Proofs.YoedvwDoor
