/-
  No cell of these rows narrows 'for every input' (looked for: loops, veiled, ifaces, maps, wideKeys, modest, calm, conditions, laid).
  DERIVED. THE GIVEN ROWS OF THIS SEAT. 2 by the template 'for every input the law returns true; each argument reads behind the call as it read before'; 0 by the template 'total and deterministic' (their statements: YoedvwTotals.lean).
  GIVEN WITH THE SEED: the statements are not yours to turn. If you find one false, say at which input.
  Laid BY PROGRAM, IN A SANDBOX (cutbox-rows.mjs): the forced cells as the released guide's own fill.sh prints them over the translation d2e253b41bb4633e… (all of the seat's roots in one cut). By AI agents, Wed Nov 11 2026. No macro, syntax, notation, axiom, sorry.
-/
import Derived.Test.YoedvwChecked
import GoSem.Claim
import GoSem.ClaimJoined
import GoSem.ClaimMapViews
import Derived.JoinedTies
import Derived.KernelRfl
namespace Go.Proofs.Yoedvw
/- THE CELL 'sum', in the pinned program and in every row, IS THE sha256 OF THE DUMP (.gsa) THAT YoedvwProg.lean LOADS. Nothing in Lean hashes anything: it is a label: what it is worth is what the hold of that sum in a sandbox is worth. -/
noncomputable def Edvg.pinned : Pinned := { name := "yoedvw", sum := "d2e253b41bb4633eb5196b43fde48da2afdc6a8705920de1797592e4e9b3b7cb", checked := Edvg.checked }
namespace Rows
def none {H : Type} : Left H := { results := [], args := [] }

/-- 'zzlaws_root_b2.FnTruncateSpec': WHATEVER THE INPUT: true; the input reads as it did. -/
def fnTruncateSpecSpec : ChangeSpec := { name := "fnTruncateSpec", fn := fun _ => fun
  | [d1, d2, d3] => { results := [.lit (.bool true)], args := [d1, d2, d3] }
  | _ => none }
def fnTruncateSpecRow : OpenClaim := { program := "yoedvw", sum := "d2e253b41bb4633eb5196b43fde48da2afdc6a8705920de1797592e4e9b3b7cb", func := "github.com/d5/tengo/v2/zzlaws_root_b2.FnTruncateSpec", spec := "fnTruncateSpec", apart := false }
def FnTruncateSpecSaid : Prop := fnTruncateSpecRow.holds Edvg.pinned (OpenSpec.ofChange fnTruncateSpecSpec)

/-- ITS FALSE NEIGHBOUR: 'it returns false'. Refute it at one input. -/
def fnTruncateSpecWrong : ChangeSpec := { name := "fnTruncateSpec", fn := fun _ => fun
  | [d1, d2, d3] => { results := [.lit (.bool false)], args := [d1, d2, d3] }
  | _ => none }
def FnTruncateSpecWrongFalsely : Prop := fnTruncateSpecRow.holds Edvg.pinned (OpenSpec.ofChange fnTruncateSpecWrong)

/-- 'zzlaws_root_b2.FnTruncateNested': WHATEVER THE INPUT: true; the input reads as it did. -/
def fnTruncateNestedSpec : ChangeSpec := { name := "fnTruncateNested", fn := fun _ => fun
  | [d1, d2, d3] => { results := [.lit (.bool true)], args := [d1, d2, d3] }
  | _ => none }
def fnTruncateNestedRow : OpenClaim := { program := "yoedvw", sum := "d2e253b41bb4633eb5196b43fde48da2afdc6a8705920de1797592e4e9b3b7cb", func := "github.com/d5/tengo/v2/zzlaws_root_b2.FnTruncateNested", spec := "fnTruncateNested", apart := false }
def FnTruncateNestedSaid : Prop := fnTruncateNestedRow.holds Edvg.pinned (OpenSpec.ofChange fnTruncateNestedSpec)

/-- ITS FALSE NEIGHBOUR: 'it returns false'. Refute it at one input. -/
def fnTruncateNestedWrong : ChangeSpec := { name := "fnTruncateNested", fn := fun _ => fun
  | [d1, d2, d3] => { results := [.lit (.bool false)], args := [d1, d2, d3] }
  | _ => none }
def FnTruncateNestedWrongFalsely : Prop := fnTruncateNestedRow.holds Edvg.pinned (OpenSpec.ofChange fnTruncateNestedWrong)

end Rows
end Go.Proofs.Yoedvw
