/-
  No cell of these rows narrows 'for every input' (looked for: loops, veiled, ifaces, maps, wideKeys, modest, calm, conditions, laid).
  DERIVED. THE GIVEN ROWS OF THIS SEAT. 4 by the template 'for every input the law returns true; each argument reads behind the call as it read before'; 0 by the template 'total and deterministic' (their statements: Qxb6603187aTotals.lean).
  GIVEN WITH THE SEED: the statements are not yours to turn. If you find one false, say at which input.
  Laid BY PROGRAM, IN A SANDBOX (cutbox-rows.mjs): the forced cells as the released guide's own fill.sh prints them over the translation 60ce7a9a92f68931… (all of the seat's roots in one cut). By AI agents, Wed Nov 11 2026. No macro, syntax, notation, axiom, sorry.
-/
import Derived.Test.Qxb6603187aChecked
import GoSem.Claim
import GoSem.ClaimJoined
import GoSem.ClaimMapViews
import Derived.JoinedTies
import Derived.KernelRfl
namespace Go.Proofs.Qxb6603187a
/- THE CELL 'sum', in the pinned program and in every row, IS THE sha256 OF THE DUMP (.gsa) THAT Qxb6603187aProg.lean LOADS. Nothing in Lean hashes anything: it is a label: what it is worth is what the hold of that sum in a sandbox is worth. -/
noncomputable def Try.pinned : Pinned := { name := "qxb6603187a", sum := "60ce7a9a92f689317eb5a075c5bd43d25106bf2ce861f3f558ef1ca2441dbe8b", checked := Try.checked }
namespace Rows
def none {H : Type} : Left H := { results := [], args := [] }

/-- 'zzlaws_root_b1.FnConcatOfRoundTrip': WHATEVER THE INPUT: true; the input reads as it did. -/
def fnConcatOfRoundTripSpec : ChangeSpec := { name := "fnConcatOfRoundTrip", fn := fun _ => fun
  | [d1, d2, d3, d4] => { results := [.lit (.bool true)], args := [d1, d2, d3, d4] }
  | _ => none }
def fnConcatOfRoundTripRow : OpenClaim := { program := "qxb6603187a", sum := "60ce7a9a92f689317eb5a075c5bd43d25106bf2ce861f3f558ef1ca2441dbe8b", func := "example.com/septwise/septwise/zzlaws_root_b1.FnConcatOfRoundTrip", spec := "fnConcatOfRoundTrip", apart := false }
def FnConcatOfRoundTripSaid : Prop := fnConcatOfRoundTripRow.holds Try.pinned (OpenSpec.ofChange fnConcatOfRoundTripSpec)

/-- ITS FALSE NEIGHBOUR: 'it returns false'. Refute it at one input. -/
def fnConcatOfRoundTripWrong : ChangeSpec := { name := "fnConcatOfRoundTrip", fn := fun _ => fun
  | [d1, d2, d3, d4] => { results := [.lit (.bool false)], args := [d1, d2, d3, d4] }
  | _ => none }
def FnConcatOfRoundTripWrongFalsely : Prop := fnConcatOfRoundTripRow.holds Try.pinned (OpenSpec.ofChange fnConcatOfRoundTripWrong)

/-- 'zzlaws_root_b1.FnAppendAddressDecodesBack': WHATEVER THE INPUT: true; the input reads as it did. -/
def fnAppendAddressDecodesBackSpec : ChangeSpec := { name := "fnAppendAddressDecodesBack", fn := fun _ => fun
  | [d1, d2, d3] => { results := [.lit (.bool true)], args := [d1, d2, d3] }
  | _ => none }
def fnAppendAddressDecodesBackRow : OpenClaim := { program := "qxb6603187a", sum := "60ce7a9a92f689317eb5a075c5bd43d25106bf2ce861f3f558ef1ca2441dbe8b", func := "example.com/septwise/septwise/zzlaws_root_b1.FnAppendAddressDecodesBack", spec := "fnAppendAddressDecodesBack", apart := false }
def FnAppendAddressDecodesBackSaid : Prop := fnAppendAddressDecodesBackRow.holds Try.pinned (OpenSpec.ofChange fnAppendAddressDecodesBackSpec)

/-- ITS FALSE NEIGHBOUR: 'it returns false'. Refute it at one input. -/
def fnAppendAddressDecodesBackWrong : ChangeSpec := { name := "fnAppendAddressDecodesBack", fn := fun _ => fun
  | [d1, d2, d3] => { results := [.lit (.bool false)], args := [d1, d2, d3] }
  | _ => none }
def FnAppendAddressDecodesBackWrongFalsely : Prop := fnAppendAddressDecodesBackRow.holds Try.pinned (OpenSpec.ofChange fnAppendAddressDecodesBackWrong)

/-- 'zzlaws_root_b1.FnUnitsInExactFit': WHATEVER THE INPUT: true; the input reads as it did. -/
def fnUnitsInExactFitSpec : ChangeSpec := { name := "fnUnitsInExactFit", fn := fun _ => fun
  | [d1, d2] => { results := [.lit (.bool true)], args := [d1, d2] }
  | _ => none }
def fnUnitsInExactFitRow : OpenClaim := { program := "qxb6603187a", sum := "60ce7a9a92f689317eb5a075c5bd43d25106bf2ce861f3f558ef1ca2441dbe8b", func := "example.com/septwise/septwise/zzlaws_root_b1.FnUnitsInExactFit", spec := "fnUnitsInExactFit", apart := false }
def FnUnitsInExactFitSaid : Prop := fnUnitsInExactFitRow.holds Try.pinned (OpenSpec.ofChange fnUnitsInExactFitSpec)

/-- ITS FALSE NEIGHBOUR: 'it returns false'. Refute it at one input. -/
def fnUnitsInExactFitWrong : ChangeSpec := { name := "fnUnitsInExactFit", fn := fun _ => fun
  | [d1, d2] => { results := [.lit (.bool false)], args := [d1, d2] }
  | _ => none }
def FnUnitsInExactFitWrongFalsely : Prop := fnUnitsInExactFitRow.holds Try.pinned (OpenSpec.ofChange fnUnitsInExactFitWrong)

/-- 'zzlaws_root_b1.FnUnitsInMonotone': WHATEVER THE INPUT: true; the input reads as it did. -/
def fnUnitsInMonotoneSpec : ChangeSpec := { name := "fnUnitsInMonotone", fn := fun _ => fun
  | [d1, d2, d3] => { results := [.lit (.bool true)], args := [d1, d2, d3] }
  | _ => none }
def fnUnitsInMonotoneRow : OpenClaim := { program := "qxb6603187a", sum := "60ce7a9a92f689317eb5a075c5bd43d25106bf2ce861f3f558ef1ca2441dbe8b", func := "example.com/septwise/septwise/zzlaws_root_b1.FnUnitsInMonotone", spec := "fnUnitsInMonotone", apart := false }
def FnUnitsInMonotoneSaid : Prop := fnUnitsInMonotoneRow.holds Try.pinned (OpenSpec.ofChange fnUnitsInMonotoneSpec)

/-- ITS FALSE NEIGHBOUR: 'it returns false'. Refute it at one input. -/
def fnUnitsInMonotoneWrong : ChangeSpec := { name := "fnUnitsInMonotone", fn := fun _ => fun
  | [d1, d2, d3] => { results := [.lit (.bool false)], args := [d1, d2, d3] }
  | _ => none }
def FnUnitsInMonotoneWrongFalsely : Prop := fnUnitsInMonotoneRow.holds Try.pinned (OpenSpec.ofChange fnUnitsInMonotoneWrong)

end Rows
end Go.Proofs.Qxb6603187a
