/-
  No cell of these rows narrows 'for every input' (looked for: loops, veiled, ifaces, maps, wideKeys, modest, calm, conditions, laid).
  DERIVED. THE GIVEN ROWS OF THIS SEAT. 5 by the template 'for every input the law returns true; each argument reads behind the call as it read before'; 0 by the template 'total and deterministic' (their statements: Qxb6603143aTotals.lean).
  GIVEN WITH THE SEED: the statements are not yours to turn. If you find one false, say at which input.
  Laid BY PROGRAM, IN A SANDBOX (cutbox-rows.mjs): the forced cells as the released guide's own fill.sh prints them over the translation dc7838fb8d49ffdc… (all of the seat's roots in one cut). By AI agents, Wed Nov 11 2026. No macro, syntax, notation, axiom, sorry.
-/
import Derived.Test.Qxb6603143aChecked
import GoSem.Claim
import GoSem.ClaimJoined
import GoSem.ClaimMapViews
import Derived.JoinedTies
import Derived.KernelRfl
namespace Go.Proofs.Qxb6603143a
/- THE CELL 'sum', in the pinned program and in every row, IS THE sha256 OF THE DUMP (.gsa) THAT Qxb6603143aProg.lean LOADS. Nothing in Lean hashes anything: it is a label: what it is worth is what the hold of that sum in a sandbox is worth. -/
noncomputable def Try.pinned : Pinned := { name := "qxb6603143a", sum := "dc7838fb8d49ffdce687e9b45d7189ea9c0dd2941e0d836b20ed559316db277b", checked := Try.checked }
namespace Rows
def none {H : Type} : Left H := { results := [], args := [] }

/-- 'zzlaws_internal_server_b1.FnCanonicalNameIsFixedPointOfCanonicalForm': WHATEVER THE INPUT: true; the input reads as it did. -/
def fnCanonicalNameIsFixedPointOfCanonicalFormSpec : ChangeSpec := { name := "fnCanonicalNameIsFixedPointOfCanonicalForm", fn := fun _ => fun
  | [d] => { results := [.lit (.bool true)], args := [d] }
  | _ => none }
def fnCanonicalNameIsFixedPointOfCanonicalFormRow : OpenClaim := { program := "qxb6603143a", sum := "dc7838fb8d49ffdce687e9b45d7189ea9c0dd2941e0d836b20ed559316db277b", func := "example.com/gunwale/gunwale/zzlaws_internal_server_b1.FnCanonicalNameIsFixedPointOfCanonicalForm", spec := "fnCanonicalNameIsFixedPointOfCanonicalForm", apart := false }
def FnCanonicalNameIsFixedPointOfCanonicalFormSaid : Prop := fnCanonicalNameIsFixedPointOfCanonicalFormRow.holds Try.pinned (OpenSpec.ofChange fnCanonicalNameIsFixedPointOfCanonicalFormSpec)

/-- ITS FALSE NEIGHBOUR: 'it returns false'. Refute it at one input. -/
def fnCanonicalNameIsFixedPointOfCanonicalFormWrong : ChangeSpec := { name := "fnCanonicalNameIsFixedPointOfCanonicalForm", fn := fun _ => fun
  | [d] => { results := [.lit (.bool false)], args := [d] }
  | _ => none }
def FnCanonicalNameIsFixedPointOfCanonicalFormWrongFalsely : Prop := fnCanonicalNameIsFixedPointOfCanonicalFormRow.holds Try.pinned (OpenSpec.ofChange fnCanonicalNameIsFixedPointOfCanonicalFormWrong)

/-- 'zzlaws_internal_server_b1.FnCanonicalNameAcceptsEveryCanonicalisedToken': WHATEVER THE INPUT: true; the input reads as it did. -/
def fnCanonicalNameAcceptsEveryCanonicalisedTokenSpec : ChangeSpec := { name := "fnCanonicalNameAcceptsEveryCanonicalisedToken", fn := fun _ => fun
  | [d] => { results := [.lit (.bool true)], args := [d] }
  | _ => none }
def fnCanonicalNameAcceptsEveryCanonicalisedTokenRow : OpenClaim := { program := "qxb6603143a", sum := "dc7838fb8d49ffdce687e9b45d7189ea9c0dd2941e0d836b20ed559316db277b", func := "example.com/gunwale/gunwale/zzlaws_internal_server_b1.FnCanonicalNameAcceptsEveryCanonicalisedToken", spec := "fnCanonicalNameAcceptsEveryCanonicalisedToken", apart := false }
def FnCanonicalNameAcceptsEveryCanonicalisedTokenSaid : Prop := fnCanonicalNameAcceptsEveryCanonicalisedTokenRow.holds Try.pinned (OpenSpec.ofChange fnCanonicalNameAcceptsEveryCanonicalisedTokenSpec)

/-- ITS FALSE NEIGHBOUR: 'it returns false'. Refute it at one input. -/
def fnCanonicalNameAcceptsEveryCanonicalisedTokenWrong : ChangeSpec := { name := "fnCanonicalNameAcceptsEveryCanonicalisedToken", fn := fun _ => fun
  | [d] => { results := [.lit (.bool false)], args := [d] }
  | _ => none }
def FnCanonicalNameAcceptsEveryCanonicalisedTokenWrongFalsely : Prop := fnCanonicalNameAcceptsEveryCanonicalisedTokenRow.holds Try.pinned (OpenSpec.ofChange fnCanonicalNameAcceptsEveryCanonicalisedTokenWrong)

/-- 'zzlaws_internal_server_b1.FnCanonicalNameSplitsAtHyphen': WHATEVER THE INPUT: true; the input reads as it did. -/
def fnCanonicalNameSplitsAtHyphenSpec : ChangeSpec := { name := "fnCanonicalNameSplitsAtHyphen", fn := fun _ => fun
  | [d1, d2] => { results := [.lit (.bool true)], args := [d1, d2] }
  | _ => none }
def fnCanonicalNameSplitsAtHyphenRow : OpenClaim := { program := "qxb6603143a", sum := "dc7838fb8d49ffdce687e9b45d7189ea9c0dd2941e0d836b20ed559316db277b", func := "example.com/gunwale/gunwale/zzlaws_internal_server_b1.FnCanonicalNameSplitsAtHyphen", spec := "fnCanonicalNameSplitsAtHyphen", apart := false }
def FnCanonicalNameSplitsAtHyphenSaid : Prop := fnCanonicalNameSplitsAtHyphenRow.holds Try.pinned (OpenSpec.ofChange fnCanonicalNameSplitsAtHyphenSpec)

/-- ITS FALSE NEIGHBOUR: 'it returns false'. Refute it at one input. -/
def fnCanonicalNameSplitsAtHyphenWrong : ChangeSpec := { name := "fnCanonicalNameSplitsAtHyphen", fn := fun _ => fun
  | [d1, d2] => { results := [.lit (.bool false)], args := [d1, d2] }
  | _ => none }
def FnCanonicalNameSplitsAtHyphenWrongFalsely : Prop := fnCanonicalNameSplitsAtHyphenRow.holds Try.pinned (OpenSpec.ofChange fnCanonicalNameSplitsAtHyphenWrong)

/-- 'zzlaws_internal_server_b1.FnDigitsAgainstHalvingModel': WHATEVER THE INPUT: true; the input reads as it did. -/
def fnDigitsAgainstHalvingModelSpec : ChangeSpec := { name := "fnDigitsAgainstHalvingModel", fn := fun _ => fun
  | [d] => { results := [.lit (.bool true)], args := [d] }
  | _ => none }
def fnDigitsAgainstHalvingModelRow : OpenClaim := { program := "qxb6603143a", sum := "dc7838fb8d49ffdce687e9b45d7189ea9c0dd2941e0d836b20ed559316db277b", func := "example.com/gunwale/gunwale/zzlaws_internal_server_b1.FnDigitsAgainstHalvingModel", spec := "fnDigitsAgainstHalvingModel", recurses := true, apart := false }
def FnDigitsAgainstHalvingModelSaid : Prop := fnDigitsAgainstHalvingModelRow.holds Try.pinned (OpenSpec.ofChange fnDigitsAgainstHalvingModelSpec)

/-- ITS FALSE NEIGHBOUR: 'it returns false'. Refute it at one input. -/
def fnDigitsAgainstHalvingModelWrong : ChangeSpec := { name := "fnDigitsAgainstHalvingModel", fn := fun _ => fun
  | [d] => { results := [.lit (.bool false)], args := [d] }
  | _ => none }
def FnDigitsAgainstHalvingModelWrongFalsely : Prop := fnDigitsAgainstHalvingModelRow.holds Try.pinned (OpenSpec.ofChange fnDigitsAgainstHalvingModelWrong)

/-- 'zzlaws_internal_server_b1.FnDigitsOfConcatenation': WHATEVER THE INPUT: true; the input reads as it did. -/
def fnDigitsOfConcatenationSpec : ChangeSpec := { name := "fnDigitsOfConcatenation", fn := fun _ => fun
  | [d1, d2] => { results := [.lit (.bool true)], args := [d1, d2] }
  | _ => none }
def fnDigitsOfConcatenationRow : OpenClaim := { program := "qxb6603143a", sum := "dc7838fb8d49ffdce687e9b45d7189ea9c0dd2941e0d836b20ed559316db277b", func := "example.com/gunwale/gunwale/zzlaws_internal_server_b1.FnDigitsOfConcatenation", spec := "fnDigitsOfConcatenation", apart := false }
def FnDigitsOfConcatenationSaid : Prop := fnDigitsOfConcatenationRow.holds Try.pinned (OpenSpec.ofChange fnDigitsOfConcatenationSpec)

/-- ITS FALSE NEIGHBOUR: 'it returns false'. Refute it at one input. -/
def fnDigitsOfConcatenationWrong : ChangeSpec := { name := "fnDigitsOfConcatenation", fn := fun _ => fun
  | [d1, d2] => { results := [.lit (.bool false)], args := [d1, d2] }
  | _ => none }
def FnDigitsOfConcatenationWrongFalsely : Prop := fnDigitsOfConcatenationRow.holds Try.pinned (OpenSpec.ofChange fnDigitsOfConcatenationWrong)

end Rows
end Go.Proofs.Qxb6603143a
