/-
  No cell of these rows narrows 'for every input' (looked for: loops, veiled, ifaces, maps, wideKeys, modest, calm, conditions, laid).
  DERIVED. THE GIVEN ROWS OF THIS SEAT. 3 by the template 'for every input the law returns true; each argument reads behind the call as it read before'; 0 by the template 'total and deterministic' (their statements: Qxb6603246aTotals.lean).
  GIVEN WITH THE SEED: the statements are not yours to turn. If you find one false, say at which input.
  Laid BY PROGRAM, IN A SANDBOX (cutbox-rows.mjs): the forced cells as the released guide's own fill.sh prints them over the translation cb33b0f5804abce5… (all of the seat's roots in one cut). By AI agents, Wed Nov 11 2026. No macro, syntax, notation, axiom, sorry.
-/
import Derived.Test.Qxb6603246aChecked
import GoSem.Claim
import GoSem.ClaimJoined
import GoSem.ClaimMapViews
import Derived.JoinedTies
import Derived.KernelRfl
namespace Go.Proofs.Qxb6603246a
/- THE CELL 'sum', in the pinned program and in every row, IS THE sha256 OF THE DUMP (.gsa) THAT Qxb6603246aProg.lean LOADS. Nothing in Lean hashes anything: it is a label: what it is worth is what the hold of that sum in a sandbox is worth. -/
noncomputable def Try.pinned : Pinned := { name := "qxb6603246a", sum := "cb33b0f5804abce580c9ccc9a32488fc2c1b09305dcf29b89f2e04621536b3d9", checked := Try.checked }
namespace Rows
def none {H : Type} : Left H := { results := [], args := [] }

/-- 'zzlaws_internal_yamldoc_b1.FnRepeatedTextFindsFirstRepeat': WHATEVER THE INPUT: true; the input reads as it did. -/
def fnRepeatedTextFindsFirstRepeatSpec : ChangeSpec := { name := "fnRepeatedTextFindsFirstRepeat", fn := fun _ => fun
  | [d1, d2] => { results := [.lit (.bool true)], args := [d1, d2] }
  | _ => none }
def fnRepeatedTextFindsFirstRepeatRow : OpenClaim := { program := "qxb6603246a", sum := "cb33b0f5804abce580c9ccc9a32488fc2c1b09305dcf29b89f2e04621536b3d9", func := "example.com/wary-rules/wary-rules/zzlaws_internal_yamldoc_b1.FnRepeatedTextFindsFirstRepeat", spec := "fnRepeatedTextFindsFirstRepeat", plainKeys := false, apart := false }
def FnRepeatedTextFindsFirstRepeatSaid : Prop := fnRepeatedTextFindsFirstRepeatRow.holds Try.pinned (OpenSpec.ofChange fnRepeatedTextFindsFirstRepeatSpec)

/-- ITS FALSE NEIGHBOUR: 'it returns false'. Refute it at one input. -/
def fnRepeatedTextFindsFirstRepeatWrong : ChangeSpec := { name := "fnRepeatedTextFindsFirstRepeat", fn := fun _ => fun
  | [d1, d2] => { results := [.lit (.bool false)], args := [d1, d2] }
  | _ => none }
def FnRepeatedTextFindsFirstRepeatWrongFalsely : Prop := fnRepeatedTextFindsFirstRepeatRow.holds Try.pinned (OpenSpec.ofChange fnRepeatedTextFindsFirstRepeatWrong)

/-- 'zzlaws_internal_yamldoc_b1.FnOwnKeysSplit': WHATEVER THE INPUT: true; the input reads as it did. -/
def fnOwnKeysSplitSpec : ChangeSpec := { name := "fnOwnKeysSplit", fn := fun _ => fun
  | [d1, d2] => { results := [.lit (.bool true)], args := [d1, d2] }
  | _ => none }
def fnOwnKeysSplitRow : OpenClaim := { program := "qxb6603246a", sum := "cb33b0f5804abce580c9ccc9a32488fc2c1b09305dcf29b89f2e04621536b3d9", func := "example.com/wary-rules/wary-rules/zzlaws_internal_yamldoc_b1.FnOwnKeysSplit", spec := "fnOwnKeysSplit", plainKeys := false, apart := false }
def FnOwnKeysSplitSaid : Prop := fnOwnKeysSplitRow.holds Try.pinned (OpenSpec.ofChange fnOwnKeysSplitSpec)

/-- ITS FALSE NEIGHBOUR: 'it returns false'. Refute it at one input. -/
def fnOwnKeysSplitWrong : ChangeSpec := { name := "fnOwnKeysSplit", fn := fun _ => fun
  | [d1, d2] => { results := [.lit (.bool false)], args := [d1, d2] }
  | _ => none }
def FnOwnKeysSplitWrongFalsely : Prop := fnOwnKeysSplitRow.holds Try.pinned (OpenSpec.ofChange fnOwnKeysSplitWrong)

/-- 'zzlaws_internal_yamldoc_b1.FnMergeableSequenceSplit': WHATEVER THE INPUT: true; the input reads as it did. -/
def fnMergeableSequenceSplitSpec : ChangeSpec := { name := "fnMergeableSequenceSplit", fn := fun _ => fun
  | [d1, d2] => { results := [.lit (.bool true)], args := [d1, d2] }
  | _ => none }
def fnMergeableSequenceSplitRow : OpenClaim := { program := "qxb6603246a", sum := "cb33b0f5804abce580c9ccc9a32488fc2c1b09305dcf29b89f2e04621536b3d9", func := "example.com/wary-rules/wary-rules/zzlaws_internal_yamldoc_b1.FnMergeableSequenceSplit", spec := "fnMergeableSequenceSplit", plainKeys := false, apart := false }
def FnMergeableSequenceSplitSaid : Prop := fnMergeableSequenceSplitRow.holds Try.pinned (OpenSpec.ofChange fnMergeableSequenceSplitSpec)

/-- ITS FALSE NEIGHBOUR: 'it returns false'. Refute it at one input. -/
def fnMergeableSequenceSplitWrong : ChangeSpec := { name := "fnMergeableSequenceSplit", fn := fun _ => fun
  | [d1, d2] => { results := [.lit (.bool false)], args := [d1, d2] }
  | _ => none }
def FnMergeableSequenceSplitWrongFalsely : Prop := fnMergeableSequenceSplitRow.holds Try.pinned (OpenSpec.ofChange fnMergeableSequenceSplitWrong)

end Rows
end Go.Proofs.Qxb6603246a
