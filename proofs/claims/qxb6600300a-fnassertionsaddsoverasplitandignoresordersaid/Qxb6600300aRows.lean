/-
  No cell of these rows narrows 'for every input' (looked for: loops, veiled, ifaces, maps, wideKeys, modest, calm, conditions, laid).
  DERIVED. THE GIVEN ROWS OF THIS SEAT. 4 by the template 'for every input the law returns true; each argument reads behind the call as it read before'; 0 by the template 'total and deterministic' (their statements: Qxb6600300aTotals.lean).
  GIVEN WITH THE SEED: the statements are not yours to turn. If you find one false, say at which input.
  Laid BY PROGRAM, IN A SANDBOX (cutbox-rows.mjs): the forced cells as the released guide's own fill.sh prints them over the translation 1f899d17af9107c4… (all of the seat's roots in one cut). By AI agents, Wed Nov 11 2026. No macro, syntax, notation, axiom, sorry.
-/
import Derived.Test.Qxb6600300aChecked
import GoSem.Claim
import GoSem.ClaimJoined
import GoSem.ClaimMapViews
import Derived.JoinedTies
import Derived.KernelRfl
namespace Go.Proofs.Qxb6600300a
/- THE CELL 'sum', in the pinned program and in every row, IS THE sha256 OF THE DUMP (.gsa) THAT Qxb6600300aProg.lean LOADS. Nothing in Lean hashes anything: it is a label: what it is worth is what the hold of that sum in a sandbox is worth. -/
noncomputable def Try.pinned : Pinned := { name := "qxb6600300a", sum := "1f899d17af9107c46e05354e776ca7d66ee6517d0a786b3a06f079981c4aeb5d", checked := Try.checked }
namespace Rows
def none {H : Type} : Left H := { results := [], args := [] }

/-- 'zzlaws_internal_storefile_b1.FnAssertionsAddsOverASplitAndIgnoresOrder': WHATEVER THE INPUT: true; the input reads as it did. -/
def fnAssertionsAddsOverASplitAndIgnoresOrderSpec : ChangeSpec := { name := "fnAssertionsAddsOverASplitAndIgnoresOrder", fn := fun _ => fun
  | [d1, d2] => { results := [.lit (.bool true)], args := [d1, d2] }
  | _ => none }
def fnAssertionsAddsOverASplitAndIgnoresOrderRow : OpenClaim := { program := "qxb6600300a", sum := "1f899d17af9107c46e05354e776ca7d66ee6517d0a786b3a06f079981c4aeb5d", func := "example.com/mlango/mlango/zzlaws_internal_storefile_b1.FnAssertionsAddsOverASplitAndIgnoresOrder", spec := "fnAssertionsAddsOverASplitAndIgnoresOrder", apart := false }
def FnAssertionsAddsOverASplitAndIgnoresOrderSaid : Prop := fnAssertionsAddsOverASplitAndIgnoresOrderRow.holds Try.pinned (OpenSpec.ofChange fnAssertionsAddsOverASplitAndIgnoresOrderSpec)

/-- ITS FALSE NEIGHBOUR: 'it returns false'. Refute it at one input. -/
def fnAssertionsAddsOverASplitAndIgnoresOrderWrong : ChangeSpec := { name := "fnAssertionsAddsOverASplitAndIgnoresOrder", fn := fun _ => fun
  | [d1, d2] => { results := [.lit (.bool false)], args := [d1, d2] }
  | _ => none }
def FnAssertionsAddsOverASplitAndIgnoresOrderWrongFalsely : Prop := fnAssertionsAddsOverASplitAndIgnoresOrderRow.holds Try.pinned (OpenSpec.ofChange fnAssertionsAddsOverASplitAndIgnoresOrderWrong)

/-- 'zzlaws_internal_storefile_b1.FnLineCounterAtIsOnePlusNewlinesBefore': WHATEVER THE INPUT: true; the input reads as it did. -/
def fnLineCounterAtIsOnePlusNewlinesBeforeSpec : ChangeSpec := { name := "fnLineCounterAtIsOnePlusNewlinesBefore", fn := fun _ => fun
  | [d1, d2] => { results := [.lit (.bool true)], args := [d1, d2] }
  | _ => none }
def fnLineCounterAtIsOnePlusNewlinesBeforeRow : OpenClaim := { program := "qxb6600300a", sum := "1f899d17af9107c46e05354e776ca7d66ee6517d0a786b3a06f079981c4aeb5d", func := "example.com/mlango/mlango/zzlaws_internal_storefile_b1.FnLineCounterAtIsOnePlusNewlinesBefore", spec := "fnLineCounterAtIsOnePlusNewlinesBefore", inPlace := ["internal/bytealg.Count", "internal/bytealg.IndexByte", "internal/bytealg.Index"], named := ["internal/bytealg.MaxLen"], apart := false }
def FnLineCounterAtIsOnePlusNewlinesBeforeSaid : Prop := fnLineCounterAtIsOnePlusNewlinesBeforeRow.holds Try.pinned (OpenSpec.ofChange fnLineCounterAtIsOnePlusNewlinesBeforeSpec)

/-- ITS FALSE NEIGHBOUR: 'it returns false'. Refute it at one input. -/
def fnLineCounterAtIsOnePlusNewlinesBeforeWrong : ChangeSpec := { name := "fnLineCounterAtIsOnePlusNewlinesBefore", fn := fun _ => fun
  | [d1, d2] => { results := [.lit (.bool false)], args := [d1, d2] }
  | _ => none }
def FnLineCounterAtIsOnePlusNewlinesBeforeWrongFalsely : Prop := fnLineCounterAtIsOnePlusNewlinesBeforeRow.holds Try.pinned (OpenSpec.ofChange fnLineCounterAtIsOnePlusNewlinesBeforeWrong)

/-- 'zzlaws_internal_storefile_b1.FnLineCounterAnswerHangsNotOnWhatWasAskedBefore': WHATEVER THE INPUT: true; the input reads as it did. -/
def fnLineCounterAnswerHangsNotOnWhatWasAskedBeforeSpec : ChangeSpec := { name := "fnLineCounterAnswerHangsNotOnWhatWasAskedBefore", fn := fun _ => fun
  | [d1, d2, d3] => { results := [.lit (.bool true)], args := [d1, d2, d3] }
  | _ => none }
def fnLineCounterAnswerHangsNotOnWhatWasAskedBeforeRow : OpenClaim := { program := "qxb6600300a", sum := "1f899d17af9107c46e05354e776ca7d66ee6517d0a786b3a06f079981c4aeb5d", func := "example.com/mlango/mlango/zzlaws_internal_storefile_b1.FnLineCounterAnswerHangsNotOnWhatWasAskedBefore", spec := "fnLineCounterAnswerHangsNotOnWhatWasAskedBefore", inPlace := ["internal/bytealg.Count", "internal/bytealg.IndexByte", "internal/bytealg.Index"], named := ["internal/bytealg.MaxLen"], apart := false }
def FnLineCounterAnswerHangsNotOnWhatWasAskedBeforeSaid : Prop := fnLineCounterAnswerHangsNotOnWhatWasAskedBeforeRow.holds Try.pinned (OpenSpec.ofChange fnLineCounterAnswerHangsNotOnWhatWasAskedBeforeSpec)

/-- ITS FALSE NEIGHBOUR: 'it returns false'. Refute it at one input. -/
def fnLineCounterAnswerHangsNotOnWhatWasAskedBeforeWrong : ChangeSpec := { name := "fnLineCounterAnswerHangsNotOnWhatWasAskedBefore", fn := fun _ => fun
  | [d1, d2, d3] => { results := [.lit (.bool false)], args := [d1, d2, d3] }
  | _ => none }
def FnLineCounterAnswerHangsNotOnWhatWasAskedBeforeWrongFalsely : Prop := fnLineCounterAnswerHangsNotOnWhatWasAskedBeforeRow.holds Try.pinned (OpenSpec.ofChange fnLineCounterAnswerHangsNotOnWhatWasAskedBeforeWrong)

/-- 'zzlaws_internal_storefile_b1.FnLineCounterAtIsMonotoneAndBoundedByOffset': WHATEVER THE INPUT: true; the input reads as it did. -/
def fnLineCounterAtIsMonotoneAndBoundedByOffsetSpec : ChangeSpec := { name := "fnLineCounterAtIsMonotoneAndBoundedByOffset", fn := fun _ => fun
  | [d1, d2] => { results := [.lit (.bool true)], args := [d1, d2] }
  | _ => none }
def fnLineCounterAtIsMonotoneAndBoundedByOffsetRow : OpenClaim := { program := "qxb6600300a", sum := "1f899d17af9107c46e05354e776ca7d66ee6517d0a786b3a06f079981c4aeb5d", func := "example.com/mlango/mlango/zzlaws_internal_storefile_b1.FnLineCounterAtIsMonotoneAndBoundedByOffset", spec := "fnLineCounterAtIsMonotoneAndBoundedByOffset", inPlace := ["internal/bytealg.Count", "internal/bytealg.IndexByte", "internal/bytealg.Index"], named := ["internal/bytealg.MaxLen"], apart := false }
def FnLineCounterAtIsMonotoneAndBoundedByOffsetSaid : Prop := fnLineCounterAtIsMonotoneAndBoundedByOffsetRow.holds Try.pinned (OpenSpec.ofChange fnLineCounterAtIsMonotoneAndBoundedByOffsetSpec)

/-- ITS FALSE NEIGHBOUR: 'it returns false'. Refute it at one input. -/
def fnLineCounterAtIsMonotoneAndBoundedByOffsetWrong : ChangeSpec := { name := "fnLineCounterAtIsMonotoneAndBoundedByOffset", fn := fun _ => fun
  | [d1, d2] => { results := [.lit (.bool false)], args := [d1, d2] }
  | _ => none }
def FnLineCounterAtIsMonotoneAndBoundedByOffsetWrongFalsely : Prop := fnLineCounterAtIsMonotoneAndBoundedByOffsetRow.holds Try.pinned (OpenSpec.ofChange fnLineCounterAtIsMonotoneAndBoundedByOffsetWrong)

end Rows
end Go.Proofs.Qxb6600300a
