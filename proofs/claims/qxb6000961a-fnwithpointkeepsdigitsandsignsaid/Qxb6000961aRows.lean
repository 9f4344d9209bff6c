/-
  No cell of these rows narrows 'for every input' (looked for: loops, veiled, ifaces, maps, wideKeys, modest, calm, conditions, laid).
  DERIVED. THE GIVEN ROWS OF THIS SEAT. 8 by the template 'for every input the law returns true; each argument reads behind the call as it read before'; 0 by the template 'total and deterministic' (their statements: Qxb6000961aTotals.lean).
  GIVEN WITH THE SEED: the statements are not yours to turn. If you find one false, say at which input.
  Laid BY PROGRAM, IN A SANDBOX (cutbox-rows.mjs): the forced cells as the released guide's own fill.sh prints them over the translation ba5e186eebf3cdce… (all of the seat's roots in one cut). By AI agents, Wed Nov 11 2026. No macro, syntax, notation, axiom, sorry.
-/
import Derived.Test.Qxb6000961aChecked
import GoSem.Claim
import GoSem.ClaimJoined
import GoSem.ClaimMapViews
import Derived.JoinedTies
import Derived.KernelRfl
namespace Go.Proofs.Qxb6000961a
/- THE CELL 'sum', in the pinned program and in every row, IS THE sha256 OF THE DUMP (.gsa) THAT Qxb6000961aProg.lean LOADS. Nothing in Lean hashes anything: it is a label: what it is worth is what the hold of that sum in a sandbox is worth. -/
noncomputable def Try.pinned : Pinned := { name := "qxb6000961a", sum := "ba5e186eebf3cdce0415c078f6148bcfca510c7ed7e06ff9fb0b9354ec2f7e1f", checked := Try.checked }
namespace Rows
def none {H : Type} : Left H := { results := [], args := [] }

/-- 'zzlaws_root_b1.FnWithPointKeepsDigitsAndSign': WHATEVER THE INPUT: true; the input reads as it did. -/
def fnWithPointKeepsDigitsAndSignSpec : ChangeSpec := { name := "fnWithPointKeepsDigitsAndSign", fn := fun _ => fun
  | [d1, d2] => { results := [.lit (.bool true)], args := [d1, d2] }
  | _ => none }
def fnWithPointKeepsDigitsAndSignRow : OpenClaim := { program := "qxb6000961a", sum := "ba5e186eebf3cdce0415c078f6148bcfca510c7ed7e06ff9fb0b9354ec2f7e1f", func := "example.com/vestrule/vestrule/zzlaws_root_b1.FnWithPointKeepsDigitsAndSign", spec := "fnWithPointKeepsDigitsAndSign", inPlace := ["internal/abi.NoEscape", "internal/bytealg.MakeNoZero"], apart := false }
def FnWithPointKeepsDigitsAndSignSaid : Prop := fnWithPointKeepsDigitsAndSignRow.holds Try.pinned (OpenSpec.ofChange fnWithPointKeepsDigitsAndSignSpec)

/-- ITS FALSE NEIGHBOUR: 'it returns false'. Refute it at one input. -/
def fnWithPointKeepsDigitsAndSignWrong : ChangeSpec := { name := "fnWithPointKeepsDigitsAndSign", fn := fun _ => fun
  | [d1, d2] => { results := [.lit (.bool false)], args := [d1, d2] }
  | _ => none }
def FnWithPointKeepsDigitsAndSignWrongFalsely : Prop := fnWithPointKeepsDigitsAndSignRow.holds Try.pinned (OpenSpec.ofChange fnWithPointKeepsDigitsAndSignWrong)

/-- 'zzlaws_root_b1.FnWithPointKeepsOrder': WHATEVER THE INPUT: true; the input reads as it did. -/
def fnWithPointKeepsOrderSpec : ChangeSpec := { name := "fnWithPointKeepsOrder", fn := fun _ => fun
  | [d1, d2, d3] => { results := [.lit (.bool true)], args := [d1, d2, d3] }
  | _ => none }
def fnWithPointKeepsOrderRow : OpenClaim := { program := "qxb6000961a", sum := "ba5e186eebf3cdce0415c078f6148bcfca510c7ed7e06ff9fb0b9354ec2f7e1f", func := "example.com/vestrule/vestrule/zzlaws_root_b1.FnWithPointKeepsOrder", spec := "fnWithPointKeepsOrder", inPlace := ["internal/abi.NoEscape", "internal/bytealg.MakeNoZero"], apart := false }
def FnWithPointKeepsOrderSaid : Prop := fnWithPointKeepsOrderRow.holds Try.pinned (OpenSpec.ofChange fnWithPointKeepsOrderSpec)

/-- ITS FALSE NEIGHBOUR: 'it returns false'. Refute it at one input. -/
def fnWithPointKeepsOrderWrong : ChangeSpec := { name := "fnWithPointKeepsOrder", fn := fun _ => fun
  | [d1, d2, d3] => { results := [.lit (.bool false)], args := [d1, d2, d3] }
  | _ => none }
def FnWithPointKeepsOrderWrongFalsely : Prop := fnWithPointKeepsOrderRow.holds Try.pinned (OpenSpec.ofChange fnWithPointKeepsOrderWrong)

/-- 'zzlaws_root_b1.FnUserDefinedRoundTripFromCharacter': WHATEVER THE INPUT: true; the input reads as it did. -/
def fnUserDefinedRoundTripFromCharacterSpec : ChangeSpec := { name := "fnUserDefinedRoundTripFromCharacter", fn := fun _ => fun
  | [d] => { results := [.lit (.bool true)], args := [d] }
  | _ => none }
def fnUserDefinedRoundTripFromCharacterRow : OpenClaim := { program := "qxb6000961a", sum := "ba5e186eebf3cdce0415c078f6148bcfca510c7ed7e06ff9fb0b9354ec2f7e1f", func := "example.com/vestrule/vestrule/zzlaws_root_b1.FnUserDefinedRoundTripFromCharacter", spec := "fnUserDefinedRoundTripFromCharacter", apart := false }
def FnUserDefinedRoundTripFromCharacterSaid : Prop := fnUserDefinedRoundTripFromCharacterRow.holds Try.pinned (OpenSpec.ofChange fnUserDefinedRoundTripFromCharacterSpec)

/-- ITS FALSE NEIGHBOUR: 'it returns false'. Refute it at one input. -/
def fnUserDefinedRoundTripFromCharacterWrong : ChangeSpec := { name := "fnUserDefinedRoundTripFromCharacter", fn := fun _ => fun
  | [d] => { results := [.lit (.bool false)], args := [d] }
  | _ => none }
def FnUserDefinedRoundTripFromCharacterWrongFalsely : Prop := fnUserDefinedRoundTripFromCharacterRow.holds Try.pinned (OpenSpec.ofChange fnUserDefinedRoundTripFromCharacterWrong)

/-- 'zzlaws_root_b1.FnUserDefinedInvertsOnItsAreas': WHATEVER THE INPUT: true; the input reads as it did. -/
def fnUserDefinedInvertsOnItsAreasSpec : ChangeSpec := { name := "fnUserDefinedInvertsOnItsAreas", fn := fun _ => fun
  | [d1, d2] => { results := [.lit (.bool true)], args := [d1, d2] }
  | _ => none }
def fnUserDefinedInvertsOnItsAreasRow : OpenClaim := { program := "qxb6000961a", sum := "ba5e186eebf3cdce0415c078f6148bcfca510c7ed7e06ff9fb0b9354ec2f7e1f", func := "example.com/vestrule/vestrule/zzlaws_root_b1.FnUserDefinedInvertsOnItsAreas", spec := "fnUserDefinedInvertsOnItsAreas", apart := false }
def FnUserDefinedInvertsOnItsAreasSaid : Prop := fnUserDefinedInvertsOnItsAreasRow.holds Try.pinned (OpenSpec.ofChange fnUserDefinedInvertsOnItsAreasSpec)

/-- ITS FALSE NEIGHBOUR: 'it returns false'. Refute it at one input. -/
def fnUserDefinedInvertsOnItsAreasWrong : ChangeSpec := { name := "fnUserDefinedInvertsOnItsAreas", fn := fun _ => fun
  | [d1, d2] => { results := [.lit (.bool false)], args := [d1, d2] }
  | _ => none }
def FnUserDefinedInvertsOnItsAreasWrongFalsely : Prop := fnUserDefinedInvertsOnItsAreasRow.holds Try.pinned (OpenSpec.ofChange fnUserDefinedInvertsOnItsAreasWrong)

/-- 'zzlaws_root_b1.FnUserDefinedRefusesOutsideAreas': WHATEVER THE INPUT: true; the input reads as it did. -/
def fnUserDefinedRefusesOutsideAreasSpec : ChangeSpec := { name := "fnUserDefinedRefusesOutsideAreas", fn := fun _ => fun
  | [d1, d2] => { results := [.lit (.bool true)], args := [d1, d2] }
  | _ => none }
def fnUserDefinedRefusesOutsideAreasRow : OpenClaim := { program := "qxb6000961a", sum := "ba5e186eebf3cdce0415c078f6148bcfca510c7ed7e06ff9fb0b9354ec2f7e1f", func := "example.com/vestrule/vestrule/zzlaws_root_b1.FnUserDefinedRefusesOutsideAreas", spec := "fnUserDefinedRefusesOutsideAreas", apart := false }
def FnUserDefinedRefusesOutsideAreasSaid : Prop := fnUserDefinedRefusesOutsideAreasRow.holds Try.pinned (OpenSpec.ofChange fnUserDefinedRefusesOutsideAreasSpec)

/-- ITS FALSE NEIGHBOUR: 'it returns false'. Refute it at one input. -/
def fnUserDefinedRefusesOutsideAreasWrong : ChangeSpec := { name := "fnUserDefinedRefusesOutsideAreas", fn := fun _ => fun
  | [d1, d2] => { results := [.lit (.bool false)], args := [d1, d2] }
  | _ => none }
def FnUserDefinedRefusesOutsideAreasWrongFalsely : Prop := fnUserDefinedRefusesOutsideAreasRow.holds Try.pinned (OpenSpec.ofChange fnUserDefinedRefusesOutsideAreasWrong)

/-- 'zzlaws_root_b1.FnWordStepsUnimodularAndBounded': WHATEVER THE INPUT: true; the input reads as it did. -/
def fnWordStepsUnimodularAndBoundedSpec : ChangeSpec := { name := "fnWordStepsUnimodularAndBounded", fn := fun _ => fun
  | [d1, d2, d3] => { results := [.lit (.bool true)], args := [d1, d2, d3] }
  | _ => none }
def fnWordStepsUnimodularAndBoundedRow : OpenClaim := { program := "qxb6000961a", sum := "ba5e186eebf3cdce0415c078f6148bcfca510c7ed7e06ff9fb0b9354ec2f7e1f", func := "example.com/vestrule/vestrule/zzlaws_root_b1.FnWordStepsUnimodularAndBounded", spec := "fnWordStepsUnimodularAndBounded", apart := false }
def FnWordStepsUnimodularAndBoundedSaid : Prop := fnWordStepsUnimodularAndBoundedRow.holds Try.pinned (OpenSpec.ofChange fnWordStepsUnimodularAndBoundedSpec)

/-- ITS FALSE NEIGHBOUR: 'it returns false'. Refute it at one input. -/
def fnWordStepsUnimodularAndBoundedWrong : ChangeSpec := { name := "fnWordStepsUnimodularAndBounded", fn := fun _ => fun
  | [d1, d2, d3] => { results := [.lit (.bool false)], args := [d1, d2, d3] }
  | _ => none }
def FnWordStepsUnimodularAndBoundedWrongFalsely : Prop := fnWordStepsUnimodularAndBoundedRow.holds Try.pinned (OpenSpec.ofChange fnWordStepsUnimodularAndBoundedWrong)

/-- 'zzlaws_root_b1.FnWordStepsReachesStopKeepingGcd': WHATEVER THE INPUT: true; the input reads as it did. -/
def fnWordStepsReachesStopKeepingGcdSpec : ChangeSpec := { name := "fnWordStepsReachesStopKeepingGcd", fn := fun _ => fun
  | [d1, d2, d3] => { results := [.lit (.bool true)], args := [d1, d2, d3] }
  | _ => none }
def fnWordStepsReachesStopKeepingGcdRow : OpenClaim := { program := "qxb6000961a", sum := "ba5e186eebf3cdce0415c078f6148bcfca510c7ed7e06ff9fb0b9354ec2f7e1f", func := "example.com/vestrule/vestrule/zzlaws_root_b1.FnWordStepsReachesStopKeepingGcd", spec := "fnWordStepsReachesStopKeepingGcd", apart := false }
def FnWordStepsReachesStopKeepingGcdSaid : Prop := fnWordStepsReachesStopKeepingGcdRow.holds Try.pinned (OpenSpec.ofChange fnWordStepsReachesStopKeepingGcdSpec)

/-- ITS FALSE NEIGHBOUR: 'it returns false'. Refute it at one input. -/
def fnWordStepsReachesStopKeepingGcdWrong : ChangeSpec := { name := "fnWordStepsReachesStopKeepingGcd", fn := fun _ => fun
  | [d1, d2, d3] => { results := [.lit (.bool false)], args := [d1, d2, d3] }
  | _ => none }
def FnWordStepsReachesStopKeepingGcdWrongFalsely : Prop := fnWordStepsReachesStopKeepingGcdRow.holds Try.pinned (OpenSpec.ofChange fnWordStepsReachesStopKeepingGcdWrong)

/-- 'zzlaws_root_b1.FnWordStepsCompose': WHATEVER THE INPUT: true; the input reads as it did. -/
def fnWordStepsComposeSpec : ChangeSpec := { name := "fnWordStepsCompose", fn := fun _ => fun
  | [d1, d2, d3, d4] => { results := [.lit (.bool true)], args := [d1, d2, d3, d4] }
  | _ => none }
def fnWordStepsComposeRow : OpenClaim := { program := "qxb6000961a", sum := "ba5e186eebf3cdce0415c078f6148bcfca510c7ed7e06ff9fb0b9354ec2f7e1f", func := "example.com/vestrule/vestrule/zzlaws_root_b1.FnWordStepsCompose", spec := "fnWordStepsCompose", apart := false }
def FnWordStepsComposeSaid : Prop := fnWordStepsComposeRow.holds Try.pinned (OpenSpec.ofChange fnWordStepsComposeSpec)

/-- ITS FALSE NEIGHBOUR: 'it returns false'. Refute it at one input. -/
def fnWordStepsComposeWrong : ChangeSpec := { name := "fnWordStepsCompose", fn := fun _ => fun
  | [d1, d2, d3, d4] => { results := [.lit (.bool false)], args := [d1, d2, d3, d4] }
  | _ => none }
def FnWordStepsComposeWrongFalsely : Prop := fnWordStepsComposeRow.holds Try.pinned (OpenSpec.ofChange fnWordStepsComposeWrong)

end Rows
end Go.Proofs.Qxb6000961a
