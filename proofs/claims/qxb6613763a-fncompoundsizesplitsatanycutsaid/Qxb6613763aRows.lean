/-
  No cell of these rows narrows 'for every input' (looked for: loops, veiled, ifaces, maps, wideKeys, modest, calm, conditions, laid).
  DERIVED. THE GIVEN ROWS OF THIS SEAT. 5 by the template 'for every input the law returns true; each argument reads behind the call as it read before'; 0 by the template 'total and deterministic' (their statements: Qxb6613763aTotals.lean).
  GIVEN WITH THE SEED: the statements are not yours to turn. If you find one false, say at which input.
  Laid BY PROGRAM, IN A SANDBOX (cutbox-rows.mjs): the forced cells as the released guide's own fill.sh prints them over the translation b067ef1056a2c7b5… (all of the seat's roots in one cut). By AI agents, Wed Nov 11 2026. No macro, syntax, notation, axiom, sorry.
-/
import Derived.Test.Qxb6613763aChecked
import GoSem.Claim
import GoSem.ClaimJoined
import GoSem.ClaimMapViews
import Derived.JoinedTies
import Derived.KernelRfl
namespace Go.Proofs.Qxb6613763a
/- THE CELL 'sum', in the pinned program and in every row, IS THE sha256 OF THE DUMP (.gsa) THAT Qxb6613763aProg.lean LOADS. Nothing in Lean hashes anything: it is a label: what it is worth is what the hold of that sum in a sandbox is worth. -/
noncomputable def Try.pinned : Pinned := { name := "qxb6613763a", sum := "b067ef1056a2c7b53bf5eeae1184ae8892d7ded90c85f85115e4c3f297d17115", checked := Try.checked }
namespace Rows
def none {H : Type} : Left H := { results := [], args := [] }

/-- 'zzlaws_root_b1.FnCompoundSizeSplitsAtAnyCut': WHATEVER THE INPUT: true; the input reads as it did. -/
def fnCompoundSizeSplitsAtAnyCutSpec : ChangeSpec := { name := "fnCompoundSizeSplitsAtAnyCut", fn := fun _ => fun
  | [d1, d2, d3] => { results := [.lit (.bool true)], args := [d1, d2, d3] }
  | _ => none }
def fnCompoundSizeSplitsAtAnyCutRow : OpenClaim := { program := "qxb6613763a", sum := "b067ef1056a2c7b53bf5eeae1184ae8892d7ded90c85f85115e4c3f297d17115", func := "example.com/tellback/tellback/zzlaws_root_b1.FnCompoundSizeSplitsAtAnyCut", spec := "fnCompoundSizeSplitsAtAnyCut", plainKeys := false, apart := false }
def FnCompoundSizeSplitsAtAnyCutSaid : Prop := fnCompoundSizeSplitsAtAnyCutRow.holds Try.pinned (OpenSpec.ofChange fnCompoundSizeSplitsAtAnyCutSpec)

/-- ITS FALSE NEIGHBOUR: 'it returns false'. Refute it at one input. -/
def fnCompoundSizeSplitsAtAnyCutWrong : ChangeSpec := { name := "fnCompoundSizeSplitsAtAnyCut", fn := fun _ => fun
  | [d1, d2, d3] => { results := [.lit (.bool false)], args := [d1, d2, d3] }
  | _ => none }
def FnCompoundSizeSplitsAtAnyCutWrongFalsely : Prop := fnCompoundSizeSplitsAtAnyCutRow.holds Try.pinned (OpenSpec.ofChange fnCompoundSizeSplitsAtAnyCutWrong)

/-- 'zzlaws_root_b1.FnTMMBBitrateLeastExponentRoundedDownAndStable': WHATEVER THE INPUT: true; the input reads as it did. -/
def fnTMMBBitrateLeastExponentRoundedDownAndStableSpec : ChangeSpec := { name := "fnTMMBBitrateLeastExponentRoundedDownAndStable", fn := fun _ => fun
  | [d] => { results := [.lit (.bool true)], args := [d] }
  | _ => none }
def fnTMMBBitrateLeastExponentRoundedDownAndStableRow : OpenClaim := { program := "qxb6613763a", sum := "b067ef1056a2c7b53bf5eeae1184ae8892d7ded90c85f85115e4c3f297d17115", func := "example.com/tellback/tellback/zzlaws_root_b1.FnTMMBBitrateLeastExponentRoundedDownAndStable", spec := "fnTMMBBitrateLeastExponentRoundedDownAndStable", plainKeys := false, apart := false }
def FnTMMBBitrateLeastExponentRoundedDownAndStableSaid : Prop := fnTMMBBitrateLeastExponentRoundedDownAndStableRow.holds Try.pinned (OpenSpec.ofChange fnTMMBBitrateLeastExponentRoundedDownAndStableSpec)

/-- ITS FALSE NEIGHBOUR: 'it returns false'. Refute it at one input. -/
def fnTMMBBitrateLeastExponentRoundedDownAndStableWrong : ChangeSpec := { name := "fnTMMBBitrateLeastExponentRoundedDownAndStable", fn := fun _ => fun
  | [d] => { results := [.lit (.bool false)], args := [d] }
  | _ => none }
def FnTMMBBitrateLeastExponentRoundedDownAndStableWrongFalsely : Prop := fnTMMBBitrateLeastExponentRoundedDownAndStableRow.holds Try.pinned (OpenSpec.ofChange fnTMMBBitrateLeastExponentRoundedDownAndStableWrong)

/-- 'zzlaws_root_b1.FnTMMBBitrateDoubling': WHATEVER THE INPUT: true; the input reads as it did. -/
def fnTMMBBitrateDoublingSpec : ChangeSpec := { name := "fnTMMBBitrateDoubling", fn := fun _ => fun
  | [d] => { results := [.lit (.bool true)], args := [d] }
  | _ => none }
def fnTMMBBitrateDoublingRow : OpenClaim := { program := "qxb6613763a", sum := "b067ef1056a2c7b53bf5eeae1184ae8892d7ded90c85f85115e4c3f297d17115", func := "example.com/tellback/tellback/zzlaws_root_b1.FnTMMBBitrateDoubling", spec := "fnTMMBBitrateDoubling", plainKeys := false, apart := false }
def FnTMMBBitrateDoublingSaid : Prop := fnTMMBBitrateDoublingRow.holds Try.pinned (OpenSpec.ofChange fnTMMBBitrateDoublingSpec)

/-- ITS FALSE NEIGHBOUR: 'it returns false'. Refute it at one input. -/
def fnTMMBBitrateDoublingWrong : ChangeSpec := { name := "fnTMMBBitrateDoubling", fn := fun _ => fun
  | [d] => { results := [.lit (.bool false)], args := [d] }
  | _ => none }
def FnTMMBBitrateDoublingWrongFalsely : Prop := fnTMMBBitrateDoublingRow.holds Try.pinned (OpenSpec.ofChange fnTMMBBitrateDoublingWrong)

/-- 'zzlaws_root_b1.FnCountCompoundStepsBySixteenths': WHATEVER THE INPUT: true; the input reads as it did. -/
def fnCountCompoundStepsBySixteenthsSpec : ChangeSpec := { name := "fnCountCompoundStepsBySixteenths", fn := fun _ => fun
  | [d1, d2, d3] => { results := [.lit (.bool true)], args := [d1, d2, d3] }
  | _ => none }
def fnCountCompoundStepsBySixteenthsRow : OpenClaim := { program := "qxb6613763a", sum := "b067ef1056a2c7b53bf5eeae1184ae8892d7ded90c85f85115e4c3f297d17115", func := "example.com/tellback/tellback/zzlaws_root_b1.FnCountCompoundStepsBySixteenths", spec := "fnCountCompoundStepsBySixteenths", plainKeys := false, apart := false }
def FnCountCompoundStepsBySixteenthsSaid : Prop := fnCountCompoundStepsBySixteenthsRow.holds Try.pinned (OpenSpec.ofChange fnCountCompoundStepsBySixteenthsSpec)

/-- ITS FALSE NEIGHBOUR: 'it returns false'. Refute it at one input. -/
def fnCountCompoundStepsBySixteenthsWrong : ChangeSpec := { name := "fnCountCompoundStepsBySixteenths", fn := fun _ => fun
  | [d1, d2, d3] => { results := [.lit (.bool false)], args := [d1, d2, d3] }
  | _ => none }
def FnCountCompoundStepsBySixteenthsWrongFalsely : Prop := fnCountCompoundStepsBySixteenthsRow.holds Try.pinned (OpenSpec.ofChange fnCountCompoundStepsBySixteenthsWrong)

/-- 'zzlaws_root_b1.FnCountCompoundKeepsFifteenOfSixteen': WHATEVER THE INPUT: true; the input reads as it did. -/
def fnCountCompoundKeepsFifteenOfSixteenSpec : ChangeSpec := { name := "fnCountCompoundKeepsFifteenOfSixteen", fn := fun _ => fun
  | [d1, d2, d3] => { results := [.lit (.bool true)], args := [d1, d2, d3] }
  | _ => none }
def fnCountCompoundKeepsFifteenOfSixteenRow : OpenClaim := { program := "qxb6613763a", sum := "b067ef1056a2c7b53bf5eeae1184ae8892d7ded90c85f85115e4c3f297d17115", func := "example.com/tellback/tellback/zzlaws_root_b1.FnCountCompoundKeepsFifteenOfSixteen", spec := "fnCountCompoundKeepsFifteenOfSixteen", plainKeys := false, apart := false }
def FnCountCompoundKeepsFifteenOfSixteenSaid : Prop := fnCountCompoundKeepsFifteenOfSixteenRow.holds Try.pinned (OpenSpec.ofChange fnCountCompoundKeepsFifteenOfSixteenSpec)

/-- ITS FALSE NEIGHBOUR: 'it returns false'. Refute it at one input. -/
def fnCountCompoundKeepsFifteenOfSixteenWrong : ChangeSpec := { name := "fnCountCompoundKeepsFifteenOfSixteen", fn := fun _ => fun
  | [d1, d2, d3] => { results := [.lit (.bool false)], args := [d1, d2, d3] }
  | _ => none }
def FnCountCompoundKeepsFifteenOfSixteenWrongFalsely : Prop := fnCountCompoundKeepsFifteenOfSixteenRow.holds Try.pinned (OpenSpec.ofChange fnCountCompoundKeepsFifteenOfSixteenWrong)

end Rows
end Go.Proofs.Qxb6613763a
