/-
  No cell of these rows narrows 'for every input' (looked for: loops, veiled, ifaces, maps, wideKeys, modest, calm, conditions, laid).
  DERIVED. THE GIVEN ROWS OF THIS SEAT. 6 by the template 'for every input the law returns true; each argument reads behind the call as it read before'; 0 by the template 'total and deterministic' (their statements: Qxb6001027aTotals.lean).
  GIVEN WITH THE SEED: the statements are not yours to turn. If you find one false, say at which input.
  Laid BY PROGRAM, IN A SANDBOX (cutbox-rows.mjs): the forced cells as the released guide's own fill.sh prints them over the translation 853bfd56d9198507… (all of the seat's roots in one cut). By AI agents, Wed Nov 11 2026. No macro, syntax, notation, axiom, sorry.
-/
import Derived.Test.Qxb6001027aChecked
import GoSem.Claim
import GoSem.ClaimJoined
import GoSem.ClaimMapViews
import Derived.JoinedTies
import Derived.KernelRfl
namespace Go.Proofs.Qxb6001027a
/- THE CELL 'sum', in the pinned program and in every row, IS THE sha256 OF THE DUMP (.gsa) THAT Qxb6001027aProg.lean LOADS. Nothing in Lean hashes anything: it is a label: what it is worth is what the hold of that sum in a sandbox is worth. -/
noncomputable def Try.pinned : Pinned := { name := "qxb6001027a", sum := "853bfd56d9198507eca5207910a833e457055e9c80c97a25488e164cc3db2102", checked := Try.checked }
namespace Rows
def none {H : Type} : Left H := { results := [], args := [] }

/-- 'zzlaws_root_b1.FnRepeatCountMatchesModel': WHATEVER THE INPUT: true; the input reads as it did. -/
def fnRepeatCountMatchesModelSpec : ChangeSpec := { name := "fnRepeatCountMatchesModel", fn := fun _ => fun
  | [d] => { results := [.lit (.bool true)], args := [d] }
  | _ => none }
def fnRepeatCountMatchesModelRow : OpenClaim := { program := "qxb6001027a", sum := "853bfd56d9198507eca5207910a833e457055e9c80c97a25488e164cc3db2102", func := "example.com/bowerbird/bowerbird/zzlaws_root_b1.FnRepeatCountMatchesModel", spec := "fnRepeatCountMatchesModel", unfollowed := true, recurses := true, apart := false }
def FnRepeatCountMatchesModelSaid : Prop := fnRepeatCountMatchesModelRow.holds Try.pinned (OpenSpec.ofChange fnRepeatCountMatchesModelSpec)

/-- ITS FALSE NEIGHBOUR: 'it returns false'. Refute it at one input. -/
def fnRepeatCountMatchesModelWrong : ChangeSpec := { name := "fnRepeatCountMatchesModel", fn := fun _ => fun
  | [d] => { results := [.lit (.bool false)], args := [d] }
  | _ => none }
def FnRepeatCountMatchesModelWrongFalsely : Prop := fnRepeatCountMatchesModelRow.holds Try.pinned (OpenSpec.ofChange fnRepeatCountMatchesModelWrong)

/-- 'zzlaws_root_b1.FnRepeatCountReadsOnlyItsCount': WHATEVER THE INPUT: true; the input reads as it did. -/
def fnRepeatCountReadsOnlyItsCountSpec : ChangeSpec := { name := "fnRepeatCountReadsOnlyItsCount", fn := fun _ => fun
  | [d1, d2, d3] => { results := [.lit (.bool true)], args := [d1, d2, d3] }
  | _ => none }
def fnRepeatCountReadsOnlyItsCountRow : OpenClaim := { program := "qxb6001027a", sum := "853bfd56d9198507eca5207910a833e457055e9c80c97a25488e164cc3db2102", func := "example.com/bowerbird/bowerbird/zzlaws_root_b1.FnRepeatCountReadsOnlyItsCount", spec := "fnRepeatCountReadsOnlyItsCount", unfollowed := true, recurses := true, apart := false }
def FnRepeatCountReadsOnlyItsCountSaid : Prop := fnRepeatCountReadsOnlyItsCountRow.holds Try.pinned (OpenSpec.ofChange fnRepeatCountReadsOnlyItsCountSpec)

/-- ITS FALSE NEIGHBOUR: 'it returns false'. Refute it at one input. -/
def fnRepeatCountReadsOnlyItsCountWrong : ChangeSpec := { name := "fnRepeatCountReadsOnlyItsCount", fn := fun _ => fun
  | [d1, d2, d3] => { results := [.lit (.bool false)], args := [d1, d2, d3] }
  | _ => none }
def FnRepeatCountReadsOnlyItsCountWrongFalsely : Prop := fnRepeatCountReadsOnlyItsCountRow.holds Try.pinned (OpenSpec.ofChange fnRepeatCountReadsOnlyItsCountWrong)

/-- 'zzlaws_root_b1.FnRepeatCountReadsWrittenCounts': WHATEVER THE INPUT: true; the input reads as it did. -/
def fnRepeatCountReadsWrittenCountsSpec : ChangeSpec := { name := "fnRepeatCountReadsWrittenCounts", fn := fun _ => fun
  | [d1, d2, d3, d4, d5, d6] => { results := [.lit (.bool true)], args := [d1, d2, d3, d4, d5, d6] }
  | _ => none }
def fnRepeatCountReadsWrittenCountsRow : OpenClaim := { program := "qxb6001027a", sum := "853bfd56d9198507eca5207910a833e457055e9c80c97a25488e164cc3db2102", func := "example.com/bowerbird/bowerbird/zzlaws_root_b1.FnRepeatCountReadsWrittenCounts", spec := "fnRepeatCountReadsWrittenCounts", unfollowed := true, recurses := true, apart := false }
def FnRepeatCountReadsWrittenCountsSaid : Prop := fnRepeatCountReadsWrittenCountsRow.holds Try.pinned (OpenSpec.ofChange fnRepeatCountReadsWrittenCountsSpec)

/-- ITS FALSE NEIGHBOUR: 'it returns false'. Refute it at one input. -/
def fnRepeatCountReadsWrittenCountsWrong : ChangeSpec := { name := "fnRepeatCountReadsWrittenCounts", fn := fun _ => fun
  | [d1, d2, d3, d4, d5, d6] => { results := [.lit (.bool false)], args := [d1, d2, d3, d4, d5, d6] }
  | _ => none }
def FnRepeatCountReadsWrittenCountsWrongFalsely : Prop := fnRepeatCountReadsWrittenCountsRow.holds Try.pinned (OpenSpec.ofChange fnRepeatCountReadsWrittenCountsWrong)

/-- 'zzlaws_root_b1.FnRepeatAnswerShape': WHATEVER THE INPUT: true; the input reads as it did. -/
def fnRepeatAnswerShapeSpec : ChangeSpec := { name := "fnRepeatAnswerShape", fn := fun _ => fun
  | [d1, d2] => { results := [.lit (.bool true)], args := [d1, d2] }
  | _ => none }
def fnRepeatAnswerShapeRow : OpenClaim := { program := "qxb6001027a", sum := "853bfd56d9198507eca5207910a833e457055e9c80c97a25488e164cc3db2102", func := "example.com/bowerbird/bowerbird/zzlaws_root_b1.FnRepeatAnswerShape", spec := "fnRepeatAnswerShape", unfollowed := true, recurses := true, apart := false }
def FnRepeatAnswerShapeSaid : Prop := fnRepeatAnswerShapeRow.holds Try.pinned (OpenSpec.ofChange fnRepeatAnswerShapeSpec)

/-- ITS FALSE NEIGHBOUR: 'it returns false'. Refute it at one input. -/
def fnRepeatAnswerShapeWrong : ChangeSpec := { name := "fnRepeatAnswerShape", fn := fun _ => fun
  | [d1, d2] => { results := [.lit (.bool false)], args := [d1, d2] }
  | _ => none }
def FnRepeatAnswerShapeWrongFalsely : Prop := fnRepeatAnswerShapeRow.holds Try.pinned (OpenSpec.ofChange fnRepeatAnswerShapeWrong)

/-- 'zzlaws_root_b1.FnRepeatShiftInvariant': WHATEVER THE INPUT: true; the input reads as it did. -/
def fnRepeatShiftInvariantSpec : ChangeSpec := { name := "fnRepeatShiftInvariant", fn := fun _ => fun
  | [d1, d2, d3] => { results := [.lit (.bool true)], args := [d1, d2, d3] }
  | _ => none }
def fnRepeatShiftInvariantRow : OpenClaim := { program := "qxb6001027a", sum := "853bfd56d9198507eca5207910a833e457055e9c80c97a25488e164cc3db2102", func := "example.com/bowerbird/bowerbird/zzlaws_root_b1.FnRepeatShiftInvariant", spec := "fnRepeatShiftInvariant", unfollowed := true, recurses := true, apart := false }
def FnRepeatShiftInvariantSaid : Prop := fnRepeatShiftInvariantRow.holds Try.pinned (OpenSpec.ofChange fnRepeatShiftInvariantSpec)

/-- ITS FALSE NEIGHBOUR: 'it returns false'. Refute it at one input. -/
def fnRepeatShiftInvariantWrong : ChangeSpec := { name := "fnRepeatShiftInvariant", fn := fun _ => fun
  | [d1, d2, d3] => { results := [.lit (.bool false)], args := [d1, d2, d3] }
  | _ => none }
def FnRepeatShiftInvariantWrongFalsely : Prop := fnRepeatShiftInvariantRow.holds Try.pinned (OpenSpec.ofChange fnRepeatShiftInvariantWrong)

/-- 'zzlaws_root_b1.FnRepeatReadsWrittenCounts': WHATEVER THE INPUT: true; the input reads as it did. -/
def fnRepeatReadsWrittenCountsSpec : ChangeSpec := { name := "fnRepeatReadsWrittenCounts", fn := fun _ => fun
  | [d1, d2, d3, d4, d5, d6, d7, d8] => { results := [.lit (.bool true)], args := [d1, d2, d3, d4, d5, d6, d7, d8] }
  | _ => none }
def fnRepeatReadsWrittenCountsRow : OpenClaim := { program := "qxb6001027a", sum := "853bfd56d9198507eca5207910a833e457055e9c80c97a25488e164cc3db2102", func := "example.com/bowerbird/bowerbird/zzlaws_root_b1.FnRepeatReadsWrittenCounts", spec := "fnRepeatReadsWrittenCounts", unfollowed := true, recurses := true, apart := false }
def FnRepeatReadsWrittenCountsSaid : Prop := fnRepeatReadsWrittenCountsRow.holds Try.pinned (OpenSpec.ofChange fnRepeatReadsWrittenCountsSpec)

/-- ITS FALSE NEIGHBOUR: 'it returns false'. Refute it at one input. -/
def fnRepeatReadsWrittenCountsWrong : ChangeSpec := { name := "fnRepeatReadsWrittenCounts", fn := fun _ => fun
  | [d1, d2, d3, d4, d5, d6, d7, d8] => { results := [.lit (.bool false)], args := [d1, d2, d3, d4, d5, d6, d7, d8] }
  | _ => none }
def FnRepeatReadsWrittenCountsWrongFalsely : Prop := fnRepeatReadsWrittenCountsRow.holds Try.pinned (OpenSpec.ofChange fnRepeatReadsWrittenCountsWrong)

end Rows
end Go.Proofs.Qxb6001027a
