/-
  No cell of these rows narrows 'for every input' (looked for: loops, veiled, ifaces, maps, wideKeys, modest, calm, conditions, laid).
  DERIVED. THE GIVEN ROWS OF THIS SEAT. 8 by the template 'for every input the law returns true; each argument reads behind the call as it read before'; 0 by the template 'total and deterministic' (their statements: Qxb6002691aTotals.lean).
  GIVEN WITH THE SEED: the statements are not yours to turn. If you find one false, say at which input.
  Laid BY PROGRAM, IN A SANDBOX (cutbox-rows.mjs): the forced cells as the released guide's own fill.sh prints them over the translation 1f82661eaabc0ebd… (all of the seat's roots in one cut). By AI agents, Wed Nov 11 2026. No macro, syntax, notation, axiom, sorry.
-/
import Derived.Test.Qxb6002691aChecked
import GoSem.Claim
import GoSem.ClaimJoined
import GoSem.ClaimMapViews
import Derived.JoinedTies
import Derived.KernelRfl
namespace Go.Proofs.Qxb6002691a
/- THE CELL 'sum', in the pinned program and in every row, IS THE sha256 OF THE DUMP (.gsa) THAT Qxb6002691aProg.lean LOADS. Nothing in Lean hashes anything: it is a label: what it is worth is what the hold of that sum in a sandbox is worth. -/
noncomputable def Try.pinned : Pinned := { name := "qxb6002691a", sum := "1f82661eaabc0ebd89183f7346aed5282fd4a80d8f0ffd9f536c0adb5cff6770", checked := Try.checked }
namespace Rows
def none {H : Type} : Left H := { results := [], args := [] }

/-- 'zzlaws_root_b1.FnCompareMatchesPointwiseOrder': WHATEVER THE INPUT: true; the input reads as it did. -/
def fnCompareMatchesPointwiseOrderSpec : ChangeSpec := { name := "fnCompareMatchesPointwiseOrder", fn := fun _ => fun
  | [d1, d2, d3, d4] => { results := [.lit (.bool true)], args := [d1, d2, d3, d4] }
  | _ => none }
def fnCompareMatchesPointwiseOrderRow : OpenClaim := { program := "qxb6002691a", sum := "1f82661eaabc0ebd89183f7346aed5282fd4a80d8f0ffd9f536c0adb5cff6770", func := "example.com/precede/precede/zzlaws_root_b1.FnCompareMatchesPointwiseOrder", spec := "fnCompareMatchesPointwiseOrder", apart := false }
def FnCompareMatchesPointwiseOrderSaid : Prop := fnCompareMatchesPointwiseOrderRow.holds Try.pinned (OpenSpec.ofChange fnCompareMatchesPointwiseOrderSpec)

/-- ITS FALSE NEIGHBOUR: 'it returns false'. Refute it at one input. -/
def fnCompareMatchesPointwiseOrderWrong : ChangeSpec := { name := "fnCompareMatchesPointwiseOrder", fn := fun _ => fun
  | [d1, d2, d3, d4] => { results := [.lit (.bool false)], args := [d1, d2, d3, d4] }
  | _ => none }
def FnCompareMatchesPointwiseOrderWrongFalsely : Prop := fnCompareMatchesPointwiseOrderRow.holds Try.pinned (OpenSpec.ofChange fnCompareMatchesPointwiseOrderWrong)

/-- 'zzlaws_root_b1.FnCompareSwappedIsConverse': WHATEVER THE INPUT: true; the input reads as it did. -/
def fnCompareSwappedIsConverseSpec : ChangeSpec := { name := "fnCompareSwappedIsConverse", fn := fun _ => fun
  | [d1, d2, d3, d4] => { results := [.lit (.bool true)], args := [d1, d2, d3, d4] }
  | _ => none }
def fnCompareSwappedIsConverseRow : OpenClaim := { program := "qxb6002691a", sum := "1f82661eaabc0ebd89183f7346aed5282fd4a80d8f0ffd9f536c0adb5cff6770", func := "example.com/precede/precede/zzlaws_root_b1.FnCompareSwappedIsConverse", spec := "fnCompareSwappedIsConverse", apart := false }
def FnCompareSwappedIsConverseSaid : Prop := fnCompareSwappedIsConverseRow.holds Try.pinned (OpenSpec.ofChange fnCompareSwappedIsConverseSpec)

/-- ITS FALSE NEIGHBOUR: 'it returns false'. Refute it at one input. -/
def fnCompareSwappedIsConverseWrong : ChangeSpec := { name := "fnCompareSwappedIsConverse", fn := fun _ => fun
  | [d1, d2, d3, d4] => { results := [.lit (.bool false)], args := [d1, d2, d3, d4] }
  | _ => none }
def FnCompareSwappedIsConverseWrongFalsely : Prop := fnCompareSwappedIsConverseRow.holds Try.pinned (OpenSpec.ofChange fnCompareSwappedIsConverseWrong)

/-- 'zzlaws_root_b1.FnCompareOrderIsTransitive': WHATEVER THE INPUT: true; the input reads as it did. -/
def fnCompareOrderIsTransitiveSpec : ChangeSpec := { name := "fnCompareOrderIsTransitive", fn := fun _ => fun
  | [d1, d2, d3, d4, d5, d6] => { results := [.lit (.bool true)], args := [d1, d2, d3, d4, d5, d6] }
  | _ => none }
def fnCompareOrderIsTransitiveRow : OpenClaim := { program := "qxb6002691a", sum := "1f82661eaabc0ebd89183f7346aed5282fd4a80d8f0ffd9f536c0adb5cff6770", func := "example.com/precede/precede/zzlaws_root_b1.FnCompareOrderIsTransitive", spec := "fnCompareOrderIsTransitive", apart := false }
def FnCompareOrderIsTransitiveSaid : Prop := fnCompareOrderIsTransitiveRow.holds Try.pinned (OpenSpec.ofChange fnCompareOrderIsTransitiveSpec)

/-- ITS FALSE NEIGHBOUR: 'it returns false'. Refute it at one input. -/
def fnCompareOrderIsTransitiveWrong : ChangeSpec := { name := "fnCompareOrderIsTransitive", fn := fun _ => fun
  | [d1, d2, d3, d4, d5, d6] => { results := [.lit (.bool false)], args := [d1, d2, d3, d4, d5, d6] }
  | _ => none }
def FnCompareOrderIsTransitiveWrongFalsely : Prop := fnCompareOrderIsTransitiveRow.holds Try.pinned (OpenSpec.ofChange fnCompareOrderIsTransitiveWrong)

/-- 'zzlaws_root_b1.FnSkipStringReportsWhereItStopped': WHATEVER THE INPUT: true; the input reads as it did. -/
def fnSkipStringReportsWhereItStoppedSpec : ChangeSpec := { name := "fnSkipStringReportsWhereItStopped", fn := fun _ => fun
  | [d1, d2] => { results := [.lit (.bool true)], args := [d1, d2] }
  | _ => none }
def fnSkipStringReportsWhereItStoppedRow : OpenClaim := { program := "qxb6002691a", sum := "1f82661eaabc0ebd89183f7346aed5282fd4a80d8f0ffd9f536c0adb5cff6770", func := "example.com/precede/precede/zzlaws_root_b1.FnSkipStringReportsWhereItStopped", spec := "fnSkipStringReportsWhereItStopped", apart := false }
def FnSkipStringReportsWhereItStoppedSaid : Prop := fnSkipStringReportsWhereItStoppedRow.holds Try.pinned (OpenSpec.ofChange fnSkipStringReportsWhereItStoppedSpec)

/-- ITS FALSE NEIGHBOUR: 'it returns false'. Refute it at one input. -/
def fnSkipStringReportsWhereItStoppedWrong : ChangeSpec := { name := "fnSkipStringReportsWhereItStopped", fn := fun _ => fun
  | [d1, d2] => { results := [.lit (.bool false)], args := [d1, d2] }
  | _ => none }
def FnSkipStringReportsWhereItStoppedWrongFalsely : Prop := fnSkipStringReportsWhereItStoppedRow.holds Try.pinned (OpenSpec.ofChange fnSkipStringReportsWhereItStoppedWrong)

/-- 'zzlaws_root_b1.FnSkipStringStepsOverAnEscapedString': WHATEVER THE INPUT: true; the input reads as it did. -/
def fnSkipStringStepsOverAnEscapedStringSpec : ChangeSpec := { name := "fnSkipStringStepsOverAnEscapedString", fn := fun _ => fun
  | [d1, d2] => { results := [.lit (.bool true)], args := [d1, d2] }
  | _ => none }
def fnSkipStringStepsOverAnEscapedStringRow : OpenClaim := { program := "qxb6002691a", sum := "1f82661eaabc0ebd89183f7346aed5282fd4a80d8f0ffd9f536c0adb5cff6770", func := "example.com/precede/precede/zzlaws_root_b1.FnSkipStringStepsOverAnEscapedString", spec := "fnSkipStringStepsOverAnEscapedString", apart := false }
def FnSkipStringStepsOverAnEscapedStringSaid : Prop := fnSkipStringStepsOverAnEscapedStringRow.holds Try.pinned (OpenSpec.ofChange fnSkipStringStepsOverAnEscapedStringSpec)

/-- ITS FALSE NEIGHBOUR: 'it returns false'. Refute it at one input. -/
def fnSkipStringStepsOverAnEscapedStringWrong : ChangeSpec := { name := "fnSkipStringStepsOverAnEscapedString", fn := fun _ => fun
  | [d1, d2] => { results := [.lit (.bool false)], args := [d1, d2] }
  | _ => none }
def FnSkipStringStepsOverAnEscapedStringWrongFalsely : Prop := fnSkipStringStepsOverAnEscapedStringRow.holds Try.pinned (OpenSpec.ofChange fnSkipStringStepsOverAnEscapedStringWrong)

/-- 'zzlaws_root_b1.FnSkipStringIgnoresTextAfterWhereItStopped': WHATEVER THE INPUT: true; the input reads as it did. -/
def fnSkipStringIgnoresTextAfterWhereItStoppedSpec : ChangeSpec := { name := "fnSkipStringIgnoresTextAfterWhereItStopped", fn := fun _ => fun
  | [d1, d2, d3] => { results := [.lit (.bool true)], args := [d1, d2, d3] }
  | _ => none }
def fnSkipStringIgnoresTextAfterWhereItStoppedRow : OpenClaim := { program := "qxb6002691a", sum := "1f82661eaabc0ebd89183f7346aed5282fd4a80d8f0ffd9f536c0adb5cff6770", func := "example.com/precede/precede/zzlaws_root_b1.FnSkipStringIgnoresTextAfterWhereItStopped", spec := "fnSkipStringIgnoresTextAfterWhereItStopped", apart := false }
def FnSkipStringIgnoresTextAfterWhereItStoppedSaid : Prop := fnSkipStringIgnoresTextAfterWhereItStoppedRow.holds Try.pinned (OpenSpec.ofChange fnSkipStringIgnoresTextAfterWhereItStoppedSpec)

/-- ITS FALSE NEIGHBOUR: 'it returns false'. Refute it at one input. -/
def fnSkipStringIgnoresTextAfterWhereItStoppedWrong : ChangeSpec := { name := "fnSkipStringIgnoresTextAfterWhereItStopped", fn := fun _ => fun
  | [d1, d2, d3] => { results := [.lit (.bool false)], args := [d1, d2, d3] }
  | _ => none }
def FnSkipStringIgnoresTextAfterWhereItStoppedWrongFalsely : Prop := fnSkipStringIgnoresTextAfterWhereItStoppedRow.holds Try.pinned (OpenSpec.ofChange fnSkipStringIgnoresTextAfterWhereItStoppedWrong)

/-- 'zzlaws_root_b1.FnCountEntriesAtMostTheColons': WHATEVER THE INPUT: true; the input reads as it did. -/
def fnCountEntriesAtMostTheColonsSpec : ChangeSpec := { name := "fnCountEntriesAtMostTheColons", fn := fun _ => fun
  | [d] => { results := [.lit (.bool true)], args := [d] }
  | _ => none }
def fnCountEntriesAtMostTheColonsRow : OpenClaim := { program := "qxb6002691a", sum := "1f82661eaabc0ebd89183f7346aed5282fd4a80d8f0ffd9f536c0adb5cff6770", func := "example.com/precede/precede/zzlaws_root_b1.FnCountEntriesAtMostTheColons", spec := "fnCountEntriesAtMostTheColons", apart := false }
def FnCountEntriesAtMostTheColonsSaid : Prop := fnCountEntriesAtMostTheColonsRow.holds Try.pinned (OpenSpec.ofChange fnCountEntriesAtMostTheColonsSpec)

/-- ITS FALSE NEIGHBOUR: 'it returns false'. Refute it at one input. -/
def fnCountEntriesAtMostTheColonsWrong : ChangeSpec := { name := "fnCountEntriesAtMostTheColons", fn := fun _ => fun
  | [d] => { results := [.lit (.bool false)], args := [d] }
  | _ => none }
def FnCountEntriesAtMostTheColonsWrongFalsely : Prop := fnCountEntriesAtMostTheColonsRow.holds Try.pinned (OpenSpec.ofChange fnCountEntriesAtMostTheColonsWrong)

/-- 'zzlaws_root_b1.FnCountEntriesCountsTheKeysOfAnObject': WHATEVER THE INPUT: true; the input reads as it did. -/
def fnCountEntriesCountsTheKeysOfAnObjectSpec : ChangeSpec := { name := "fnCountEntriesCountsTheKeysOfAnObject", fn := fun _ => fun
  | [d1, d2, d3, d4] => { results := [.lit (.bool true)], args := [d1, d2, d3, d4] }
  | _ => none }
def fnCountEntriesCountsTheKeysOfAnObjectRow : OpenClaim := { program := "qxb6002691a", sum := "1f82661eaabc0ebd89183f7346aed5282fd4a80d8f0ffd9f536c0adb5cff6770", func := "example.com/precede/precede/zzlaws_root_b1.FnCountEntriesCountsTheKeysOfAnObject", spec := "fnCountEntriesCountsTheKeysOfAnObject", apart := false }
def FnCountEntriesCountsTheKeysOfAnObjectSaid : Prop := fnCountEntriesCountsTheKeysOfAnObjectRow.holds Try.pinned (OpenSpec.ofChange fnCountEntriesCountsTheKeysOfAnObjectSpec)

/-- ITS FALSE NEIGHBOUR: 'it returns false'. Refute it at one input. -/
def fnCountEntriesCountsTheKeysOfAnObjectWrong : ChangeSpec := { name := "fnCountEntriesCountsTheKeysOfAnObject", fn := fun _ => fun
  | [d1, d2, d3, d4] => { results := [.lit (.bool false)], args := [d1, d2, d3, d4] }
  | _ => none }
def FnCountEntriesCountsTheKeysOfAnObjectWrongFalsely : Prop := fnCountEntriesCountsTheKeysOfAnObjectRow.holds Try.pinned (OpenSpec.ofChange fnCountEntriesCountsTheKeysOfAnObjectWrong)

end Rows
end Go.Proofs.Qxb6002691a
