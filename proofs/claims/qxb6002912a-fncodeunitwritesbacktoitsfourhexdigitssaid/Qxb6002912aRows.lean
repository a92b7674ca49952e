/-
  No cell of these rows narrows 'for every input' (looked for: loops, veiled, ifaces, maps, wideKeys, modest, calm, conditions, laid).
  DERIVED. THE GIVEN ROWS OF THIS SEAT. 3 by the template 'for every input the law returns true; each argument reads behind the call as it read before'; 0 by the template 'total and deterministic' (their statements: Qxb6002912aTotals.lean).
  GIVEN WITH THE SEED: the statements are not yours to turn. If you find one false, say at which input.
  Laid BY PROGRAM, IN A SANDBOX (cutbox-rows.mjs): the forced cells as the released guide's own fill.sh prints them over the translation 6bd4d46a264c063d… (all of the seat's roots in one cut). By AI agents, Wed Nov 11 2026. No macro, syntax, notation, axiom, sorry.
-/
import Derived.Test.Qxb6002912aChecked
import GoSem.Claim
import GoSem.ClaimJoined
import GoSem.ClaimMapViews
import Derived.JoinedTies
import Derived.KernelRfl
namespace Go.Proofs.Qxb6002912a
/- THE CELL 'sum', in the pinned program and in every row, IS THE sha256 OF THE DUMP (.gsa) THAT Qxb6002912aProg.lean LOADS. Nothing in Lean hashes anything: it is a label: what it is worth is what the hold of that sum in a sandbox is worth. -/
noncomputable def Try.pinned : Pinned := { name := "qxb6002912a", sum := "6bd4d46a264c063d4d7a264104184ca5b6d3db6890acfebbc43572c740d14145", checked := Try.checked }
namespace Rows
def none {H : Type} : Left H := { results := [], args := [] }

/-- 'zzlaws_pkg_record_b1.FnCodeUnitWritesBackToItsFourHexDigits': WHATEVER THE INPUT: true; the input reads as it did. -/
def fnCodeUnitWritesBackToItsFourHexDigitsSpec : ChangeSpec := { name := "fnCodeUnitWritesBackToItsFourHexDigits", fn := fun _ => fun
  | [d] => { results := [.lit (.bool true)], args := [d] }
  | _ => none }
def fnCodeUnitWritesBackToItsFourHexDigitsRow : OpenClaim := { program := "qxb6002912a", sum := "6bd4d46a264c063d4d7a264104184ca5b6d3db6890acfebbc43572c740d14145", func := "example.com/attestrail/attestrail/zzlaws_pkg_record_b1.FnCodeUnitWritesBackToItsFourHexDigits", spec := "fnCodeUnitWritesBackToItsFourHexDigits", apart := false }
def FnCodeUnitWritesBackToItsFourHexDigitsSaid : Prop := fnCodeUnitWritesBackToItsFourHexDigitsRow.holds Try.pinned (OpenSpec.ofChange fnCodeUnitWritesBackToItsFourHexDigitsSpec)

/-- ITS FALSE NEIGHBOUR: 'it returns false'. Refute it at one input. -/
def fnCodeUnitWritesBackToItsFourHexDigitsWrong : ChangeSpec := { name := "fnCodeUnitWritesBackToItsFourHexDigits", fn := fun _ => fun
  | [d] => { results := [.lit (.bool false)], args := [d] }
  | _ => none }
def FnCodeUnitWritesBackToItsFourHexDigitsWrongFalsely : Prop := fnCodeUnitWritesBackToItsFourHexDigitsRow.holds Try.pinned (OpenSpec.ofChange fnCodeUnitWritesBackToItsFourHexDigitsWrong)

/-- 'zzlaws_pkg_record_b1.FnCountMembersCountsTopLevelMembers': WHATEVER THE INPUT: true; the input reads as it did. -/
def fnCountMembersCountsTopLevelMembersSpec : ChangeSpec := { name := "fnCountMembersCountsTopLevelMembers", fn := fun _ => fun
  | [d] => { results := [.lit (.bool true)], args := [d] }
  | _ => none }
def fnCountMembersCountsTopLevelMembersRow : OpenClaim := { program := "qxb6002912a", sum := "6bd4d46a264c063d4d7a264104184ca5b6d3db6890acfebbc43572c740d14145", func := "example.com/attestrail/attestrail/zzlaws_pkg_record_b1.FnCountMembersCountsTopLevelMembers", spec := "fnCountMembersCountsTopLevelMembers", recurses := true, apart := false }
def FnCountMembersCountsTopLevelMembersSaid : Prop := fnCountMembersCountsTopLevelMembersRow.holds Try.pinned (OpenSpec.ofChange fnCountMembersCountsTopLevelMembersSpec)

/-- ITS FALSE NEIGHBOUR: 'it returns false'. Refute it at one input. -/
def fnCountMembersCountsTopLevelMembersWrong : ChangeSpec := { name := "fnCountMembersCountsTopLevelMembers", fn := fun _ => fun
  | [d] => { results := [.lit (.bool false)], args := [d] }
  | _ => none }
def FnCountMembersCountsTopLevelMembersWrongFalsely : Prop := fnCountMembersCountsTopLevelMembersRow.holds Try.pinned (OpenSpec.ofChange fnCountMembersCountsTopLevelMembersWrong)

/-- 'zzlaws_pkg_record_b1.FnTakeScriptKeepsSeqMinusEvents': WHATEVER THE INPUT: true; the input reads as it did. -/
def fnTakeScriptKeepsSeqMinusEventsSpec : ChangeSpec := { name := "fnTakeScriptKeepsSeqMinusEvents", fn := fun _ => fun
  | [d1, d2, d3, d4] => { results := [.lit (.bool true)], args := [d1, d2, d3, d4] }
  | _ => none }
def fnTakeScriptKeepsSeqMinusEventsRow : OpenClaim := { program := "qxb6002912a", sum := "6bd4d46a264c063d4d7a264104184ca5b6d3db6890acfebbc43572c740d14145", func := "example.com/attestrail/attestrail/zzlaws_pkg_record_b1.FnTakeScriptKeepsSeqMinusEvents", spec := "fnTakeScriptKeepsSeqMinusEvents", apart := false }
def FnTakeScriptKeepsSeqMinusEventsSaid : Prop := fnTakeScriptKeepsSeqMinusEventsRow.holds Try.pinned (OpenSpec.ofChange fnTakeScriptKeepsSeqMinusEventsSpec)

/-- ITS FALSE NEIGHBOUR: 'it returns false'. Refute it at one input. -/
def fnTakeScriptKeepsSeqMinusEventsWrong : ChangeSpec := { name := "fnTakeScriptKeepsSeqMinusEvents", fn := fun _ => fun
  | [d1, d2, d3, d4] => { results := [.lit (.bool false)], args := [d1, d2, d3, d4] }
  | _ => none }
def FnTakeScriptKeepsSeqMinusEventsWrongFalsely : Prop := fnTakeScriptKeepsSeqMinusEventsRow.holds Try.pinned (OpenSpec.ofChange fnTakeScriptKeepsSeqMinusEventsWrong)

end Rows
end Go.Proofs.Qxb6002912a
