/-
  No cell of these rows narrows 'for every input' (looked for: loops, veiled, ifaces, maps, wideKeys, modest, calm, conditions, laid).
  DERIVED. THE GIVEN ROWS OF THIS SEAT. 3 by the template 'for every input the law returns true; each argument reads behind the call as it read before'; 0 by the template 'total and deterministic' (their statements: Qxb6604712aTotals.lean).
  GIVEN WITH THE SEED: the statements are not yours to turn. If you find one false, say at which input.
  Laid BY PROGRAM, IN A SANDBOX (cutbox-rows.mjs): the forced cells as the released guide's own fill.sh prints them over the translation e546c21727d9bdcf… (all of the seat's roots in one cut). By AI agents, Wed Nov 11 2026. No macro, syntax, notation, axiom, sorry.
-/
import Derived.Test.Qxb6604712aChecked
import GoSem.Claim
import GoSem.ClaimJoined
import GoSem.ClaimMapViews
import Derived.JoinedTies
import Derived.KernelRfl
namespace Go.Proofs.Qxb6604712a
/- THE CELL 'sum', in the pinned program and in every row, IS THE sha256 OF THE DUMP (.gsa) THAT Qxb6604712aProg.lean LOADS. Nothing in Lean hashes anything: it is a label: what it is worth is what the hold of that sum in a sandbox is worth. -/
noncomputable def Try.pinned : Pinned := { name := "qxb6604712a", sum := "e546c21727d9bdcf55a52a604e30e290cbc8e27f3cb901e90eaca207c08e46ad", checked := Try.checked }
namespace Rows
def none {H : Type} : Left H := { results := [], args := [] }

/-- 'zzlaws_root_b1.FnHoldRoundKeepsHighestRounds': WHATEVER THE INPUT: true; the input reads as it did. -/
def fnHoldRoundKeepsHighestRoundsSpec : ChangeSpec := { name := "fnHoldRoundKeepsHighestRounds", fn := fun _ => fun
  | [d1, d2, d3, d4, d5] => { results := [.lit (.bool true)], args := [d1, d2, d3, d4, d5] }
  | _ => none }
def fnHoldRoundKeepsHighestRoundsRow : OpenClaim := { program := "qxb6604712a", sum := "e546c21727d9bdcf55a52a604e30e290cbc8e27f3cb901e90eaca207c08e46ad", func := "example.com/roundlock/roundlock/zzlaws_root_b1.FnHoldRoundKeepsHighestRounds", spec := "fnHoldRoundKeepsHighestRounds", inPlace := ["slices.overlaps[example.com/roundlock/roundlock.heldRound]"], unfollowed := true, recurses := true, apart := false }
def FnHoldRoundKeepsHighestRoundsSaid : Prop := fnHoldRoundKeepsHighestRoundsRow.holds Try.pinned (OpenSpec.ofChange fnHoldRoundKeepsHighestRoundsSpec)

/-- ITS FALSE NEIGHBOUR: 'it returns false'. Refute it at one input. -/
def fnHoldRoundKeepsHighestRoundsWrong : ChangeSpec := { name := "fnHoldRoundKeepsHighestRounds", fn := fun _ => fun
  | [d1, d2, d3, d4, d5] => { results := [.lit (.bool false)], args := [d1, d2, d3, d4, d5] }
  | _ => none }
def FnHoldRoundKeepsHighestRoundsWrongFalsely : Prop := fnHoldRoundKeepsHighestRoundsRow.holds Try.pinned (OpenSpec.ofChange fnHoldRoundKeepsHighestRoundsWrong)

/-- 'zzlaws_root_b1.FnHoldRoundTwiceIsOnceAndHoldsTheVote': WHATEVER THE INPUT: true; the input reads as it did. -/
def fnHoldRoundTwiceIsOnceAndHoldsTheVoteSpec : ChangeSpec := { name := "fnHoldRoundTwiceIsOnceAndHoldsTheVote", fn := fun _ => fun
  | [d1, d2, d3, d4, d5] => { results := [.lit (.bool true)], args := [d1, d2, d3, d4, d5] }
  | _ => none }
def fnHoldRoundTwiceIsOnceAndHoldsTheVoteRow : OpenClaim := { program := "qxb6604712a", sum := "e546c21727d9bdcf55a52a604e30e290cbc8e27f3cb901e90eaca207c08e46ad", func := "example.com/roundlock/roundlock/zzlaws_root_b1.FnHoldRoundTwiceIsOnceAndHoldsTheVote", spec := "fnHoldRoundTwiceIsOnceAndHoldsTheVote", inPlace := ["slices.overlaps[example.com/roundlock/roundlock.heldRound]"], unfollowed := true, recurses := true, apart := false }
def FnHoldRoundTwiceIsOnceAndHoldsTheVoteSaid : Prop := fnHoldRoundTwiceIsOnceAndHoldsTheVoteRow.holds Try.pinned (OpenSpec.ofChange fnHoldRoundTwiceIsOnceAndHoldsTheVoteSpec)

/-- ITS FALSE NEIGHBOUR: 'it returns false'. Refute it at one input. -/
def fnHoldRoundTwiceIsOnceAndHoldsTheVoteWrong : ChangeSpec := { name := "fnHoldRoundTwiceIsOnceAndHoldsTheVote", fn := fun _ => fun
  | [d1, d2, d3, d4, d5] => { results := [.lit (.bool false)], args := [d1, d2, d3, d4, d5] }
  | _ => none }
def FnHoldRoundTwiceIsOnceAndHoldsTheVoteWrongFalsely : Prop := fnHoldRoundTwiceIsOnceAndHoldsTheVoteRow.holds Try.pinned (OpenSpec.ofChange fnHoldRoundTwiceIsOnceAndHoldsTheVoteWrong)

/-- 'zzlaws_root_b1.FnResetThenRefillIsFresh': WHATEVER THE INPUT: true; the input reads as it did. -/
def fnResetThenRefillIsFreshSpec : ChangeSpec := { name := "fnResetThenRefillIsFresh", fn := fun _ => fun
  | [d1, d2, d3] => { results := [.lit (.bool true)], args := [d1, d2, d3] }
  | _ => none }
def fnResetThenRefillIsFreshRow : OpenClaim := { program := "qxb6604712a", sum := "e546c21727d9bdcf55a52a604e30e290cbc8e27f3cb901e90eaca207c08e46ad", func := "example.com/roundlock/roundlock/zzlaws_root_b1.FnResetThenRefillIsFresh", spec := "fnResetThenRefillIsFresh", apart := false }
def FnResetThenRefillIsFreshSaid : Prop := fnResetThenRefillIsFreshRow.holds Try.pinned (OpenSpec.ofChange fnResetThenRefillIsFreshSpec)

/-- ITS FALSE NEIGHBOUR: 'it returns false'. Refute it at one input. -/
def fnResetThenRefillIsFreshWrong : ChangeSpec := { name := "fnResetThenRefillIsFresh", fn := fun _ => fun
  | [d1, d2, d3] => { results := [.lit (.bool false)], args := [d1, d2, d3] }
  | _ => none }
def FnResetThenRefillIsFreshWrongFalsely : Prop := fnResetThenRefillIsFreshRow.holds Try.pinned (OpenSpec.ofChange fnResetThenRefillIsFreshWrong)

end Rows
end Go.Proofs.Qxb6604712a
