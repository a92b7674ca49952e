/-
  No cell of these rows narrows 'for every input' (looked for: loops, veiled, ifaces, maps, wideKeys, modest, calm, conditions, laid).
  DERIVED. THE GIVEN ROWS OF THIS SEAT. 3 by the template 'for every input the law returns true; each argument reads behind the call as it read before'; 0 by the template 'total and deterministic' (their statements: Qxb6604153aTotals.lean).
  GIVEN WITH THE SEED: the statements are not yours to turn. If you find one false, say at which input.
  Laid BY PROGRAM, IN A SANDBOX (cutbox-rows.mjs): the forced cells as the released guide's own fill.sh prints them over the translation e0cfcbf2c850ee52… (all of the seat's roots in one cut). By AI agents, Wed Nov 11 2026. No macro, syntax, notation, axiom, sorry.
-/
import Derived.Test.Qxb6604153aChecked
import GoSem.Claim
import GoSem.ClaimJoined
import GoSem.ClaimMapViews
import Derived.JoinedTies
import Derived.KernelRfl
namespace Go.Proofs.Qxb6604153a
/- THE CELL 'sum', in the pinned program and in every row, IS THE sha256 OF THE DUMP (.gsa) THAT Qxb6604153aProg.lean LOADS. Nothing in Lean hashes anything: it is a label: what it is worth is what the hold of that sum in a sandbox is worth. -/
noncomputable def Try.pinned : Pinned := { name := "qxb6604153a", sum := "e0cfcbf2c850ee5295a199f0ab993c487be66219fa03b30e41535dd0fac092d5", checked := Try.checked }
namespace Rows
def none {H : Type} : Left H := { results := [], args := [] }

/-- 'zzlaws_root_b1.FnFileModeStringOctal': WHATEVER THE INPUT: true; the input reads as it did. -/
def fnFileModeStringOctalSpec : ChangeSpec := { name := "fnFileModeStringOctal", fn := fun _ => fun
  | [d] => { results := [.lit (.bool true)], args := [d] }
  | _ => none }
def fnFileModeStringOctalRow : OpenClaim := { program := "qxb6604153a", sum := "e0cfcbf2c850ee5295a199f0ab993c487be66219fa03b30e41535dd0fac092d5", func := "example.com/objectwell/objectwell/zzlaws_root_b1.FnFileModeStringOctal", spec := "fnFileModeStringOctal", apart := false }
def FnFileModeStringOctalSaid : Prop := fnFileModeStringOctalRow.holds Try.pinned (OpenSpec.ofChange fnFileModeStringOctalSpec)

/-- ITS FALSE NEIGHBOUR: 'it returns false'. Refute it at one input. -/
def fnFileModeStringOctalWrong : ChangeSpec := { name := "fnFileModeStringOctal", fn := fun _ => fun
  | [d] => { results := [.lit (.bool false)], args := [d] }
  | _ => none }
def FnFileModeStringOctalWrongFalsely : Prop := fnFileModeStringOctalRow.holds Try.pinned (OpenSpec.ofChange fnFileModeStringOctalWrong)

/-- 'zzlaws_root_b1.FnFileModeStringOrder': WHATEVER THE INPUT: true; the input reads as it did. -/
def fnFileModeStringOrderSpec : ChangeSpec := { name := "fnFileModeStringOrder", fn := fun _ => fun
  | [d1, d2] => { results := [.lit (.bool true)], args := [d1, d2] }
  | _ => none }
def fnFileModeStringOrderRow : OpenClaim := { program := "qxb6604153a", sum := "e0cfcbf2c850ee5295a199f0ab993c487be66219fa03b30e41535dd0fac092d5", func := "example.com/objectwell/objectwell/zzlaws_root_b1.FnFileModeStringOrder", spec := "fnFileModeStringOrder", apart := false }
def FnFileModeStringOrderSaid : Prop := fnFileModeStringOrderRow.holds Try.pinned (OpenSpec.ofChange fnFileModeStringOrderSpec)

/-- ITS FALSE NEIGHBOUR: 'it returns false'. Refute it at one input. -/
def fnFileModeStringOrderWrong : ChangeSpec := { name := "fnFileModeStringOrder", fn := fun _ => fun
  | [d1, d2] => { results := [.lit (.bool false)], args := [d1, d2] }
  | _ => none }
def FnFileModeStringOrderWrongFalsely : Prop := fnFileModeStringOrderRow.holds Try.pinned (OpenSpec.ofChange fnFileModeStringOrderWrong)

/-- 'zzlaws_root_b1.FnCommentModel': WHATEVER THE INPUT: true; the input reads as it did. -/
def fnCommentModelSpec : ChangeSpec := { name := "fnCommentModel", fn := fun _ => fun
  | [d1, d2] => { results := [.lit (.bool true)], args := [d1, d2] }
  | _ => none }
def fnCommentModelRow : OpenClaim := { program := "qxb6604153a", sum := "e0cfcbf2c850ee5295a199f0ab993c487be66219fa03b30e41535dd0fac092d5", func := "example.com/objectwell/objectwell/zzlaws_root_b1.FnCommentModel", spec := "fnCommentModel", recurses := true, apart := false }
def FnCommentModelSaid : Prop := fnCommentModelRow.holds Try.pinned (OpenSpec.ofChange fnCommentModelSpec)

/-- ITS FALSE NEIGHBOUR: 'it returns false'. Refute it at one input. -/
def fnCommentModelWrong : ChangeSpec := { name := "fnCommentModel", fn := fun _ => fun
  | [d1, d2] => { results := [.lit (.bool false)], args := [d1, d2] }
  | _ => none }
def FnCommentModelWrongFalsely : Prop := fnCommentModelRow.holds Try.pinned (OpenSpec.ofChange fnCommentModelWrong)

end Rows
end Go.Proofs.Qxb6604153a
