/-
  No cell of these rows narrows 'for every input' (looked for: loops, veiled, ifaces, maps, wideKeys, modest, calm, conditions, laid).
  DERIVED. THE GIVEN ROWS OF THIS SEAT. 23 by the template 'for every input the law returns true; each argument reads behind the call as it read before'; 0 by the template 'total and deterministic' (their statements: YtpkgmgebhnhhjaaTotals.lean).
  GIVEN WITH THE SEED: the statements are not yours to turn. If you find one false, say at which input.
  Laid BY PROGRAM, IN A SANDBOX (cutbox-rows.mjs): the forced cells as the released guide's own fill.sh prints them over the translation 956b97c7f29281da… (all of the seat's roots in one cut). By AI agents, Wed Nov 11 2026. No macro, syntax, notation, axiom, sorry.
-/
import Derived.Test.YtpkgmgebhnhhjaaChecked
import GoSem.Claim
import GoSem.ClaimJoined
import GoSem.ClaimMapViews
import Derived.JoinedTies
import Derived.KernelRfl
namespace Go.Proofs.Ytpkgmgebhnhhjaa
/- THE CELL 'sum', in the pinned program and in every row, IS THE sha256 OF THE DUMP (.gsa) THAT YtpkgmgebhnhhjaaProg.lean LOADS. Nothing in Lean hashes anything: it is a label: what it is worth is what the hold of that sum in a sandbox is worth. -/
noncomputable def Try.pinned : Pinned := { name := "ytpkgmgebhnhhjaa", sum := "956b97c7f29281da6acf4aea3f1339f0e587e87e43649da76f52f07a479f1b7d", checked := Try.checked }
namespace Rows
def none {H : Type} : Left H := { results := [], args := [] }

/-- 'laws.FnBTreePutGet': WHATEVER THE INPUT: true; the input reads as it did. -/
def fnBTreePutGetSpec : ChangeSpec := { name := "fnBTreePutGet", fn := fun _ => fun
  | [d1, d2, d3, d4, d5, d6] => { results := [.lit (.bool true)], args := [d1, d2, d3, d4, d5, d6] }
  | _ => none }
def fnBTreePutGetRow : OpenClaim := { program := "ytpkgmgebhnhhjaa", sum := "956b97c7f29281da6acf4aea3f1339f0e587e87e43649da76f52f07a479f1b7d", func := "loop.example/pub-sortedtrees/laws.FnBTreePutGet", spec := "fnBTreePutGet", unfollowed := true, recurses := true, apart := false }
def FnBTreePutGetSaid : Prop := fnBTreePutGetRow.holds Try.pinned (OpenSpec.ofChange fnBTreePutGetSpec)

/-- ITS FALSE NEIGHBOUR: 'it returns false'. Refute it at one input. -/
def fnBTreePutGetWrong : ChangeSpec := { name := "fnBTreePutGet", fn := fun _ => fun
  | [d1, d2, d3, d4, d5, d6] => { results := [.lit (.bool false)], args := [d1, d2, d3, d4, d5, d6] }
  | _ => none }
def FnBTreePutGetWrongFalsely : Prop := fnBTreePutGetRow.holds Try.pinned (OpenSpec.ofChange fnBTreePutGetWrong)

/-- 'laws.FnBTreeStill': WHATEVER THE INPUT: true; the input reads as it did. -/
def fnBTreeStillSpec : ChangeSpec := { name := "fnBTreeStill", fn := fun _ => fun
  | [d1, d2, d3, d4, d5] => { results := [.lit (.bool true)], args := [d1, d2, d3, d4, d5] }
  | _ => none }
def fnBTreeStillRow : OpenClaim := { program := "ytpkgmgebhnhhjaa", sum := "956b97c7f29281da6acf4aea3f1339f0e587e87e43649da76f52f07a479f1b7d", func := "loop.example/pub-sortedtrees/laws.FnBTreeStill", spec := "fnBTreeStill", unfollowed := true, recurses := true, apart := false }
def FnBTreeStillSaid : Prop := fnBTreeStillRow.holds Try.pinned (OpenSpec.ofChange fnBTreeStillSpec)

/-- ITS FALSE NEIGHBOUR: 'it returns false'. Refute it at one input. -/
def fnBTreeStillWrong : ChangeSpec := { name := "fnBTreeStill", fn := fun _ => fun
  | [d1, d2, d3, d4, d5] => { results := [.lit (.bool false)], args := [d1, d2, d3, d4, d5] }
  | _ => none }
def FnBTreeStillWrongFalsely : Prop := fnBTreeStillRow.holds Try.pinned (OpenSpec.ofChange fnBTreeStillWrong)

/-- 'laws.FnBTreeCleared': WHATEVER THE INPUT: true; the input reads as it did. -/
def fnBTreeClearedSpec : ChangeSpec := { name := "fnBTreeCleared", fn := fun _ => fun
  | [d1, d2, d3, d4] => { results := [.lit (.bool true)], args := [d1, d2, d3, d4] }
  | _ => none }
def fnBTreeClearedRow : OpenClaim := { program := "ytpkgmgebhnhhjaa", sum := "956b97c7f29281da6acf4aea3f1339f0e587e87e43649da76f52f07a479f1b7d", func := "loop.example/pub-sortedtrees/laws.FnBTreeCleared", spec := "fnBTreeCleared", unfollowed := true, recurses := true, apart := false }
def FnBTreeClearedSaid : Prop := fnBTreeClearedRow.holds Try.pinned (OpenSpec.ofChange fnBTreeClearedSpec)

/-- ITS FALSE NEIGHBOUR: 'it returns false'. Refute it at one input. -/
def fnBTreeClearedWrong : ChangeSpec := { name := "fnBTreeCleared", fn := fun _ => fun
  | [d1, d2, d3, d4] => { results := [.lit (.bool false)], args := [d1, d2, d3, d4] }
  | _ => none }
def FnBTreeClearedWrongFalsely : Prop := fnBTreeClearedRow.holds Try.pinned (OpenSpec.ofChange fnBTreeClearedWrong)

/-- 'laws.FnBTreeCommute': WHATEVER THE INPUT: true; the input reads as it did. -/
def fnBTreeCommuteSpec : ChangeSpec := { name := "fnBTreeCommute", fn := fun _ => fun
  | [d1, d2, d3, d4, d5] => { results := [.lit (.bool true)], args := [d1, d2, d3, d4, d5] }
  | _ => none }
def fnBTreeCommuteRow : OpenClaim := { program := "ytpkgmgebhnhhjaa", sum := "956b97c7f29281da6acf4aea3f1339f0e587e87e43649da76f52f07a479f1b7d", func := "loop.example/pub-sortedtrees/laws.FnBTreeCommute", spec := "fnBTreeCommute", unfollowed := true, recurses := true, apart := false }
def FnBTreeCommuteSaid : Prop := fnBTreeCommuteRow.holds Try.pinned (OpenSpec.ofChange fnBTreeCommuteSpec)

/-- ITS FALSE NEIGHBOUR: 'it returns false'. Refute it at one input. -/
def fnBTreeCommuteWrong : ChangeSpec := { name := "fnBTreeCommute", fn := fun _ => fun
  | [d1, d2, d3, d4, d5] => { results := [.lit (.bool false)], args := [d1, d2, d3, d4, d5] }
  | _ => none }
def FnBTreeCommuteWrongFalsely : Prop := fnBTreeCommuteRow.holds Try.pinned (OpenSpec.ofChange fnBTreeCommuteWrong)

/-- 'laws.FnBTreeDegree': WHATEVER THE INPUT: true; the input reads as it did. -/
def fnBTreeDegreeSpec : ChangeSpec := { name := "fnBTreeDegree", fn := fun _ => fun
  | [d1, d2, d3, d4] => { results := [.lit (.bool true)], args := [d1, d2, d3, d4] }
  | _ => none }
def fnBTreeDegreeRow : OpenClaim := { program := "ytpkgmgebhnhhjaa", sum := "956b97c7f29281da6acf4aea3f1339f0e587e87e43649da76f52f07a479f1b7d", func := "loop.example/pub-sortedtrees/laws.FnBTreeDegree", spec := "fnBTreeDegree", unfollowed := true, recurses := true, apart := false }
def FnBTreeDegreeSaid : Prop := fnBTreeDegreeRow.holds Try.pinned (OpenSpec.ofChange fnBTreeDegreeSpec)

/-- ITS FALSE NEIGHBOUR: 'it returns false'. Refute it at one input. -/
def fnBTreeDegreeWrong : ChangeSpec := { name := "fnBTreeDegree", fn := fun _ => fun
  | [d1, d2, d3, d4] => { results := [.lit (.bool false)], args := [d1, d2, d3, d4] }
  | _ => none }
def FnBTreeDegreeWrongFalsely : Prop := fnBTreeDegreeRow.holds Try.pinned (OpenSpec.ofChange fnBTreeDegreeWrong)

/-- 'laws.FnBTreeSize': WHATEVER THE INPUT: true; the input reads as it did. -/
def fnBTreeSizeSpec : ChangeSpec := { name := "fnBTreeSize", fn := fun _ => fun
  | [d1, d2, d3] => { results := [.lit (.bool true)], args := [d1, d2, d3] }
  | _ => none }
def fnBTreeSizeRow : OpenClaim := { program := "ytpkgmgebhnhhjaa", sum := "956b97c7f29281da6acf4aea3f1339f0e587e87e43649da76f52f07a479f1b7d", func := "loop.example/pub-sortedtrees/laws.FnBTreeSize", spec := "fnBTreeSize", unfollowed := true, recurses := true, apart := false }
def FnBTreeSizeSaid : Prop := fnBTreeSizeRow.holds Try.pinned (OpenSpec.ofChange fnBTreeSizeSpec)

/-- ITS FALSE NEIGHBOUR: 'it returns false'. Refute it at one input. -/
def fnBTreeSizeWrong : ChangeSpec := { name := "fnBTreeSize", fn := fun _ => fun
  | [d1, d2, d3] => { results := [.lit (.bool false)], args := [d1, d2, d3] }
  | _ => none }
def FnBTreeSizeWrongFalsely : Prop := fnBTreeSizeRow.holds Try.pinned (OpenSpec.ofChange fnBTreeSizeWrong)

/-- 'laws.FnBTreeStateRest': WHATEVER THE INPUT: true; the input reads as it did. -/
def fnBTreeStateRestSpec : ChangeSpec := { name := "fnBTreeStateRest", fn := fun _ => fun
  | [d1, d2, d3] => { results := [.lit (.bool true)], args := [d1, d2, d3] }
  | _ => none }
def fnBTreeStateRestRow : OpenClaim := { program := "ytpkgmgebhnhhjaa", sum := "956b97c7f29281da6acf4aea3f1339f0e587e87e43649da76f52f07a479f1b7d", func := "loop.example/pub-sortedtrees/laws.FnBTreeStateRest", spec := "fnBTreeStateRest", unfollowed := true, recurses := true, apart := false }
def FnBTreeStateRestSaid : Prop := fnBTreeStateRestRow.holds Try.pinned (OpenSpec.ofChange fnBTreeStateRestSpec)

/-- ITS FALSE NEIGHBOUR: 'it returns false'. Refute it at one input. -/
def fnBTreeStateRestWrong : ChangeSpec := { name := "fnBTreeStateRest", fn := fun _ => fun
  | [d1, d2, d3] => { results := [.lit (.bool false)], args := [d1, d2, d3] }
  | _ => none }
def FnBTreeStateRestWrongFalsely : Prop := fnBTreeStateRestRow.holds Try.pinned (OpenSpec.ofChange fnBTreeStateRestWrong)

/-- 'laws.FnBTreeTurned': WHATEVER THE INPUT: true; the input reads as it did. -/
def fnBTreeTurnedSpec : ChangeSpec := { name := "fnBTreeTurned", fn := fun _ => fun
  | [d1, d2] => { results := [.lit (.bool true)], args := [d1, d2] }
  | _ => none }
def fnBTreeTurnedRow : OpenClaim := { program := "ytpkgmgebhnhhjaa", sum := "956b97c7f29281da6acf4aea3f1339f0e587e87e43649da76f52f07a479f1b7d", func := "loop.example/pub-sortedtrees/laws.FnBTreeTurned", spec := "fnBTreeTurned", unfollowed := true, recurses := true, apart := false }
def FnBTreeTurnedSaid : Prop := fnBTreeTurnedRow.holds Try.pinned (OpenSpec.ofChange fnBTreeTurnedSpec)

/-- ITS FALSE NEIGHBOUR: 'it returns false'. Refute it at one input. -/
def fnBTreeTurnedWrong : ChangeSpec := { name := "fnBTreeTurned", fn := fun _ => fun
  | [d1, d2] => { results := [.lit (.bool false)], args := [d1, d2] }
  | _ => none }
def FnBTreeTurnedWrongFalsely : Prop := fnBTreeTurnedRow.holds Try.pinned (OpenSpec.ofChange fnBTreeTurnedWrong)

/-- 'laws.FnBTreeTwice': WHATEVER THE INPUT: true; the input reads as it did. -/
def fnBTreeTwiceSpec : ChangeSpec := { name := "fnBTreeTwice", fn := fun _ => fun
  | [d1, d2, d3, d4, d5, d6] => { results := [.lit (.bool true)], args := [d1, d2, d3, d4, d5, d6] }
  | _ => none }
def fnBTreeTwiceRow : OpenClaim := { program := "ytpkgmgebhnhhjaa", sum := "956b97c7f29281da6acf4aea3f1339f0e587e87e43649da76f52f07a479f1b7d", func := "loop.example/pub-sortedtrees/laws.FnBTreeTwice", spec := "fnBTreeTwice", unfollowed := true, recurses := true, apart := false }
def FnBTreeTwiceSaid : Prop := fnBTreeTwiceRow.holds Try.pinned (OpenSpec.ofChange fnBTreeTwiceSpec)

/-- ITS FALSE NEIGHBOUR: 'it returns false'. Refute it at one input. -/
def fnBTreeTwiceWrong : ChangeSpec := { name := "fnBTreeTwice", fn := fun _ => fun
  | [d1, d2, d3, d4, d5, d6] => { results := [.lit (.bool false)], args := [d1, d2, d3, d4, d5, d6] }
  | _ => none }
def FnBTreeTwiceWrongFalsely : Prop := fnBTreeTwiceRow.holds Try.pinned (OpenSpec.ofChange fnBTreeTwiceWrong)

/-- 'laws.FnExactBTreeState': WHATEVER THE INPUT: true; the input reads as it did. -/
def fnExactBTreeStateSpec : ChangeSpec := { name := "fnExactBTreeState", fn := fun _ => fun
  | [d1, d2, d3] => { results := [.lit (.bool true)], args := [d1, d2, d3] }
  | _ => none }
def fnExactBTreeStateRow : OpenClaim := { program := "ytpkgmgebhnhhjaa", sum := "956b97c7f29281da6acf4aea3f1339f0e587e87e43649da76f52f07a479f1b7d", func := "loop.example/pub-sortedtrees/laws.FnExactBTreeState", spec := "fnExactBTreeState", unfollowed := true, recurses := true, apart := false }
def FnExactBTreeStateSaid : Prop := fnExactBTreeStateRow.holds Try.pinned (OpenSpec.ofChange fnExactBTreeStateSpec)

/-- ITS FALSE NEIGHBOUR: 'it returns false'. Refute it at one input. -/
def fnExactBTreeStateWrong : ChangeSpec := { name := "fnExactBTreeState", fn := fun _ => fun
  | [d1, d2, d3] => { results := [.lit (.bool false)], args := [d1, d2, d3] }
  | _ => none }
def FnExactBTreeStateWrongFalsely : Prop := fnExactBTreeStateRow.holds Try.pinned (OpenSpec.ofChange fnExactBTreeStateWrong)

/-- 'laws.FnBTreeRemoveGet': WHATEVER THE INPUT: true; the input reads as it did. -/
def fnBTreeRemoveGetSpec : ChangeSpec := { name := "fnBTreeRemoveGet", fn := fun _ => fun
  | [d1, d2, d3, d4, d5] => { results := [.lit (.bool true)], args := [d1, d2, d3, d4, d5] }
  | _ => none }
def fnBTreeRemoveGetRow : OpenClaim := { program := "ytpkgmgebhnhhjaa", sum := "956b97c7f29281da6acf4aea3f1339f0e587e87e43649da76f52f07a479f1b7d", func := "loop.example/pub-sortedtrees/laws.FnBTreeRemoveGet", spec := "fnBTreeRemoveGet", unfollowed := true, recurses := true, apart := false }
def FnBTreeRemoveGetSaid : Prop := fnBTreeRemoveGetRow.holds Try.pinned (OpenSpec.ofChange fnBTreeRemoveGetSpec)

/-- ITS FALSE NEIGHBOUR: 'it returns false'. Refute it at one input. -/
def fnBTreeRemoveGetWrong : ChangeSpec := { name := "fnBTreeRemoveGet", fn := fun _ => fun
  | [d1, d2, d3, d4, d5] => { results := [.lit (.bool false)], args := [d1, d2, d3, d4, d5] }
  | _ => none }
def FnBTreeRemoveGetWrongFalsely : Prop := fnBTreeRemoveGetRow.holds Try.pinned (OpenSpec.ofChange fnBTreeRemoveGetWrong)

/-- 'laws.FnBTreeUndone': WHATEVER THE INPUT: true; the input reads as it did. -/
def fnBTreeUndoneSpec : ChangeSpec := { name := "fnBTreeUndone", fn := fun _ => fun
  | [d1, d2, d3, d4, d5] => { results := [.lit (.bool true)], args := [d1, d2, d3, d4, d5] }
  | _ => none }
def fnBTreeUndoneRow : OpenClaim := { program := "ytpkgmgebhnhhjaa", sum := "956b97c7f29281da6acf4aea3f1339f0e587e87e43649da76f52f07a479f1b7d", func := "loop.example/pub-sortedtrees/laws.FnBTreeUndone", spec := "fnBTreeUndone", unfollowed := true, recurses := true, apart := false }
def FnBTreeUndoneSaid : Prop := fnBTreeUndoneRow.holds Try.pinned (OpenSpec.ofChange fnBTreeUndoneSpec)

/-- ITS FALSE NEIGHBOUR: 'it returns false'. Refute it at one input. -/
def fnBTreeUndoneWrong : ChangeSpec := { name := "fnBTreeUndone", fn := fun _ => fun
  | [d1, d2, d3, d4, d5] => { results := [.lit (.bool false)], args := [d1, d2, d3, d4, d5] }
  | _ => none }
def FnBTreeUndoneWrongFalsely : Prop := fnBTreeUndoneRow.holds Try.pinned (OpenSpec.ofChange fnBTreeUndoneWrong)

/-- 'laws.FnExactBTreeGet': WHATEVER THE INPUT: true; the input reads as it did. -/
def fnExactBTreeGetSpec : ChangeSpec := { name := "fnExactBTreeGet", fn := fun _ => fun
  | [d1, d2, d3, d4] => { results := [.lit (.bool true)], args := [d1, d2, d3, d4] }
  | _ => none }
def fnExactBTreeGetRow : OpenClaim := { program := "ytpkgmgebhnhhjaa", sum := "956b97c7f29281da6acf4aea3f1339f0e587e87e43649da76f52f07a479f1b7d", func := "loop.example/pub-sortedtrees/laws.FnExactBTreeGet", spec := "fnExactBTreeGet", unfollowed := true, recurses := true, apart := false }
def FnExactBTreeGetSaid : Prop := fnExactBTreeGetRow.holds Try.pinned (OpenSpec.ofChange fnExactBTreeGetSpec)

/-- ITS FALSE NEIGHBOUR: 'it returns false'. Refute it at one input. -/
def fnExactBTreeGetWrong : ChangeSpec := { name := "fnExactBTreeGet", fn := fun _ => fun
  | [d1, d2, d3, d4] => { results := [.lit (.bool false)], args := [d1, d2, d3, d4] }
  | _ => none }
def FnExactBTreeGetWrongFalsely : Prop := fnExactBTreeGetRow.holds Try.pinned (OpenSpec.ofChange fnExactBTreeGetWrong)

/-- 'laws.FnExactBTreeNode': WHATEVER THE INPUT: true; the input reads as it did. -/
def fnExactBTreeNodeSpec : ChangeSpec := { name := "fnExactBTreeNode", fn := fun _ => fun
  | [d1, d2, d3, d4] => { results := [.lit (.bool true)], args := [d1, d2, d3, d4] }
  | _ => none }
def fnExactBTreeNodeRow : OpenClaim := { program := "ytpkgmgebhnhhjaa", sum := "956b97c7f29281da6acf4aea3f1339f0e587e87e43649da76f52f07a479f1b7d", func := "loop.example/pub-sortedtrees/laws.FnExactBTreeNode", spec := "fnExactBTreeNode", unfollowed := true, recurses := true, apart := false }
def FnExactBTreeNodeSaid : Prop := fnExactBTreeNodeRow.holds Try.pinned (OpenSpec.ofChange fnExactBTreeNodeSpec)

/-- ITS FALSE NEIGHBOUR: 'it returns false'. Refute it at one input. -/
def fnExactBTreeNodeWrong : ChangeSpec := { name := "fnExactBTreeNode", fn := fun _ => fun
  | [d1, d2, d3, d4] => { results := [.lit (.bool false)], args := [d1, d2, d3, d4] }
  | _ => none }
def FnExactBTreeNodeWrongFalsely : Prop := fnExactBTreeNodeRow.holds Try.pinned (OpenSpec.ofChange fnExactBTreeNodeWrong)

/-- 'laws.FnBTreeEnds': WHATEVER THE INPUT: true; the input reads as it did. -/
def fnBTreeEndsSpec : ChangeSpec := { name := "fnBTreeEnds", fn := fun _ => fun
  | [d1, d2, d3] => { results := [.lit (.bool true)], args := [d1, d2, d3] }
  | _ => none }
def fnBTreeEndsRow : OpenClaim := { program := "ytpkgmgebhnhhjaa", sum := "956b97c7f29281da6acf4aea3f1339f0e587e87e43649da76f52f07a479f1b7d", func := "loop.example/pub-sortedtrees/laws.FnBTreeEnds", spec := "fnBTreeEnds", unfollowed := true, recurses := true, apart := false }
def FnBTreeEndsSaid : Prop := fnBTreeEndsRow.holds Try.pinned (OpenSpec.ofChange fnBTreeEndsSpec)

/-- ITS FALSE NEIGHBOUR: 'it returns false'. Refute it at one input. -/
def fnBTreeEndsWrong : ChangeSpec := { name := "fnBTreeEnds", fn := fun _ => fun
  | [d1, d2, d3] => { results := [.lit (.bool false)], args := [d1, d2, d3] }
  | _ => none }
def FnBTreeEndsWrongFalsely : Prop := fnBTreeEndsRow.holds Try.pinned (OpenSpec.ofChange fnBTreeEndsWrong)

/-- 'laws.FnExactBTreeLeft': WHATEVER THE INPUT: true; the input reads as it did. -/
def fnExactBTreeLeftSpec : ChangeSpec := { name := "fnExactBTreeLeft", fn := fun _ => fun
  | [d1, d2, d3] => { results := [.lit (.bool true)], args := [d1, d2, d3] }
  | _ => none }
def fnExactBTreeLeftRow : OpenClaim := { program := "ytpkgmgebhnhhjaa", sum := "956b97c7f29281da6acf4aea3f1339f0e587e87e43649da76f52f07a479f1b7d", func := "loop.example/pub-sortedtrees/laws.FnExactBTreeLeft", spec := "fnExactBTreeLeft", unfollowed := true, recurses := true, apart := false }
def FnExactBTreeLeftSaid : Prop := fnExactBTreeLeftRow.holds Try.pinned (OpenSpec.ofChange fnExactBTreeLeftSpec)

/-- ITS FALSE NEIGHBOUR: 'it returns false'. Refute it at one input. -/
def fnExactBTreeLeftWrong : ChangeSpec := { name := "fnExactBTreeLeft", fn := fun _ => fun
  | [d1, d2, d3] => { results := [.lit (.bool false)], args := [d1, d2, d3] }
  | _ => none }
def FnExactBTreeLeftWrongFalsely : Prop := fnExactBTreeLeftRow.holds Try.pinned (OpenSpec.ofChange fnExactBTreeLeftWrong)

/-- 'laws.FnExactBTreeRight': WHATEVER THE INPUT: true; the input reads as it did. -/
def fnExactBTreeRightSpec : ChangeSpec := { name := "fnExactBTreeRight", fn := fun _ => fun
  | [d1, d2, d3] => { results := [.lit (.bool true)], args := [d1, d2, d3] }
  | _ => none }
def fnExactBTreeRightRow : OpenClaim := { program := "ytpkgmgebhnhhjaa", sum := "956b97c7f29281da6acf4aea3f1339f0e587e87e43649da76f52f07a479f1b7d", func := "loop.example/pub-sortedtrees/laws.FnExactBTreeRight", spec := "fnExactBTreeRight", unfollowed := true, recurses := true, apart := false }
def FnExactBTreeRightSaid : Prop := fnExactBTreeRightRow.holds Try.pinned (OpenSpec.ofChange fnExactBTreeRightSpec)

/-- ITS FALSE NEIGHBOUR: 'it returns false'. Refute it at one input. -/
def fnExactBTreeRightWrong : ChangeSpec := { name := "fnExactBTreeRight", fn := fun _ => fun
  | [d1, d2, d3] => { results := [.lit (.bool false)], args := [d1, d2, d3] }
  | _ => none }
def FnExactBTreeRightWrongFalsely : Prop := fnExactBTreeRightRow.holds Try.pinned (OpenSpec.ofChange fnExactBTreeRightWrong)

/-- 'laws.FnBTreeBack': WHATEVER THE INPUT: true; the input reads as it did. -/
def fnBTreeBackSpec : ChangeSpec := { name := "fnBTreeBack", fn := fun _ => fun
  | [d1, d2, d3] => { results := [.lit (.bool true)], args := [d1, d2, d3] }
  | _ => none }
def fnBTreeBackRow : OpenClaim := { program := "ytpkgmgebhnhhjaa", sum := "956b97c7f29281da6acf4aea3f1339f0e587e87e43649da76f52f07a479f1b7d", func := "loop.example/pub-sortedtrees/laws.FnBTreeBack", spec := "fnBTreeBack", unfollowed := true, recurses := true, apart := false }
def FnBTreeBackSaid : Prop := fnBTreeBackRow.holds Try.pinned (OpenSpec.ofChange fnBTreeBackSpec)

/-- ITS FALSE NEIGHBOUR: 'it returns false'. Refute it at one input. -/
def fnBTreeBackWrong : ChangeSpec := { name := "fnBTreeBack", fn := fun _ => fun
  | [d1, d2, d3] => { results := [.lit (.bool false)], args := [d1, d2, d3] }
  | _ => none }
def FnBTreeBackWrongFalsely : Prop := fnBTreeBackRow.holds Try.pinned (OpenSpec.ofChange fnBTreeBackWrong)

/-- 'laws.FnBTreeBegun': WHATEVER THE INPUT: true; the input reads as it did. -/
def fnBTreeBegunSpec : ChangeSpec := { name := "fnBTreeBegun", fn := fun _ => fun
  | [d1, d2, d3, d4] => { results := [.lit (.bool true)], args := [d1, d2, d3, d4] }
  | _ => none }
def fnBTreeBegunRow : OpenClaim := { program := "ytpkgmgebhnhhjaa", sum := "956b97c7f29281da6acf4aea3f1339f0e587e87e43649da76f52f07a479f1b7d", func := "loop.example/pub-sortedtrees/laws.FnBTreeBegun", spec := "fnBTreeBegun", unfollowed := true, recurses := true, apart := false }
def FnBTreeBegunSaid : Prop := fnBTreeBegunRow.holds Try.pinned (OpenSpec.ofChange fnBTreeBegunSpec)

/-- ITS FALSE NEIGHBOUR: 'it returns false'. Refute it at one input. -/
def fnBTreeBegunWrong : ChangeSpec := { name := "fnBTreeBegun", fn := fun _ => fun
  | [d1, d2, d3, d4] => { results := [.lit (.bool false)], args := [d1, d2, d3, d4] }
  | _ => none }
def FnBTreeBegunWrongFalsely : Prop := fnBTreeBegunRow.holds Try.pinned (OpenSpec.ofChange fnBTreeBegunWrong)

/-- 'laws.FnBTreeEnded': WHATEVER THE INPUT: true; the input reads as it did. -/
def fnBTreeEndedSpec : ChangeSpec := { name := "fnBTreeEnded", fn := fun _ => fun
  | [d1, d2, d3, d4] => { results := [.lit (.bool true)], args := [d1, d2, d3, d4] }
  | _ => none }
def fnBTreeEndedRow : OpenClaim := { program := "ytpkgmgebhnhhjaa", sum := "956b97c7f29281da6acf4aea3f1339f0e587e87e43649da76f52f07a479f1b7d", func := "loop.example/pub-sortedtrees/laws.FnBTreeEnded", spec := "fnBTreeEnded", unfollowed := true, recurses := true, apart := false }
def FnBTreeEndedSaid : Prop := fnBTreeEndedRow.holds Try.pinned (OpenSpec.ofChange fnBTreeEndedSpec)

/-- ITS FALSE NEIGHBOUR: 'it returns false'. Refute it at one input. -/
def fnBTreeEndedWrong : ChangeSpec := { name := "fnBTreeEnded", fn := fun _ => fun
  | [d1, d2, d3, d4] => { results := [.lit (.bool false)], args := [d1, d2, d3, d4] }
  | _ => none }
def FnBTreeEndedWrongFalsely : Prop := fnBTreeEndedRow.holds Try.pinned (OpenSpec.ofChange fnBTreeEndedWrong)

/-- 'laws.FnBTreeForward': WHATEVER THE INPUT: true; the input reads as it did. -/
def fnBTreeForwardSpec : ChangeSpec := { name := "fnBTreeForward", fn := fun _ => fun
  | [d1, d2, d3] => { results := [.lit (.bool true)], args := [d1, d2, d3] }
  | _ => none }
def fnBTreeForwardRow : OpenClaim := { program := "ytpkgmgebhnhhjaa", sum := "956b97c7f29281da6acf4aea3f1339f0e587e87e43649da76f52f07a479f1b7d", func := "loop.example/pub-sortedtrees/laws.FnBTreeForward", spec := "fnBTreeForward", unfollowed := true, recurses := true, apart := false }
def FnBTreeForwardSaid : Prop := fnBTreeForwardRow.holds Try.pinned (OpenSpec.ofChange fnBTreeForwardSpec)

/-- ITS FALSE NEIGHBOUR: 'it returns false'. Refute it at one input. -/
def fnBTreeForwardWrong : ChangeSpec := { name := "fnBTreeForward", fn := fun _ => fun
  | [d1, d2, d3] => { results := [.lit (.bool false)], args := [d1, d2, d3] }
  | _ => none }
def FnBTreeForwardWrongFalsely : Prop := fnBTreeForwardRow.holds Try.pinned (OpenSpec.ofChange fnBTreeForwardWrong)

/-- 'laws.FnBTreeSearched': WHATEVER THE INPUT: true; the input reads as it did. -/
def fnBTreeSearchedSpec : ChangeSpec := { name := "fnBTreeSearched", fn := fun _ => fun
  | [d1, d2, d3, d4, d5] => { results := [.lit (.bool true)], args := [d1, d2, d3, d4, d5] }
  | _ => none }
def fnBTreeSearchedRow : OpenClaim := { program := "ytpkgmgebhnhhjaa", sum := "956b97c7f29281da6acf4aea3f1339f0e587e87e43649da76f52f07a479f1b7d", func := "loop.example/pub-sortedtrees/laws.FnBTreeSearched", spec := "fnBTreeSearched", unfollowed := true, recurses := true, apart := false }
def FnBTreeSearchedSaid : Prop := fnBTreeSearchedRow.holds Try.pinned (OpenSpec.ofChange fnBTreeSearchedSpec)

/-- ITS FALSE NEIGHBOUR: 'it returns false'. Refute it at one input. -/
def fnBTreeSearchedWrong : ChangeSpec := { name := "fnBTreeSearched", fn := fun _ => fun
  | [d1, d2, d3, d4, d5] => { results := [.lit (.bool false)], args := [d1, d2, d3, d4, d5] }
  | _ => none }
def FnBTreeSearchedWrongFalsely : Prop := fnBTreeSearchedRow.holds Try.pinned (OpenSpec.ofChange fnBTreeSearchedWrong)

/-- 'laws.FnExactBTreeWalk': WHATEVER THE INPUT: true; the input reads as it did. -/
def fnExactBTreeWalkSpec : ChangeSpec := { name := "fnExactBTreeWalk", fn := fun _ => fun
  | [d1, d2, d3, d4] => { results := [.lit (.bool true)], args := [d1, d2, d3, d4] }
  | _ => none }
def fnExactBTreeWalkRow : OpenClaim := { program := "ytpkgmgebhnhhjaa", sum := "956b97c7f29281da6acf4aea3f1339f0e587e87e43649da76f52f07a479f1b7d", func := "loop.example/pub-sortedtrees/laws.FnExactBTreeWalk", spec := "fnExactBTreeWalk", unfollowed := true, recurses := true, apart := false }
def FnExactBTreeWalkSaid : Prop := fnExactBTreeWalkRow.holds Try.pinned (OpenSpec.ofChange fnExactBTreeWalkSpec)

/-- ITS FALSE NEIGHBOUR: 'it returns false'. Refute it at one input. -/
def fnExactBTreeWalkWrong : ChangeSpec := { name := "fnExactBTreeWalk", fn := fun _ => fun
  | [d1, d2, d3, d4] => { results := [.lit (.bool false)], args := [d1, d2, d3, d4] }
  | _ => none }
def FnExactBTreeWalkWrongFalsely : Prop := fnExactBTreeWalkRow.holds Try.pinned (OpenSpec.ofChange fnExactBTreeWalkWrong)

/- THE SECOND FORM. 'bulk': how many values and letters a reading holds, each counted each time it is reached (what is shared counts as often as it is met; a slice's spare places count too). A statement '..UptoSaid' is the law's where the arguments, and the package variables that the reading takes, are together of bulk at most 1048576: NARROWER than '..Said'. Prove '..Said' where nothing that the law and all that it calls make is longer than what came in: it says more and counts as full. Else prove '..UptoSaid'. A law counts once. -/
mutual
def uptoBulk {H : Type} : DataW H → Nat
  | .lit (.string bytes) => bytes.length + 1
  | .lit _ => 1
  | .nil => 1
  | .ptr d => uptoBulk d + 1
  | .slice elems spare => uptoBulkAll elems + uptoBulkAll spare + 1
  | .agg parts => uptoBulkAll parts + 1
  | .iface _ d => uptoBulk d + 1
  | .map entries => uptoBulkEntries entries + 1
  | .held _ => 1
def uptoBulkAll {H : Type} : List (DataW H) → Nat
  | [] => 0
  | d :: r => uptoBulk d + uptoBulkAll r
def uptoBulkEntries {H : Type} : List (Lit × DataW H) → Nat
  | [] => 0
  | x :: r => uptoBulkEntry x + uptoBulkEntries r
def uptoBulkEntry {H : Type} : Lit × DataW H → Nat
  | (.string bytes, d) => bytes.length + uptoBulk d + 1
  | (_, d) => uptoBulk d + 1
 end
def uptoSmall : (H : Type) → List (DataW H) → Bool := fun _ ds => decide (uptoBulkAll ds ≤ 1048576)
def OpenSpec.upto (s : _root_.Go.ChangeSpec) : _root_.Go.OpenSpec := { _root_.Go.OpenSpec.ofChange s with cond := some uptoSmall }

/-- 'laws.FnBTreePutGet', WHERE WHAT IT READS IS OF BULK AT MOST 1048576: true; the input reads as it did. -/
def fnBTreePutGetUptoRow : OpenClaim := { program := "ytpkgmgebhnhhjaa", sum := "956b97c7f29281da6acf4aea3f1339f0e587e87e43649da76f52f07a479f1b7d", func := "loop.example/pub-sortedtrees/laws.FnBTreePutGet", spec := "fnBTreePutGet", unfollowed := true, recurses := true, apart := false, narrowed := true }
def FnBTreePutGetUptoSaid : Prop := fnBTreePutGetUptoRow.holds Try.pinned (OpenSpec.upto fnBTreePutGetSpec)

/-- 'laws.FnBTreeStill', WHERE WHAT IT READS IS OF BULK AT MOST 1048576: true; the input reads as it did. -/
def fnBTreeStillUptoRow : OpenClaim := { program := "ytpkgmgebhnhhjaa", sum := "956b97c7f29281da6acf4aea3f1339f0e587e87e43649da76f52f07a479f1b7d", func := "loop.example/pub-sortedtrees/laws.FnBTreeStill", spec := "fnBTreeStill", unfollowed := true, recurses := true, apart := false, narrowed := true }
def FnBTreeStillUptoSaid : Prop := fnBTreeStillUptoRow.holds Try.pinned (OpenSpec.upto fnBTreeStillSpec)

/-- 'laws.FnBTreeCleared', WHERE WHAT IT READS IS OF BULK AT MOST 1048576: true; the input reads as it did. -/
def fnBTreeClearedUptoRow : OpenClaim := { program := "ytpkgmgebhnhhjaa", sum := "956b97c7f29281da6acf4aea3f1339f0e587e87e43649da76f52f07a479f1b7d", func := "loop.example/pub-sortedtrees/laws.FnBTreeCleared", spec := "fnBTreeCleared", unfollowed := true, recurses := true, apart := false, narrowed := true }
def FnBTreeClearedUptoSaid : Prop := fnBTreeClearedUptoRow.holds Try.pinned (OpenSpec.upto fnBTreeClearedSpec)

/-- 'laws.FnBTreeCommute', WHERE WHAT IT READS IS OF BULK AT MOST 1048576: true; the input reads as it did. -/
def fnBTreeCommuteUptoRow : OpenClaim := { program := "ytpkgmgebhnhhjaa", sum := "956b97c7f29281da6acf4aea3f1339f0e587e87e43649da76f52f07a479f1b7d", func := "loop.example/pub-sortedtrees/laws.FnBTreeCommute", spec := "fnBTreeCommute", unfollowed := true, recurses := true, apart := false, narrowed := true }
def FnBTreeCommuteUptoSaid : Prop := fnBTreeCommuteUptoRow.holds Try.pinned (OpenSpec.upto fnBTreeCommuteSpec)

/-- 'laws.FnBTreeDegree', WHERE WHAT IT READS IS OF BULK AT MOST 1048576: true; the input reads as it did. -/
def fnBTreeDegreeUptoRow : OpenClaim := { program := "ytpkgmgebhnhhjaa", sum := "956b97c7f29281da6acf4aea3f1339f0e587e87e43649da76f52f07a479f1b7d", func := "loop.example/pub-sortedtrees/laws.FnBTreeDegree", spec := "fnBTreeDegree", unfollowed := true, recurses := true, apart := false, narrowed := true }
def FnBTreeDegreeUptoSaid : Prop := fnBTreeDegreeUptoRow.holds Try.pinned (OpenSpec.upto fnBTreeDegreeSpec)

/-- 'laws.FnBTreeSize', WHERE WHAT IT READS IS OF BULK AT MOST 1048576: true; the input reads as it did. -/
def fnBTreeSizeUptoRow : OpenClaim := { program := "ytpkgmgebhnhhjaa", sum := "956b97c7f29281da6acf4aea3f1339f0e587e87e43649da76f52f07a479f1b7d", func := "loop.example/pub-sortedtrees/laws.FnBTreeSize", spec := "fnBTreeSize", unfollowed := true, recurses := true, apart := false, narrowed := true }
def FnBTreeSizeUptoSaid : Prop := fnBTreeSizeUptoRow.holds Try.pinned (OpenSpec.upto fnBTreeSizeSpec)

/-- 'laws.FnBTreeStateRest', WHERE WHAT IT READS IS OF BULK AT MOST 1048576: true; the input reads as it did. -/
def fnBTreeStateRestUptoRow : OpenClaim := { program := "ytpkgmgebhnhhjaa", sum := "956b97c7f29281da6acf4aea3f1339f0e587e87e43649da76f52f07a479f1b7d", func := "loop.example/pub-sortedtrees/laws.FnBTreeStateRest", spec := "fnBTreeStateRest", unfollowed := true, recurses := true, apart := false, narrowed := true }
def FnBTreeStateRestUptoSaid : Prop := fnBTreeStateRestUptoRow.holds Try.pinned (OpenSpec.upto fnBTreeStateRestSpec)

/-- 'laws.FnBTreeTurned', WHERE WHAT IT READS IS OF BULK AT MOST 1048576: true; the input reads as it did. -/
def fnBTreeTurnedUptoRow : OpenClaim := { program := "ytpkgmgebhnhhjaa", sum := "956b97c7f29281da6acf4aea3f1339f0e587e87e43649da76f52f07a479f1b7d", func := "loop.example/pub-sortedtrees/laws.FnBTreeTurned", spec := "fnBTreeTurned", unfollowed := true, recurses := true, apart := false, narrowed := true }
def FnBTreeTurnedUptoSaid : Prop := fnBTreeTurnedUptoRow.holds Try.pinned (OpenSpec.upto fnBTreeTurnedSpec)

/-- 'laws.FnBTreeTwice', WHERE WHAT IT READS IS OF BULK AT MOST 1048576: true; the input reads as it did. -/
def fnBTreeTwiceUptoRow : OpenClaim := { program := "ytpkgmgebhnhhjaa", sum := "956b97c7f29281da6acf4aea3f1339f0e587e87e43649da76f52f07a479f1b7d", func := "loop.example/pub-sortedtrees/laws.FnBTreeTwice", spec := "fnBTreeTwice", unfollowed := true, recurses := true, apart := false, narrowed := true }
def FnBTreeTwiceUptoSaid : Prop := fnBTreeTwiceUptoRow.holds Try.pinned (OpenSpec.upto fnBTreeTwiceSpec)

/-- 'laws.FnExactBTreeState', WHERE WHAT IT READS IS OF BULK AT MOST 1048576: true; the input reads as it did. -/
def fnExactBTreeStateUptoRow : OpenClaim := { program := "ytpkgmgebhnhhjaa", sum := "956b97c7f29281da6acf4aea3f1339f0e587e87e43649da76f52f07a479f1b7d", func := "loop.example/pub-sortedtrees/laws.FnExactBTreeState", spec := "fnExactBTreeState", unfollowed := true, recurses := true, apart := false, narrowed := true }
def FnExactBTreeStateUptoSaid : Prop := fnExactBTreeStateUptoRow.holds Try.pinned (OpenSpec.upto fnExactBTreeStateSpec)

/-- 'laws.FnBTreeRemoveGet', WHERE WHAT IT READS IS OF BULK AT MOST 1048576: true; the input reads as it did. -/
def fnBTreeRemoveGetUptoRow : OpenClaim := { program := "ytpkgmgebhnhhjaa", sum := "956b97c7f29281da6acf4aea3f1339f0e587e87e43649da76f52f07a479f1b7d", func := "loop.example/pub-sortedtrees/laws.FnBTreeRemoveGet", spec := "fnBTreeRemoveGet", unfollowed := true, recurses := true, apart := false, narrowed := true }
def FnBTreeRemoveGetUptoSaid : Prop := fnBTreeRemoveGetUptoRow.holds Try.pinned (OpenSpec.upto fnBTreeRemoveGetSpec)

/-- 'laws.FnBTreeUndone', WHERE WHAT IT READS IS OF BULK AT MOST 1048576: true; the input reads as it did. -/
def fnBTreeUndoneUptoRow : OpenClaim := { program := "ytpkgmgebhnhhjaa", sum := "956b97c7f29281da6acf4aea3f1339f0e587e87e43649da76f52f07a479f1b7d", func := "loop.example/pub-sortedtrees/laws.FnBTreeUndone", spec := "fnBTreeUndone", unfollowed := true, recurses := true, apart := false, narrowed := true }
def FnBTreeUndoneUptoSaid : Prop := fnBTreeUndoneUptoRow.holds Try.pinned (OpenSpec.upto fnBTreeUndoneSpec)

/-- 'laws.FnExactBTreeGet', WHERE WHAT IT READS IS OF BULK AT MOST 1048576: true; the input reads as it did. -/
def fnExactBTreeGetUptoRow : OpenClaim := { program := "ytpkgmgebhnhhjaa", sum := "956b97c7f29281da6acf4aea3f1339f0e587e87e43649da76f52f07a479f1b7d", func := "loop.example/pub-sortedtrees/laws.FnExactBTreeGet", spec := "fnExactBTreeGet", unfollowed := true, recurses := true, apart := false, narrowed := true }
def FnExactBTreeGetUptoSaid : Prop := fnExactBTreeGetUptoRow.holds Try.pinned (OpenSpec.upto fnExactBTreeGetSpec)

/-- 'laws.FnExactBTreeNode', WHERE WHAT IT READS IS OF BULK AT MOST 1048576: true; the input reads as it did. -/
def fnExactBTreeNodeUptoRow : OpenClaim := { program := "ytpkgmgebhnhhjaa", sum := "956b97c7f29281da6acf4aea3f1339f0e587e87e43649da76f52f07a479f1b7d", func := "loop.example/pub-sortedtrees/laws.FnExactBTreeNode", spec := "fnExactBTreeNode", unfollowed := true, recurses := true, apart := false, narrowed := true }
def FnExactBTreeNodeUptoSaid : Prop := fnExactBTreeNodeUptoRow.holds Try.pinned (OpenSpec.upto fnExactBTreeNodeSpec)

/-- 'laws.FnBTreeEnds', WHERE WHAT IT READS IS OF BULK AT MOST 1048576: true; the input reads as it did. -/
def fnBTreeEndsUptoRow : OpenClaim := { program := "ytpkgmgebhnhhjaa", sum := "956b97c7f29281da6acf4aea3f1339f0e587e87e43649da76f52f07a479f1b7d", func := "loop.example/pub-sortedtrees/laws.FnBTreeEnds", spec := "fnBTreeEnds", unfollowed := true, recurses := true, apart := false, narrowed := true }
def FnBTreeEndsUptoSaid : Prop := fnBTreeEndsUptoRow.holds Try.pinned (OpenSpec.upto fnBTreeEndsSpec)

/-- 'laws.FnExactBTreeLeft', WHERE WHAT IT READS IS OF BULK AT MOST 1048576: true; the input reads as it did. -/
def fnExactBTreeLeftUptoRow : OpenClaim := { program := "ytpkgmgebhnhhjaa", sum := "956b97c7f29281da6acf4aea3f1339f0e587e87e43649da76f52f07a479f1b7d", func := "loop.example/pub-sortedtrees/laws.FnExactBTreeLeft", spec := "fnExactBTreeLeft", unfollowed := true, recurses := true, apart := false, narrowed := true }
def FnExactBTreeLeftUptoSaid : Prop := fnExactBTreeLeftUptoRow.holds Try.pinned (OpenSpec.upto fnExactBTreeLeftSpec)

/-- 'laws.FnExactBTreeRight', WHERE WHAT IT READS IS OF BULK AT MOST 1048576: true; the input reads as it did. -/
def fnExactBTreeRightUptoRow : OpenClaim := { program := "ytpkgmgebhnhhjaa", sum := "956b97c7f29281da6acf4aea3f1339f0e587e87e43649da76f52f07a479f1b7d", func := "loop.example/pub-sortedtrees/laws.FnExactBTreeRight", spec := "fnExactBTreeRight", unfollowed := true, recurses := true, apart := false, narrowed := true }
def FnExactBTreeRightUptoSaid : Prop := fnExactBTreeRightUptoRow.holds Try.pinned (OpenSpec.upto fnExactBTreeRightSpec)

/-- 'laws.FnBTreeBack', WHERE WHAT IT READS IS OF BULK AT MOST 1048576: true; the input reads as it did. -/
def fnBTreeBackUptoRow : OpenClaim := { program := "ytpkgmgebhnhhjaa", sum := "956b97c7f29281da6acf4aea3f1339f0e587e87e43649da76f52f07a479f1b7d", func := "loop.example/pub-sortedtrees/laws.FnBTreeBack", spec := "fnBTreeBack", unfollowed := true, recurses := true, apart := false, narrowed := true }
def FnBTreeBackUptoSaid : Prop := fnBTreeBackUptoRow.holds Try.pinned (OpenSpec.upto fnBTreeBackSpec)

/-- 'laws.FnBTreeBegun', WHERE WHAT IT READS IS OF BULK AT MOST 1048576: true; the input reads as it did. -/
def fnBTreeBegunUptoRow : OpenClaim := { program := "ytpkgmgebhnhhjaa", sum := "956b97c7f29281da6acf4aea3f1339f0e587e87e43649da76f52f07a479f1b7d", func := "loop.example/pub-sortedtrees/laws.FnBTreeBegun", spec := "fnBTreeBegun", unfollowed := true, recurses := true, apart := false, narrowed := true }
def FnBTreeBegunUptoSaid : Prop := fnBTreeBegunUptoRow.holds Try.pinned (OpenSpec.upto fnBTreeBegunSpec)

/-- 'laws.FnBTreeEnded', WHERE WHAT IT READS IS OF BULK AT MOST 1048576: true; the input reads as it did. -/
def fnBTreeEndedUptoRow : OpenClaim := { program := "ytpkgmgebhnhhjaa", sum := "956b97c7f29281da6acf4aea3f1339f0e587e87e43649da76f52f07a479f1b7d", func := "loop.example/pub-sortedtrees/laws.FnBTreeEnded", spec := "fnBTreeEnded", unfollowed := true, recurses := true, apart := false, narrowed := true }
def FnBTreeEndedUptoSaid : Prop := fnBTreeEndedUptoRow.holds Try.pinned (OpenSpec.upto fnBTreeEndedSpec)

/-- 'laws.FnBTreeForward', WHERE WHAT IT READS IS OF BULK AT MOST 1048576: true; the input reads as it did. -/
def fnBTreeForwardUptoRow : OpenClaim := { program := "ytpkgmgebhnhhjaa", sum := "956b97c7f29281da6acf4aea3f1339f0e587e87e43649da76f52f07a479f1b7d", func := "loop.example/pub-sortedtrees/laws.FnBTreeForward", spec := "fnBTreeForward", unfollowed := true, recurses := true, apart := false, narrowed := true }
def FnBTreeForwardUptoSaid : Prop := fnBTreeForwardUptoRow.holds Try.pinned (OpenSpec.upto fnBTreeForwardSpec)

/-- 'laws.FnBTreeSearched', WHERE WHAT IT READS IS OF BULK AT MOST 1048576: true; the input reads as it did. -/
def fnBTreeSearchedUptoRow : OpenClaim := { program := "ytpkgmgebhnhhjaa", sum := "956b97c7f29281da6acf4aea3f1339f0e587e87e43649da76f52f07a479f1b7d", func := "loop.example/pub-sortedtrees/laws.FnBTreeSearched", spec := "fnBTreeSearched", unfollowed := true, recurses := true, apart := false, narrowed := true }
def FnBTreeSearchedUptoSaid : Prop := fnBTreeSearchedUptoRow.holds Try.pinned (OpenSpec.upto fnBTreeSearchedSpec)

/-- 'laws.FnExactBTreeWalk', WHERE WHAT IT READS IS OF BULK AT MOST 1048576: true; the input reads as it did. -/
def fnExactBTreeWalkUptoRow : OpenClaim := { program := "ytpkgmgebhnhhjaa", sum := "956b97c7f29281da6acf4aea3f1339f0e587e87e43649da76f52f07a479f1b7d", func := "loop.example/pub-sortedtrees/laws.FnExactBTreeWalk", spec := "fnExactBTreeWalk", unfollowed := true, recurses := true, apart := false, narrowed := true }
def FnExactBTreeWalkUptoSaid : Prop := fnExactBTreeWalkUptoRow.holds Try.pinned (OpenSpec.upto fnExactBTreeWalkSpec)

end Rows
end Go.Proofs.Ytpkgmgebhnhhjaa
