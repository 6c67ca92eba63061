/-
  No cell of these rows narrows 'for every input' (looked for: loops, veiled, ifaces, maps, wideKeys, modest, calm, conditions, laid).
  DERIVED. THE GIVEN ROWS OF THIS SEAT. 23 by the template 'for every input the law returns true; each argument reads behind the call as it read before'; 0 by the template 'total and deterministic' (their statements: YtmgjpppplapgpaaTotals.lean).
  GIVEN WITH THE SEED: the statements are not yours to turn. If you find one false, say at which input.
  Laid BY PROGRAM, IN A SANDBOX (cutbox-rows.mjs): the forced cells as the released guide's own fill.sh prints them over the translation 0f2d9e50db5a3515… (all of the seat's roots in one cut). By AI agents, Wed Nov 11 2026. No macro, syntax, notation, axiom, sorry.
-/
import Derived.Test.YtmgjpppplapgpaaChecked
import GoSem.Claim
import GoSem.ClaimJoined
import GoSem.ClaimMapViews
import Derived.JoinedTies
import Derived.KernelRfl
namespace Go.Proofs.Ytmgjpppplapgpaa
/- THE CELL 'sum', in the pinned program and in every row, IS THE sha256 OF THE DUMP (.gsa) THAT YtmgjpppplapgpaaProg.lean LOADS. Nothing in Lean hashes anything: it is a label: what it is worth is what the hold of that sum in a sandbox is worth. -/
noncomputable def Try.pinned : Pinned := { name := "ytmgjpppplapgpaa", sum := "0f2d9e50db5a3515380d067a80e23d47feb4a44cf7d4bb75724d8d6e8f997ee3", checked := Try.checked }
namespace Rows
def none {H : Type} : Left H := { results := [], args := [] }

/-- 'laws.FnRedBlackPutGet': WHATEVER THE INPUT: true; the input reads as it did. -/
def fnRedBlackPutGetSpec : ChangeSpec := { name := "fnRedBlackPutGet", fn := fun _ => fun
  | [d1, d2, d3, d4, d5] => { results := [.lit (.bool true)], args := [d1, d2, d3, d4, d5] }
  | _ => none }
def fnRedBlackPutGetRow : OpenClaim := { program := "ytmgjpppplapgpaa", sum := "0f2d9e50db5a3515380d067a80e23d47feb4a44cf7d4bb75724d8d6e8f997ee3", func := "loop.example/pub-sortedtrees/laws.FnRedBlackPutGet", spec := "fnRedBlackPutGet", unfollowed := true, recurses := true, apart := false }
def FnRedBlackPutGetSaid : Prop := fnRedBlackPutGetRow.holds Try.pinned (OpenSpec.ofChange fnRedBlackPutGetSpec)

/-- ITS FALSE NEIGHBOUR: 'it returns false'. Refute it at one input. -/
def fnRedBlackPutGetWrong : ChangeSpec := { name := "fnRedBlackPutGet", fn := fun _ => fun
  | [d1, d2, d3, d4, d5] => { results := [.lit (.bool false)], args := [d1, d2, d3, d4, d5] }
  | _ => none }
def FnRedBlackPutGetWrongFalsely : Prop := fnRedBlackPutGetRow.holds Try.pinned (OpenSpec.ofChange fnRedBlackPutGetWrong)

/-- 'laws.FnExactRedBlackState': WHATEVER THE INPUT: true; the input reads as it did. -/
def fnExactRedBlackStateSpec : ChangeSpec := { name := "fnExactRedBlackState", fn := fun _ => fun
  | [d1, d2] => { results := [.lit (.bool true)], args := [d1, d2] }
  | _ => none }
def fnExactRedBlackStateRow : OpenClaim := { program := "ytmgjpppplapgpaa", sum := "0f2d9e50db5a3515380d067a80e23d47feb4a44cf7d4bb75724d8d6e8f997ee3", func := "loop.example/pub-sortedtrees/laws.FnExactRedBlackState", spec := "fnExactRedBlackState", unfollowed := true, recurses := true, apart := false }
def FnExactRedBlackStateSaid : Prop := fnExactRedBlackStateRow.holds Try.pinned (OpenSpec.ofChange fnExactRedBlackStateSpec)

/-- ITS FALSE NEIGHBOUR: 'it returns false'. Refute it at one input. -/
def fnExactRedBlackStateWrong : ChangeSpec := { name := "fnExactRedBlackState", fn := fun _ => fun
  | [d1, d2] => { results := [.lit (.bool false)], args := [d1, d2] }
  | _ => none }
def FnExactRedBlackStateWrongFalsely : Prop := fnExactRedBlackStateRow.holds Try.pinned (OpenSpec.ofChange fnExactRedBlackStateWrong)

/-- 'laws.FnRedBlackCleared': WHATEVER THE INPUT: true; the input reads as it did. -/
def fnRedBlackClearedSpec : ChangeSpec := { name := "fnRedBlackCleared", fn := fun _ => fun
  | [d1, d2, d3] => { results := [.lit (.bool true)], args := [d1, d2, d3] }
  | _ => none }
def fnRedBlackClearedRow : OpenClaim := { program := "ytmgjpppplapgpaa", sum := "0f2d9e50db5a3515380d067a80e23d47feb4a44cf7d4bb75724d8d6e8f997ee3", func := "loop.example/pub-sortedtrees/laws.FnRedBlackCleared", spec := "fnRedBlackCleared", unfollowed := true, recurses := true, apart := false }
def FnRedBlackClearedSaid : Prop := fnRedBlackClearedRow.holds Try.pinned (OpenSpec.ofChange fnRedBlackClearedSpec)

/-- ITS FALSE NEIGHBOUR: 'it returns false'. Refute it at one input. -/
def fnRedBlackClearedWrong : ChangeSpec := { name := "fnRedBlackCleared", fn := fun _ => fun
  | [d1, d2, d3] => { results := [.lit (.bool false)], args := [d1, d2, d3] }
  | _ => none }
def FnRedBlackClearedWrongFalsely : Prop := fnRedBlackClearedRow.holds Try.pinned (OpenSpec.ofChange fnRedBlackClearedWrong)

/-- 'laws.FnRedBlackCommute': WHATEVER THE INPUT: true; the input reads as it did. -/
def fnRedBlackCommuteSpec : ChangeSpec := { name := "fnRedBlackCommute", fn := fun _ => fun
  | [d1, d2, d3, d4] => { results := [.lit (.bool true)], args := [d1, d2, d3, d4] }
  | _ => none }
def fnRedBlackCommuteRow : OpenClaim := { program := "ytmgjpppplapgpaa", sum := "0f2d9e50db5a3515380d067a80e23d47feb4a44cf7d4bb75724d8d6e8f997ee3", func := "loop.example/pub-sortedtrees/laws.FnRedBlackCommute", spec := "fnRedBlackCommute", unfollowed := true, recurses := true, apart := false }
def FnRedBlackCommuteSaid : Prop := fnRedBlackCommuteRow.holds Try.pinned (OpenSpec.ofChange fnRedBlackCommuteSpec)

/-- ITS FALSE NEIGHBOUR: 'it returns false'. Refute it at one input. -/
def fnRedBlackCommuteWrong : ChangeSpec := { name := "fnRedBlackCommute", fn := fun _ => fun
  | [d1, d2, d3, d4] => { results := [.lit (.bool false)], args := [d1, d2, d3, d4] }
  | _ => none }
def FnRedBlackCommuteWrongFalsely : Prop := fnRedBlackCommuteRow.holds Try.pinned (OpenSpec.ofChange fnRedBlackCommuteWrong)

/-- 'laws.FnRedBlackSize': WHATEVER THE INPUT: true; the input reads as it did. -/
def fnRedBlackSizeSpec : ChangeSpec := { name := "fnRedBlackSize", fn := fun _ => fun
  | [d1, d2] => { results := [.lit (.bool true)], args := [d1, d2] }
  | _ => none }
def fnRedBlackSizeRow : OpenClaim := { program := "ytmgjpppplapgpaa", sum := "0f2d9e50db5a3515380d067a80e23d47feb4a44cf7d4bb75724d8d6e8f997ee3", func := "loop.example/pub-sortedtrees/laws.FnRedBlackSize", spec := "fnRedBlackSize", unfollowed := true, recurses := true, apart := false }
def FnRedBlackSizeSaid : Prop := fnRedBlackSizeRow.holds Try.pinned (OpenSpec.ofChange fnRedBlackSizeSpec)

/-- ITS FALSE NEIGHBOUR: 'it returns false'. Refute it at one input. -/
def fnRedBlackSizeWrong : ChangeSpec := { name := "fnRedBlackSize", fn := fun _ => fun
  | [d1, d2] => { results := [.lit (.bool false)], args := [d1, d2] }
  | _ => none }
def FnRedBlackSizeWrongFalsely : Prop := fnRedBlackSizeRow.holds Try.pinned (OpenSpec.ofChange fnRedBlackSizeWrong)

/-- 'laws.FnRedBlackStateRest': WHATEVER THE INPUT: true; the input reads as it did. -/
def fnRedBlackStateRestSpec : ChangeSpec := { name := "fnRedBlackStateRest", fn := fun _ => fun
  | [d1, d2] => { results := [.lit (.bool true)], args := [d1, d2] }
  | _ => none }
def fnRedBlackStateRestRow : OpenClaim := { program := "ytmgjpppplapgpaa", sum := "0f2d9e50db5a3515380d067a80e23d47feb4a44cf7d4bb75724d8d6e8f997ee3", func := "loop.example/pub-sortedtrees/laws.FnRedBlackStateRest", spec := "fnRedBlackStateRest", unfollowed := true, recurses := true, apart := false }
def FnRedBlackStateRestSaid : Prop := fnRedBlackStateRestRow.holds Try.pinned (OpenSpec.ofChange fnRedBlackStateRestSpec)

/-- ITS FALSE NEIGHBOUR: 'it returns false'. Refute it at one input. -/
def fnRedBlackStateRestWrong : ChangeSpec := { name := "fnRedBlackStateRest", fn := fun _ => fun
  | [d1, d2] => { results := [.lit (.bool false)], args := [d1, d2] }
  | _ => none }
def FnRedBlackStateRestWrongFalsely : Prop := fnRedBlackStateRestRow.holds Try.pinned (OpenSpec.ofChange fnRedBlackStateRestWrong)

/-- 'laws.FnRedBlackTurned': WHATEVER THE INPUT: true; the input reads as it did. -/
def fnRedBlackTurnedSpec : ChangeSpec := { name := "fnRedBlackTurned", fn := fun _ => fun
  | [d] => { results := [.lit (.bool true)], args := [d] }
  | _ => none }
def fnRedBlackTurnedRow : OpenClaim := { program := "ytmgjpppplapgpaa", sum := "0f2d9e50db5a3515380d067a80e23d47feb4a44cf7d4bb75724d8d6e8f997ee3", func := "loop.example/pub-sortedtrees/laws.FnRedBlackTurned", spec := "fnRedBlackTurned", unfollowed := true, recurses := true, apart := false }
def FnRedBlackTurnedSaid : Prop := fnRedBlackTurnedRow.holds Try.pinned (OpenSpec.ofChange fnRedBlackTurnedSpec)

/-- ITS FALSE NEIGHBOUR: 'it returns false'. Refute it at one input. -/
def fnRedBlackTurnedWrong : ChangeSpec := { name := "fnRedBlackTurned", fn := fun _ => fun
  | [d] => { results := [.lit (.bool false)], args := [d] }
  | _ => none }
def FnRedBlackTurnedWrongFalsely : Prop := fnRedBlackTurnedRow.holds Try.pinned (OpenSpec.ofChange fnRedBlackTurnedWrong)

/-- 'laws.FnRedBlackTwice': WHATEVER THE INPUT: true; the input reads as it did. -/
def fnRedBlackTwiceSpec : ChangeSpec := { name := "fnRedBlackTwice", fn := fun _ => fun
  | [d1, d2, d3, d4, d5] => { results := [.lit (.bool true)], args := [d1, d2, d3, d4, d5] }
  | _ => none }
def fnRedBlackTwiceRow : OpenClaim := { program := "ytmgjpppplapgpaa", sum := "0f2d9e50db5a3515380d067a80e23d47feb4a44cf7d4bb75724d8d6e8f997ee3", func := "loop.example/pub-sortedtrees/laws.FnRedBlackTwice", spec := "fnRedBlackTwice", unfollowed := true, recurses := true, apart := false }
def FnRedBlackTwiceSaid : Prop := fnRedBlackTwiceRow.holds Try.pinned (OpenSpec.ofChange fnRedBlackTwiceSpec)

/-- ITS FALSE NEIGHBOUR: 'it returns false'. Refute it at one input. -/
def fnRedBlackTwiceWrong : ChangeSpec := { name := "fnRedBlackTwice", fn := fun _ => fun
  | [d1, d2, d3, d4, d5] => { results := [.lit (.bool false)], args := [d1, d2, d3, d4, d5] }
  | _ => none }
def FnRedBlackTwiceWrongFalsely : Prop := fnRedBlackTwiceRow.holds Try.pinned (OpenSpec.ofChange fnRedBlackTwiceWrong)

/-- 'laws.FnExactRedBlackLeft': WHATEVER THE INPUT: true; the input reads as it did. -/
def fnExactRedBlackLeftSpec : ChangeSpec := { name := "fnExactRedBlackLeft", fn := fun _ => fun
  | [d1, d2] => { results := [.lit (.bool true)], args := [d1, d2] }
  | _ => none }
def fnExactRedBlackLeftRow : OpenClaim := { program := "ytmgjpppplapgpaa", sum := "0f2d9e50db5a3515380d067a80e23d47feb4a44cf7d4bb75724d8d6e8f997ee3", func := "loop.example/pub-sortedtrees/laws.FnExactRedBlackLeft", spec := "fnExactRedBlackLeft", unfollowed := true, recurses := true, apart := false }
def FnExactRedBlackLeftSaid : Prop := fnExactRedBlackLeftRow.holds Try.pinned (OpenSpec.ofChange fnExactRedBlackLeftSpec)

/-- ITS FALSE NEIGHBOUR: 'it returns false'. Refute it at one input. -/
def fnExactRedBlackLeftWrong : ChangeSpec := { name := "fnExactRedBlackLeft", fn := fun _ => fun
  | [d1, d2] => { results := [.lit (.bool false)], args := [d1, d2] }
  | _ => none }
def FnExactRedBlackLeftWrongFalsely : Prop := fnExactRedBlackLeftRow.holds Try.pinned (OpenSpec.ofChange fnExactRedBlackLeftWrong)

/-- 'laws.FnExactRedBlackNode': WHATEVER THE INPUT: true; the input reads as it did. -/
def fnExactRedBlackNodeSpec : ChangeSpec := { name := "fnExactRedBlackNode", fn := fun _ => fun
  | [d1, d2, d3] => { results := [.lit (.bool true)], args := [d1, d2, d3] }
  | _ => none }
def fnExactRedBlackNodeRow : OpenClaim := { program := "ytmgjpppplapgpaa", sum := "0f2d9e50db5a3515380d067a80e23d47feb4a44cf7d4bb75724d8d6e8f997ee3", func := "loop.example/pub-sortedtrees/laws.FnExactRedBlackNode", spec := "fnExactRedBlackNode", unfollowed := true, recurses := true, apart := false }
def FnExactRedBlackNodeSaid : Prop := fnExactRedBlackNodeRow.holds Try.pinned (OpenSpec.ofChange fnExactRedBlackNodeSpec)

/-- ITS FALSE NEIGHBOUR: 'it returns false'. Refute it at one input. -/
def fnExactRedBlackNodeWrong : ChangeSpec := { name := "fnExactRedBlackNode", fn := fun _ => fun
  | [d1, d2, d3] => { results := [.lit (.bool false)], args := [d1, d2, d3] }
  | _ => none }
def FnExactRedBlackNodeWrongFalsely : Prop := fnExactRedBlackNodeRow.holds Try.pinned (OpenSpec.ofChange fnExactRedBlackNodeWrong)

/-- 'laws.FnExactRedBlackGet': WHATEVER THE INPUT: true; the input reads as it did. -/
def fnExactRedBlackGetSpec : ChangeSpec := { name := "fnExactRedBlackGet", fn := fun _ => fun
  | [d1, d2, d3] => { results := [.lit (.bool true)], args := [d1, d2, d3] }
  | _ => none }
def fnExactRedBlackGetRow : OpenClaim := { program := "ytmgjpppplapgpaa", sum := "0f2d9e50db5a3515380d067a80e23d47feb4a44cf7d4bb75724d8d6e8f997ee3", func := "loop.example/pub-sortedtrees/laws.FnExactRedBlackGet", spec := "fnExactRedBlackGet", unfollowed := true, recurses := true, apart := false }
def FnExactRedBlackGetSaid : Prop := fnExactRedBlackGetRow.holds Try.pinned (OpenSpec.ofChange fnExactRedBlackGetSpec)

/-- ITS FALSE NEIGHBOUR: 'it returns false'. Refute it at one input. -/
def fnExactRedBlackGetWrong : ChangeSpec := { name := "fnExactRedBlackGet", fn := fun _ => fun
  | [d1, d2, d3] => { results := [.lit (.bool false)], args := [d1, d2, d3] }
  | _ => none }
def FnExactRedBlackGetWrongFalsely : Prop := fnExactRedBlackGetRow.holds Try.pinned (OpenSpec.ofChange fnExactRedBlackGetWrong)

/-- 'laws.FnRedBlackRemoveGet': WHATEVER THE INPUT: true; the input reads as it did. -/
def fnRedBlackRemoveGetSpec : ChangeSpec := { name := "fnRedBlackRemoveGet", fn := fun _ => fun
  | [d1, d2, d3, d4] => { results := [.lit (.bool true)], args := [d1, d2, d3, d4] }
  | _ => none }
def fnRedBlackRemoveGetRow : OpenClaim := { program := "ytmgjpppplapgpaa", sum := "0f2d9e50db5a3515380d067a80e23d47feb4a44cf7d4bb75724d8d6e8f997ee3", func := "loop.example/pub-sortedtrees/laws.FnRedBlackRemoveGet", spec := "fnRedBlackRemoveGet", unfollowed := true, recurses := true, apart := false }
def FnRedBlackRemoveGetSaid : Prop := fnRedBlackRemoveGetRow.holds Try.pinned (OpenSpec.ofChange fnRedBlackRemoveGetSpec)

/-- ITS FALSE NEIGHBOUR: 'it returns false'. Refute it at one input. -/
def fnRedBlackRemoveGetWrong : ChangeSpec := { name := "fnRedBlackRemoveGet", fn := fun _ => fun
  | [d1, d2, d3, d4] => { results := [.lit (.bool false)], args := [d1, d2, d3, d4] }
  | _ => none }
def FnRedBlackRemoveGetWrongFalsely : Prop := fnRedBlackRemoveGetRow.holds Try.pinned (OpenSpec.ofChange fnRedBlackRemoveGetWrong)

/-- 'laws.FnRedBlackUndone': WHATEVER THE INPUT: true; the input reads as it did. -/
def fnRedBlackUndoneSpec : ChangeSpec := { name := "fnRedBlackUndone", fn := fun _ => fun
  | [d1, d2, d3, d4] => { results := [.lit (.bool true)], args := [d1, d2, d3, d4] }
  | _ => none }
def fnRedBlackUndoneRow : OpenClaim := { program := "ytmgjpppplapgpaa", sum := "0f2d9e50db5a3515380d067a80e23d47feb4a44cf7d4bb75724d8d6e8f997ee3", func := "loop.example/pub-sortedtrees/laws.FnRedBlackUndone", spec := "fnRedBlackUndone", unfollowed := true, recurses := true, apart := false }
def FnRedBlackUndoneSaid : Prop := fnRedBlackUndoneRow.holds Try.pinned (OpenSpec.ofChange fnRedBlackUndoneSpec)

/-- ITS FALSE NEIGHBOUR: 'it returns false'. Refute it at one input. -/
def fnRedBlackUndoneWrong : ChangeSpec := { name := "fnRedBlackUndone", fn := fun _ => fun
  | [d1, d2, d3, d4] => { results := [.lit (.bool false)], args := [d1, d2, d3, d4] }
  | _ => none }
def FnRedBlackUndoneWrongFalsely : Prop := fnRedBlackUndoneRow.holds Try.pinned (OpenSpec.ofChange fnRedBlackUndoneWrong)

/-- 'laws.FnExactRedBlackRight': WHATEVER THE INPUT: true; the input reads as it did. -/
def fnExactRedBlackRightSpec : ChangeSpec := { name := "fnExactRedBlackRight", fn := fun _ => fun
  | [d1, d2] => { results := [.lit (.bool true)], args := [d1, d2] }
  | _ => none }
def fnExactRedBlackRightRow : OpenClaim := { program := "ytmgjpppplapgpaa", sum := "0f2d9e50db5a3515380d067a80e23d47feb4a44cf7d4bb75724d8d6e8f997ee3", func := "loop.example/pub-sortedtrees/laws.FnExactRedBlackRight", spec := "fnExactRedBlackRight", unfollowed := true, recurses := true, apart := false }
def FnExactRedBlackRightSaid : Prop := fnExactRedBlackRightRow.holds Try.pinned (OpenSpec.ofChange fnExactRedBlackRightSpec)

/-- ITS FALSE NEIGHBOUR: 'it returns false'. Refute it at one input. -/
def fnExactRedBlackRightWrong : ChangeSpec := { name := "fnExactRedBlackRight", fn := fun _ => fun
  | [d1, d2] => { results := [.lit (.bool false)], args := [d1, d2] }
  | _ => none }
def FnExactRedBlackRightWrongFalsely : Prop := fnExactRedBlackRightRow.holds Try.pinned (OpenSpec.ofChange fnExactRedBlackRightWrong)

/-- 'laws.FnExactRedBlackCeiling': WHATEVER THE INPUT: true; the input reads as it did. -/
def fnExactRedBlackCeilingSpec : ChangeSpec := { name := "fnExactRedBlackCeiling", fn := fun _ => fun
  | [d1, d2, d3] => { results := [.lit (.bool true)], args := [d1, d2, d3] }
  | _ => none }
def fnExactRedBlackCeilingRow : OpenClaim := { program := "ytmgjpppplapgpaa", sum := "0f2d9e50db5a3515380d067a80e23d47feb4a44cf7d4bb75724d8d6e8f997ee3", func := "loop.example/pub-sortedtrees/laws.FnExactRedBlackCeiling", spec := "fnExactRedBlackCeiling", unfollowed := true, recurses := true, apart := false }
def FnExactRedBlackCeilingSaid : Prop := fnExactRedBlackCeilingRow.holds Try.pinned (OpenSpec.ofChange fnExactRedBlackCeilingSpec)

/-- ITS FALSE NEIGHBOUR: 'it returns false'. Refute it at one input. -/
def fnExactRedBlackCeilingWrong : ChangeSpec := { name := "fnExactRedBlackCeiling", fn := fun _ => fun
  | [d1, d2, d3] => { results := [.lit (.bool false)], args := [d1, d2, d3] }
  | _ => none }
def FnExactRedBlackCeilingWrongFalsely : Prop := fnExactRedBlackCeilingRow.holds Try.pinned (OpenSpec.ofChange fnExactRedBlackCeilingWrong)

/-- 'laws.FnExactRedBlackFloor': WHATEVER THE INPUT: true; the input reads as it did. -/
def fnExactRedBlackFloorSpec : ChangeSpec := { name := "fnExactRedBlackFloor", fn := fun _ => fun
  | [d1, d2, d3] => { results := [.lit (.bool true)], args := [d1, d2, d3] }
  | _ => none }
def fnExactRedBlackFloorRow : OpenClaim := { program := "ytmgjpppplapgpaa", sum := "0f2d9e50db5a3515380d067a80e23d47feb4a44cf7d4bb75724d8d6e8f997ee3", func := "loop.example/pub-sortedtrees/laws.FnExactRedBlackFloor", spec := "fnExactRedBlackFloor", unfollowed := true, recurses := true, apart := false }
def FnExactRedBlackFloorSaid : Prop := fnExactRedBlackFloorRow.holds Try.pinned (OpenSpec.ofChange fnExactRedBlackFloorSpec)

/-- ITS FALSE NEIGHBOUR: 'it returns false'. Refute it at one input. -/
def fnExactRedBlackFloorWrong : ChangeSpec := { name := "fnExactRedBlackFloor", fn := fun _ => fun
  | [d1, d2, d3] => { results := [.lit (.bool false)], args := [d1, d2, d3] }
  | _ => none }
def FnExactRedBlackFloorWrongFalsely : Prop := fnExactRedBlackFloorRow.holds Try.pinned (OpenSpec.ofChange fnExactRedBlackFloorWrong)

/-- 'laws.FnExactRedBlackWalk': WHATEVER THE INPUT: true; the input reads as it did. -/
def fnExactRedBlackWalkSpec : ChangeSpec := { name := "fnExactRedBlackWalk", fn := fun _ => fun
  | [d1, d2, d3] => { results := [.lit (.bool true)], args := [d1, d2, d3] }
  | _ => none }
def fnExactRedBlackWalkRow : OpenClaim := { program := "ytmgjpppplapgpaa", sum := "0f2d9e50db5a3515380d067a80e23d47feb4a44cf7d4bb75724d8d6e8f997ee3", func := "loop.example/pub-sortedtrees/laws.FnExactRedBlackWalk", spec := "fnExactRedBlackWalk", unfollowed := true, recurses := true, apart := false }
def FnExactRedBlackWalkSaid : Prop := fnExactRedBlackWalkRow.holds Try.pinned (OpenSpec.ofChange fnExactRedBlackWalkSpec)

/-- ITS FALSE NEIGHBOUR: 'it returns false'. Refute it at one input. -/
def fnExactRedBlackWalkWrong : ChangeSpec := { name := "fnExactRedBlackWalk", fn := fun _ => fun
  | [d1, d2, d3] => { results := [.lit (.bool false)], args := [d1, d2, d3] }
  | _ => none }
def FnExactRedBlackWalkWrongFalsely : Prop := fnExactRedBlackWalkRow.holds Try.pinned (OpenSpec.ofChange fnExactRedBlackWalkWrong)

/-- 'laws.FnRedBlackBegun': WHATEVER THE INPUT: true; the input reads as it did. -/
def fnRedBlackBegunSpec : ChangeSpec := { name := "fnRedBlackBegun", fn := fun _ => fun
  | [d1, d2, d3] => { results := [.lit (.bool true)], args := [d1, d2, d3] }
  | _ => none }
def fnRedBlackBegunRow : OpenClaim := { program := "ytmgjpppplapgpaa", sum := "0f2d9e50db5a3515380d067a80e23d47feb4a44cf7d4bb75724d8d6e8f997ee3", func := "loop.example/pub-sortedtrees/laws.FnRedBlackBegun", spec := "fnRedBlackBegun", unfollowed := true, recurses := true, apart := false }
def FnRedBlackBegunSaid : Prop := fnRedBlackBegunRow.holds Try.pinned (OpenSpec.ofChange fnRedBlackBegunSpec)

/-- ITS FALSE NEIGHBOUR: 'it returns false'. Refute it at one input. -/
def fnRedBlackBegunWrong : ChangeSpec := { name := "fnRedBlackBegun", fn := fun _ => fun
  | [d1, d2, d3] => { results := [.lit (.bool false)], args := [d1, d2, d3] }
  | _ => none }
def FnRedBlackBegunWrongFalsely : Prop := fnRedBlackBegunRow.holds Try.pinned (OpenSpec.ofChange fnRedBlackBegunWrong)

/-- 'laws.FnRedBlackEnded': WHATEVER THE INPUT: true; the input reads as it did. -/
def fnRedBlackEndedSpec : ChangeSpec := { name := "fnRedBlackEnded", fn := fun _ => fun
  | [d1, d2, d3] => { results := [.lit (.bool true)], args := [d1, d2, d3] }
  | _ => none }
def fnRedBlackEndedRow : OpenClaim := { program := "ytmgjpppplapgpaa", sum := "0f2d9e50db5a3515380d067a80e23d47feb4a44cf7d4bb75724d8d6e8f997ee3", func := "loop.example/pub-sortedtrees/laws.FnRedBlackEnded", spec := "fnRedBlackEnded", unfollowed := true, recurses := true, apart := false }
def FnRedBlackEndedSaid : Prop := fnRedBlackEndedRow.holds Try.pinned (OpenSpec.ofChange fnRedBlackEndedSpec)

/-- ITS FALSE NEIGHBOUR: 'it returns false'. Refute it at one input. -/
def fnRedBlackEndedWrong : ChangeSpec := { name := "fnRedBlackEnded", fn := fun _ => fun
  | [d1, d2, d3] => { results := [.lit (.bool false)], args := [d1, d2, d3] }
  | _ => none }
def FnRedBlackEndedWrongFalsely : Prop := fnRedBlackEndedRow.holds Try.pinned (OpenSpec.ofChange fnRedBlackEndedWrong)

/-- 'laws.FnRedBlackSearched': WHATEVER THE INPUT: true; the input reads as it did. -/
def fnRedBlackSearchedSpec : ChangeSpec := { name := "fnRedBlackSearched", fn := fun _ => fun
  | [d1, d2, d3, d4] => { results := [.lit (.bool true)], args := [d1, d2, d3, d4] }
  | _ => none }
def fnRedBlackSearchedRow : OpenClaim := { program := "ytmgjpppplapgpaa", sum := "0f2d9e50db5a3515380d067a80e23d47feb4a44cf7d4bb75724d8d6e8f997ee3", func := "loop.example/pub-sortedtrees/laws.FnRedBlackSearched", spec := "fnRedBlackSearched", unfollowed := true, recurses := true, apart := false }
def FnRedBlackSearchedSaid : Prop := fnRedBlackSearchedRow.holds Try.pinned (OpenSpec.ofChange fnRedBlackSearchedSpec)

/-- ITS FALSE NEIGHBOUR: 'it returns false'. Refute it at one input. -/
def fnRedBlackSearchedWrong : ChangeSpec := { name := "fnRedBlackSearched", fn := fun _ => fun
  | [d1, d2, d3, d4] => { results := [.lit (.bool false)], args := [d1, d2, d3, d4] }
  | _ => none }
def FnRedBlackSearchedWrongFalsely : Prop := fnRedBlackSearchedRow.holds Try.pinned (OpenSpec.ofChange fnRedBlackSearchedWrong)

/-- 'laws.FnExactRedBlackWalkAt': WHATEVER THE INPUT: true; the input reads as it did. -/
def fnExactRedBlackWalkAtSpec : ChangeSpec := { name := "fnExactRedBlackWalkAt", fn := fun _ => fun
  | [d1, d2, d3, d4] => { results := [.lit (.bool true)], args := [d1, d2, d3, d4] }
  | _ => none }
def fnExactRedBlackWalkAtRow : OpenClaim := { program := "ytmgjpppplapgpaa", sum := "0f2d9e50db5a3515380d067a80e23d47feb4a44cf7d4bb75724d8d6e8f997ee3", func := "loop.example/pub-sortedtrees/laws.FnExactRedBlackWalkAt", spec := "fnExactRedBlackWalkAt", unfollowed := true, recurses := true, apart := false }
def FnExactRedBlackWalkAtSaid : Prop := fnExactRedBlackWalkAtRow.holds Try.pinned (OpenSpec.ofChange fnExactRedBlackWalkAtSpec)

/-- ITS FALSE NEIGHBOUR: 'it returns false'. Refute it at one input. -/
def fnExactRedBlackWalkAtWrong : ChangeSpec := { name := "fnExactRedBlackWalkAt", fn := fun _ => fun
  | [d1, d2, d3, d4] => { results := [.lit (.bool false)], args := [d1, d2, d3, d4] }
  | _ => none }
def FnExactRedBlackWalkAtWrongFalsely : Prop := fnExactRedBlackWalkAtRow.holds Try.pinned (OpenSpec.ofChange fnExactRedBlackWalkAtWrong)

/-- 'laws.FnRedBlackWalkAt': WHATEVER THE INPUT: true; the input reads as it did. -/
def fnRedBlackWalkAtSpec : ChangeSpec := { name := "fnRedBlackWalkAt", fn := fun _ => fun
  | [d1, d2, d3] => { results := [.lit (.bool true)], args := [d1, d2, d3] }
  | _ => none }
def fnRedBlackWalkAtRow : OpenClaim := { program := "ytmgjpppplapgpaa", sum := "0f2d9e50db5a3515380d067a80e23d47feb4a44cf7d4bb75724d8d6e8f997ee3", func := "loop.example/pub-sortedtrees/laws.FnRedBlackWalkAt", spec := "fnRedBlackWalkAt", unfollowed := true, recurses := true, apart := false }
def FnRedBlackWalkAtSaid : Prop := fnRedBlackWalkAtRow.holds Try.pinned (OpenSpec.ofChange fnRedBlackWalkAtSpec)

/-- ITS FALSE NEIGHBOUR: 'it returns false'. Refute it at one input. -/
def fnRedBlackWalkAtWrong : ChangeSpec := { name := "fnRedBlackWalkAt", fn := fun _ => fun
  | [d1, d2, d3] => { results := [.lit (.bool false)], args := [d1, d2, d3] }
  | _ => none }
def FnRedBlackWalkAtWrongFalsely : Prop := fnRedBlackWalkAtRow.holds Try.pinned (OpenSpec.ofChange fnRedBlackWalkAtWrong)

/-- 'laws.FnRedBlackStill': WHATEVER THE INPUT: true; the input reads as it did. -/
def fnRedBlackStillSpec : ChangeSpec := { name := "fnRedBlackStill", fn := fun _ => fun
  | [d1, d2, d3, d4] => { results := [.lit (.bool true)], args := [d1, d2, d3, d4] }
  | _ => none }
def fnRedBlackStillRow : OpenClaim := { program := "ytmgjpppplapgpaa", sum := "0f2d9e50db5a3515380d067a80e23d47feb4a44cf7d4bb75724d8d6e8f997ee3", func := "loop.example/pub-sortedtrees/laws.FnRedBlackStill", spec := "fnRedBlackStill", unfollowed := true, recurses := true, apart := false }
def FnRedBlackStillSaid : Prop := fnRedBlackStillRow.holds Try.pinned (OpenSpec.ofChange fnRedBlackStillSpec)

/-- ITS FALSE NEIGHBOUR: 'it returns false'. Refute it at one input. -/
def fnRedBlackStillWrong : ChangeSpec := { name := "fnRedBlackStill", fn := fun _ => fun
  | [d1, d2, d3, d4] => { results := [.lit (.bool false)], args := [d1, d2, d3, d4] }
  | _ => none }
def FnRedBlackStillWrongFalsely : Prop := fnRedBlackStillRow.holds Try.pinned (OpenSpec.ofChange fnRedBlackStillWrong)

/- THE SECOND FORM. 'bulk': how many values and letters a reading holds, each counted each time it is reached (what is shared counts as often as it is met; a slice's spare places count too). A statement '..UptoSaid' is the law's where the arguments, and the package variables that the reading takes, are together of bulk at most 1048576: NARROWER than '..Said'. Prove '..Said' where nothing that the law and all that it calls make is longer than what came in: it says more and counts as full. Else prove '..UptoSaid'. A law counts once. -/
mutual
def uptoBulk {H : Type} : DataW H → Nat
  | .lit (.string bytes) => bytes.length + 1
  | .lit _ => 1
  | .nil => 1
  | .ptr d => uptoBulk d + 1
  | .slice elems spare => uptoBulkAll elems + uptoBulkAll spare + 1
  | .agg parts => uptoBulkAll parts + 1
  | .iface _ d => uptoBulk d + 1
  | .map entries => uptoBulkEntries entries + 1
  | .held _ => 1
def uptoBulkAll {H : Type} : List (DataW H) → Nat
  | [] => 0
  | d :: r => uptoBulk d + uptoBulkAll r
def uptoBulkEntries {H : Type} : List (Lit × DataW H) → Nat
  | [] => 0
  | x :: r => uptoBulkEntry x + uptoBulkEntries r
def uptoBulkEntry {H : Type} : Lit × DataW H → Nat
  | (.string bytes, d) => bytes.length + uptoBulk d + 1
  | (_, d) => uptoBulk d + 1
 end
def uptoSmall : (H : Type) → List (DataW H) → Bool := fun _ ds => decide (uptoBulkAll ds ≤ 1048576)
def OpenSpec.upto (s : _root_.Go.ChangeSpec) : _root_.Go.OpenSpec := { _root_.Go.OpenSpec.ofChange s with cond := some uptoSmall }

/-- 'laws.FnRedBlackPutGet', WHERE WHAT IT READS IS OF BULK AT MOST 1048576: true; the input reads as it did. -/
def fnRedBlackPutGetUptoRow : OpenClaim := { program := "ytmgjpppplapgpaa", sum := "0f2d9e50db5a3515380d067a80e23d47feb4a44cf7d4bb75724d8d6e8f997ee3", func := "loop.example/pub-sortedtrees/laws.FnRedBlackPutGet", spec := "fnRedBlackPutGet", unfollowed := true, recurses := true, apart := false, narrowed := true }
def FnRedBlackPutGetUptoSaid : Prop := fnRedBlackPutGetUptoRow.holds Try.pinned (OpenSpec.upto fnRedBlackPutGetSpec)

/-- 'laws.FnExactRedBlackState', WHERE WHAT IT READS IS OF BULK AT MOST 1048576: true; the input reads as it did. -/
def fnExactRedBlackStateUptoRow : OpenClaim := { program := "ytmgjpppplapgpaa", sum := "0f2d9e50db5a3515380d067a80e23d47feb4a44cf7d4bb75724d8d6e8f997ee3", func := "loop.example/pub-sortedtrees/laws.FnExactRedBlackState", spec := "fnExactRedBlackState", unfollowed := true, recurses := true, apart := false, narrowed := true }
def FnExactRedBlackStateUptoSaid : Prop := fnExactRedBlackStateUptoRow.holds Try.pinned (OpenSpec.upto fnExactRedBlackStateSpec)

/-- 'laws.FnRedBlackCleared', WHERE WHAT IT READS IS OF BULK AT MOST 1048576: true; the input reads as it did. -/
def fnRedBlackClearedUptoRow : OpenClaim := { program := "ytmgjpppplapgpaa", sum := "0f2d9e50db5a3515380d067a80e23d47feb4a44cf7d4bb75724d8d6e8f997ee3", func := "loop.example/pub-sortedtrees/laws.FnRedBlackCleared", spec := "fnRedBlackCleared", unfollowed := true, recurses := true, apart := false, narrowed := true }
def FnRedBlackClearedUptoSaid : Prop := fnRedBlackClearedUptoRow.holds Try.pinned (OpenSpec.upto fnRedBlackClearedSpec)

/-- 'laws.FnRedBlackCommute', WHERE WHAT IT READS IS OF BULK AT MOST 1048576: true; the input reads as it did. -/
def fnRedBlackCommuteUptoRow : OpenClaim := { program := "ytmgjpppplapgpaa", sum := "0f2d9e50db5a3515380d067a80e23d47feb4a44cf7d4bb75724d8d6e8f997ee3", func := "loop.example/pub-sortedtrees/laws.FnRedBlackCommute", spec := "fnRedBlackCommute", unfollowed := true, recurses := true, apart := false, narrowed := true }
def FnRedBlackCommuteUptoSaid : Prop := fnRedBlackCommuteUptoRow.holds Try.pinned (OpenSpec.upto fnRedBlackCommuteSpec)

/-- 'laws.FnRedBlackSize', WHERE WHAT IT READS IS OF BULK AT MOST 1048576: true; the input reads as it did. -/
def fnRedBlackSizeUptoRow : OpenClaim := { program := "ytmgjpppplapgpaa", sum := "0f2d9e50db5a3515380d067a80e23d47feb4a44cf7d4bb75724d8d6e8f997ee3", func := "loop.example/pub-sortedtrees/laws.FnRedBlackSize", spec := "fnRedBlackSize", unfollowed := true, recurses := true, apart := false, narrowed := true }
def FnRedBlackSizeUptoSaid : Prop := fnRedBlackSizeUptoRow.holds Try.pinned (OpenSpec.upto fnRedBlackSizeSpec)

/-- 'laws.FnRedBlackStateRest', WHERE WHAT IT READS IS OF BULK AT MOST 1048576: true; the input reads as it did. -/
def fnRedBlackStateRestUptoRow : OpenClaim := { program := "ytmgjpppplapgpaa", sum := "0f2d9e50db5a3515380d067a80e23d47feb4a44cf7d4bb75724d8d6e8f997ee3", func := "loop.example/pub-sortedtrees/laws.FnRedBlackStateRest", spec := "fnRedBlackStateRest", unfollowed := true, recurses := true, apart := false, narrowed := true }
def FnRedBlackStateRestUptoSaid : Prop := fnRedBlackStateRestUptoRow.holds Try.pinned (OpenSpec.upto fnRedBlackStateRestSpec)

/-- 'laws.FnRedBlackTurned', WHERE WHAT IT READS IS OF BULK AT MOST 1048576: true; the input reads as it did. -/
def fnRedBlackTurnedUptoRow : OpenClaim := { program := "ytmgjpppplapgpaa", sum := "0f2d9e50db5a3515380d067a80e23d47feb4a44cf7d4bb75724d8d6e8f997ee3", func := "loop.example/pub-sortedtrees/laws.FnRedBlackTurned", spec := "fnRedBlackTurned", unfollowed := true, recurses := true, apart := false, narrowed := true }
def FnRedBlackTurnedUptoSaid : Prop := fnRedBlackTurnedUptoRow.holds Try.pinned (OpenSpec.upto fnRedBlackTurnedSpec)

/-- 'laws.FnRedBlackTwice', WHERE WHAT IT READS IS OF BULK AT MOST 1048576: true; the input reads as it did. -/
def fnRedBlackTwiceUptoRow : OpenClaim := { program := "ytmgjpppplapgpaa", sum := "0f2d9e50db5a3515380d067a80e23d47feb4a44cf7d4bb75724d8d6e8f997ee3", func := "loop.example/pub-sortedtrees/laws.FnRedBlackTwice", spec := "fnRedBlackTwice", unfollowed := true, recurses := true, apart := false, narrowed := true }
def FnRedBlackTwiceUptoSaid : Prop := fnRedBlackTwiceUptoRow.holds Try.pinned (OpenSpec.upto fnRedBlackTwiceSpec)

/-- 'laws.FnExactRedBlackLeft', WHERE WHAT IT READS IS OF BULK AT MOST 1048576: true; the input reads as it did. -/
def fnExactRedBlackLeftUptoRow : OpenClaim := { program := "ytmgjpppplapgpaa", sum := "0f2d9e50db5a3515380d067a80e23d47feb4a44cf7d4bb75724d8d6e8f997ee3", func := "loop.example/pub-sortedtrees/laws.FnExactRedBlackLeft", spec := "fnExactRedBlackLeft", unfollowed := true, recurses := true, apart := false, narrowed := true }
def FnExactRedBlackLeftUptoSaid : Prop := fnExactRedBlackLeftUptoRow.holds Try.pinned (OpenSpec.upto fnExactRedBlackLeftSpec)

/-- 'laws.FnExactRedBlackNode', WHERE WHAT IT READS IS OF BULK AT MOST 1048576: true; the input reads as it did. -/
def fnExactRedBlackNodeUptoRow : OpenClaim := { program := "ytmgjpppplapgpaa", sum := "0f2d9e50db5a3515380d067a80e23d47feb4a44cf7d4bb75724d8d6e8f997ee3", func := "loop.example/pub-sortedtrees/laws.FnExactRedBlackNode", spec := "fnExactRedBlackNode", unfollowed := true, recurses := true, apart := false, narrowed := true }
def FnExactRedBlackNodeUptoSaid : Prop := fnExactRedBlackNodeUptoRow.holds Try.pinned (OpenSpec.upto fnExactRedBlackNodeSpec)

/-- 'laws.FnExactRedBlackGet', WHERE WHAT IT READS IS OF BULK AT MOST 1048576: true; the input reads as it did. -/
def fnExactRedBlackGetUptoRow : OpenClaim := { program := "ytmgjpppplapgpaa", sum := "0f2d9e50db5a3515380d067a80e23d47feb4a44cf7d4bb75724d8d6e8f997ee3", func := "loop.example/pub-sortedtrees/laws.FnExactRedBlackGet", spec := "fnExactRedBlackGet", unfollowed := true, recurses := true, apart := false, narrowed := true }
def FnExactRedBlackGetUptoSaid : Prop := fnExactRedBlackGetUptoRow.holds Try.pinned (OpenSpec.upto fnExactRedBlackGetSpec)

/-- 'laws.FnRedBlackRemoveGet', WHERE WHAT IT READS IS OF BULK AT MOST 1048576: true; the input reads as it did. -/
def fnRedBlackRemoveGetUptoRow : OpenClaim := { program := "ytmgjpppplapgpaa", sum := "0f2d9e50db5a3515380d067a80e23d47feb4a44cf7d4bb75724d8d6e8f997ee3", func := "loop.example/pub-sortedtrees/laws.FnRedBlackRemoveGet", spec := "fnRedBlackRemoveGet", unfollowed := true, recurses := true, apart := false, narrowed := true }
def FnRedBlackRemoveGetUptoSaid : Prop := fnRedBlackRemoveGetUptoRow.holds Try.pinned (OpenSpec.upto fnRedBlackRemoveGetSpec)

/-- 'laws.FnRedBlackUndone', WHERE WHAT IT READS IS OF BULK AT MOST 1048576: true; the input reads as it did. -/
def fnRedBlackUndoneUptoRow : OpenClaim := { program := "ytmgjpppplapgpaa", sum := "0f2d9e50db5a3515380d067a80e23d47feb4a44cf7d4bb75724d8d6e8f997ee3", func := "loop.example/pub-sortedtrees/laws.FnRedBlackUndone", spec := "fnRedBlackUndone", unfollowed := true, recurses := true, apart := false, narrowed := true }
def FnRedBlackUndoneUptoSaid : Prop := fnRedBlackUndoneUptoRow.holds Try.pinned (OpenSpec.upto fnRedBlackUndoneSpec)

/-- 'laws.FnExactRedBlackRight', WHERE WHAT IT READS IS OF BULK AT MOST 1048576: true; the input reads as it did. -/
def fnExactRedBlackRightUptoRow : OpenClaim := { program := "ytmgjpppplapgpaa", sum := "0f2d9e50db5a3515380d067a80e23d47feb4a44cf7d4bb75724d8d6e8f997ee3", func := "loop.example/pub-sortedtrees/laws.FnExactRedBlackRight", spec := "fnExactRedBlackRight", unfollowed := true, recurses := true, apart := false, narrowed := true }
def FnExactRedBlackRightUptoSaid : Prop := fnExactRedBlackRightUptoRow.holds Try.pinned (OpenSpec.upto fnExactRedBlackRightSpec)

/-- 'laws.FnExactRedBlackCeiling', WHERE WHAT IT READS IS OF BULK AT MOST 1048576: true; the input reads as it did. -/
def fnExactRedBlackCeilingUptoRow : OpenClaim := { program := "ytmgjpppplapgpaa", sum := "0f2d9e50db5a3515380d067a80e23d47feb4a44cf7d4bb75724d8d6e8f997ee3", func := "loop.example/pub-sortedtrees/laws.FnExactRedBlackCeiling", spec := "fnExactRedBlackCeiling", unfollowed := true, recurses := true, apart := false, narrowed := true }
def FnExactRedBlackCeilingUptoSaid : Prop := fnExactRedBlackCeilingUptoRow.holds Try.pinned (OpenSpec.upto fnExactRedBlackCeilingSpec)

/-- 'laws.FnExactRedBlackFloor', WHERE WHAT IT READS IS OF BULK AT MOST 1048576: true; the input reads as it did. -/
def fnExactRedBlackFloorUptoRow : OpenClaim := { program := "ytmgjpppplapgpaa", sum := "0f2d9e50db5a3515380d067a80e23d47feb4a44cf7d4bb75724d8d6e8f997ee3", func := "loop.example/pub-sortedtrees/laws.FnExactRedBlackFloor", spec := "fnExactRedBlackFloor", unfollowed := true, recurses := true, apart := false, narrowed := true }
def FnExactRedBlackFloorUptoSaid : Prop := fnExactRedBlackFloorUptoRow.holds Try.pinned (OpenSpec.upto fnExactRedBlackFloorSpec)

/-- 'laws.FnExactRedBlackWalk', WHERE WHAT IT READS IS OF BULK AT MOST 1048576: true; the input reads as it did. -/
def fnExactRedBlackWalkUptoRow : OpenClaim := { program := "ytmgjpppplapgpaa", sum := "0f2d9e50db5a3515380d067a80e23d47feb4a44cf7d4bb75724d8d6e8f997ee3", func := "loop.example/pub-sortedtrees/laws.FnExactRedBlackWalk", spec := "fnExactRedBlackWalk", unfollowed := true, recurses := true, apart := false, narrowed := true }
def FnExactRedBlackWalkUptoSaid : Prop := fnExactRedBlackWalkUptoRow.holds Try.pinned (OpenSpec.upto fnExactRedBlackWalkSpec)

/-- 'laws.FnRedBlackBegun', WHERE WHAT IT READS IS OF BULK AT MOST 1048576: true; the input reads as it did. -/
def fnRedBlackBegunUptoRow : OpenClaim := { program := "ytmgjpppplapgpaa", sum := "0f2d9e50db5a3515380d067a80e23d47feb4a44cf7d4bb75724d8d6e8f997ee3", func := "loop.example/pub-sortedtrees/laws.FnRedBlackBegun", spec := "fnRedBlackBegun", unfollowed := true, recurses := true, apart := false, narrowed := true }
def FnRedBlackBegunUptoSaid : Prop := fnRedBlackBegunUptoRow.holds Try.pinned (OpenSpec.upto fnRedBlackBegunSpec)

/-- 'laws.FnRedBlackEnded', WHERE WHAT IT READS IS OF BULK AT MOST 1048576: true; the input reads as it did. -/
def fnRedBlackEndedUptoRow : OpenClaim := { program := "ytmgjpppplapgpaa", sum := "0f2d9e50db5a3515380d067a80e23d47feb4a44cf7d4bb75724d8d6e8f997ee3", func := "loop.example/pub-sortedtrees/laws.FnRedBlackEnded", spec := "fnRedBlackEnded", unfollowed := true, recurses := true, apart := false, narrowed := true }
def FnRedBlackEndedUptoSaid : Prop := fnRedBlackEndedUptoRow.holds Try.pinned (OpenSpec.upto fnRedBlackEndedSpec)

/-- 'laws.FnRedBlackSearched', WHERE WHAT IT READS IS OF BULK AT MOST 1048576: true; the input reads as it did. -/
def fnRedBlackSearchedUptoRow : OpenClaim := { program := "ytmgjpppplapgpaa", sum := "0f2d9e50db5a3515380d067a80e23d47feb4a44cf7d4bb75724d8d6e8f997ee3", func := "loop.example/pub-sortedtrees/laws.FnRedBlackSearched", spec := "fnRedBlackSearched", unfollowed := true, recurses := true, apart := false, narrowed := true }
def FnRedBlackSearchedUptoSaid : Prop := fnRedBlackSearchedUptoRow.holds Try.pinned (OpenSpec.upto fnRedBlackSearchedSpec)

/-- 'laws.FnExactRedBlackWalkAt', WHERE WHAT IT READS IS OF BULK AT MOST 1048576: true; the input reads as it did. -/
def fnExactRedBlackWalkAtUptoRow : OpenClaim := { program := "ytmgjpppplapgpaa", sum := "0f2d9e50db5a3515380d067a80e23d47feb4a44cf7d4bb75724d8d6e8f997ee3", func := "loop.example/pub-sortedtrees/laws.FnExactRedBlackWalkAt", spec := "fnExactRedBlackWalkAt", unfollowed := true, recurses := true, apart := false, narrowed := true }
def FnExactRedBlackWalkAtUptoSaid : Prop := fnExactRedBlackWalkAtUptoRow.holds Try.pinned (OpenSpec.upto fnExactRedBlackWalkAtSpec)

/-- 'laws.FnRedBlackWalkAt', WHERE WHAT IT READS IS OF BULK AT MOST 1048576: true; the input reads as it did. -/
def fnRedBlackWalkAtUptoRow : OpenClaim := { program := "ytmgjpppplapgpaa", sum := "0f2d9e50db5a3515380d067a80e23d47feb4a44cf7d4bb75724d8d6e8f997ee3", func := "loop.example/pub-sortedtrees/laws.FnRedBlackWalkAt", spec := "fnRedBlackWalkAt", unfollowed := true, recurses := true, apart := false, narrowed := true }
def FnRedBlackWalkAtUptoSaid : Prop := fnRedBlackWalkAtUptoRow.holds Try.pinned (OpenSpec.upto fnRedBlackWalkAtSpec)

/-- 'laws.FnRedBlackStill', WHERE WHAT IT READS IS OF BULK AT MOST 1048576: true; the input reads as it did. -/
def fnRedBlackStillUptoRow : OpenClaim := { program := "ytmgjpppplapgpaa", sum := "0f2d9e50db5a3515380d067a80e23d47feb4a44cf7d4bb75724d8d6e8f997ee3", func := "loop.example/pub-sortedtrees/laws.FnRedBlackStill", spec := "fnRedBlackStill", unfollowed := true, recurses := true, apart := false, narrowed := true }
def FnRedBlackStillUptoSaid : Prop := fnRedBlackStillUptoRow.holds Try.pinned (OpenSpec.upto fnRedBlackStillSpec)

end Rows
end Go.Proofs.Ytmgjpppplapgpaa
