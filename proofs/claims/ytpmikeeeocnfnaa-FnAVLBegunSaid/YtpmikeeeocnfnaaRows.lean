/-
  No cell of these rows narrows 'for every input' (looked for: loops, veiled, ifaces, maps, wideKeys, modest, calm, conditions, laid).
  DERIVED. THE GIVEN ROWS OF THIS SEAT. 27 by the template 'for every input the law returns true; each argument reads behind the call as it read before'; 0 by the template 'total and deterministic' (their statements: YtpmikeeeocnfnaaTotals.lean).
  GIVEN WITH THE SEED: the statements are not yours to turn. If you find one false, say at which input.
  Laid BY PROGRAM, IN A SANDBOX (cutbox-rows.mjs): the forced cells as the released guide's own fill.sh prints them over the translation 161ce018dbd203a1… (all of the seat's roots in one cut). By AI agents, Wed Nov 11 2026. No macro, syntax, notation, axiom, sorry.
-/
import Derived.Test.YtpmikeeeocnfnaaChecked
import GoSem.Claim
import GoSem.ClaimJoined
import GoSem.ClaimMapViews
import Derived.JoinedTies
import Derived.KernelRfl
namespace Go.Proofs.Ytpmikeeeocnfnaa
/- THE CELL 'sum', in the pinned program and in every row, IS THE sha256 OF THE DUMP (.gsa) THAT YtpmikeeeocnfnaaProg.lean LOADS. Nothing in Lean hashes anything: it is a label: what it is worth is what the hold of that sum in a sandbox is worth. -/
noncomputable def Try.pinned : Pinned := { name := "ytpmikeeeocnfnaa", sum := "161ce018dbd203a1c5f730d855726055941f097dc6280816296b1f18d80a8e2b", checked := Try.checked }
namespace Rows
def none {H : Type} : Left H := { results := [], args := [] }

/-- 'laws.FnAVLPutGet': WHATEVER THE INPUT: true; the input reads as it did. -/
def fnAVLPutGetSpec : ChangeSpec := { name := "fnAVLPutGet", fn := fun _ => fun
  | [d1, d2, d3, d4, d5] => { results := [.lit (.bool true)], args := [d1, d2, d3, d4, d5] }
  | _ => none }
def fnAVLPutGetRow : OpenClaim := { program := "ytpmikeeeocnfnaa", sum := "161ce018dbd203a1c5f730d855726055941f097dc6280816296b1f18d80a8e2b", func := "loop.example/pub-sortedtrees/laws.FnAVLPutGet", spec := "fnAVLPutGet", unfollowed := true, recurses := true, apart := false }
def FnAVLPutGetSaid : Prop := fnAVLPutGetRow.holds Try.pinned (OpenSpec.ofChange fnAVLPutGetSpec)

/-- ITS FALSE NEIGHBOUR: 'it returns false'. Refute it at one input. -/
def fnAVLPutGetWrong : ChangeSpec := { name := "fnAVLPutGet", fn := fun _ => fun
  | [d1, d2, d3, d4, d5] => { results := [.lit (.bool false)], args := [d1, d2, d3, d4, d5] }
  | _ => none }
def FnAVLPutGetWrongFalsely : Prop := fnAVLPutGetRow.holds Try.pinned (OpenSpec.ofChange fnAVLPutGetWrong)

/-- 'laws.FnAVLCleared': WHATEVER THE INPUT: true; the input reads as it did. -/
def fnAVLClearedSpec : ChangeSpec := { name := "fnAVLCleared", fn := fun _ => fun
  | [d1, d2, d3] => { results := [.lit (.bool true)], args := [d1, d2, d3] }
  | _ => none }
def fnAVLClearedRow : OpenClaim := { program := "ytpmikeeeocnfnaa", sum := "161ce018dbd203a1c5f730d855726055941f097dc6280816296b1f18d80a8e2b", func := "loop.example/pub-sortedtrees/laws.FnAVLCleared", spec := "fnAVLCleared", unfollowed := true, recurses := true, apart := false }
def FnAVLClearedSaid : Prop := fnAVLClearedRow.holds Try.pinned (OpenSpec.ofChange fnAVLClearedSpec)

/-- ITS FALSE NEIGHBOUR: 'it returns false'. Refute it at one input. -/
def fnAVLClearedWrong : ChangeSpec := { name := "fnAVLCleared", fn := fun _ => fun
  | [d1, d2, d3] => { results := [.lit (.bool false)], args := [d1, d2, d3] }
  | _ => none }
def FnAVLClearedWrongFalsely : Prop := fnAVLClearedRow.holds Try.pinned (OpenSpec.ofChange fnAVLClearedWrong)

/-- 'laws.FnAVLCommute': WHATEVER THE INPUT: true; the input reads as it did. -/
def fnAVLCommuteSpec : ChangeSpec := { name := "fnAVLCommute", fn := fun _ => fun
  | [d1, d2, d3, d4] => { results := [.lit (.bool true)], args := [d1, d2, d3, d4] }
  | _ => none }
def fnAVLCommuteRow : OpenClaim := { program := "ytpmikeeeocnfnaa", sum := "161ce018dbd203a1c5f730d855726055941f097dc6280816296b1f18d80a8e2b", func := "loop.example/pub-sortedtrees/laws.FnAVLCommute", spec := "fnAVLCommute", unfollowed := true, recurses := true, apart := false }
def FnAVLCommuteSaid : Prop := fnAVLCommuteRow.holds Try.pinned (OpenSpec.ofChange fnAVLCommuteSpec)

/-- ITS FALSE NEIGHBOUR: 'it returns false'. Refute it at one input. -/
def fnAVLCommuteWrong : ChangeSpec := { name := "fnAVLCommute", fn := fun _ => fun
  | [d1, d2, d3, d4] => { results := [.lit (.bool false)], args := [d1, d2, d3, d4] }
  | _ => none }
def FnAVLCommuteWrongFalsely : Prop := fnAVLCommuteRow.holds Try.pinned (OpenSpec.ofChange fnAVLCommuteWrong)

/-- 'laws.FnAVLSize': WHATEVER THE INPUT: true; the input reads as it did. -/
def fnAVLSizeSpec : ChangeSpec := { name := "fnAVLSize", fn := fun _ => fun
  | [d1, d2] => { results := [.lit (.bool true)], args := [d1, d2] }
  | _ => none }
def fnAVLSizeRow : OpenClaim := { program := "ytpmikeeeocnfnaa", sum := "161ce018dbd203a1c5f730d855726055941f097dc6280816296b1f18d80a8e2b", func := "loop.example/pub-sortedtrees/laws.FnAVLSize", spec := "fnAVLSize", unfollowed := true, recurses := true, apart := false }
def FnAVLSizeSaid : Prop := fnAVLSizeRow.holds Try.pinned (OpenSpec.ofChange fnAVLSizeSpec)

/-- ITS FALSE NEIGHBOUR: 'it returns false'. Refute it at one input. -/
def fnAVLSizeWrong : ChangeSpec := { name := "fnAVLSize", fn := fun _ => fun
  | [d1, d2] => { results := [.lit (.bool false)], args := [d1, d2] }
  | _ => none }
def FnAVLSizeWrongFalsely : Prop := fnAVLSizeRow.holds Try.pinned (OpenSpec.ofChange fnAVLSizeWrong)

/-- 'laws.FnAVLStateRest': WHATEVER THE INPUT: true; the input reads as it did. -/
def fnAVLStateRestSpec : ChangeSpec := { name := "fnAVLStateRest", fn := fun _ => fun
  | [d1, d2] => { results := [.lit (.bool true)], args := [d1, d2] }
  | _ => none }
def fnAVLStateRestRow : OpenClaim := { program := "ytpmikeeeocnfnaa", sum := "161ce018dbd203a1c5f730d855726055941f097dc6280816296b1f18d80a8e2b", func := "loop.example/pub-sortedtrees/laws.FnAVLStateRest", spec := "fnAVLStateRest", unfollowed := true, recurses := true, apart := false }
def FnAVLStateRestSaid : Prop := fnAVLStateRestRow.holds Try.pinned (OpenSpec.ofChange fnAVLStateRestSpec)

/-- ITS FALSE NEIGHBOUR: 'it returns false'. Refute it at one input. -/
def fnAVLStateRestWrong : ChangeSpec := { name := "fnAVLStateRest", fn := fun _ => fun
  | [d1, d2] => { results := [.lit (.bool false)], args := [d1, d2] }
  | _ => none }
def FnAVLStateRestWrongFalsely : Prop := fnAVLStateRestRow.holds Try.pinned (OpenSpec.ofChange fnAVLStateRestWrong)

/-- 'laws.FnAVLTurned': WHATEVER THE INPUT: true; the input reads as it did. -/
def fnAVLTurnedSpec : ChangeSpec := { name := "fnAVLTurned", fn := fun _ => fun
  | [d] => { results := [.lit (.bool true)], args := [d] }
  | _ => none }
def fnAVLTurnedRow : OpenClaim := { program := "ytpmikeeeocnfnaa", sum := "161ce018dbd203a1c5f730d855726055941f097dc6280816296b1f18d80a8e2b", func := "loop.example/pub-sortedtrees/laws.FnAVLTurned", spec := "fnAVLTurned", unfollowed := true, recurses := true, apart := false }
def FnAVLTurnedSaid : Prop := fnAVLTurnedRow.holds Try.pinned (OpenSpec.ofChange fnAVLTurnedSpec)

/-- ITS FALSE NEIGHBOUR: 'it returns false'. Refute it at one input. -/
def fnAVLTurnedWrong : ChangeSpec := { name := "fnAVLTurned", fn := fun _ => fun
  | [d] => { results := [.lit (.bool false)], args := [d] }
  | _ => none }
def FnAVLTurnedWrongFalsely : Prop := fnAVLTurnedRow.holds Try.pinned (OpenSpec.ofChange fnAVLTurnedWrong)

/-- 'laws.FnAVLTwice': WHATEVER THE INPUT: true; the input reads as it did. -/
def fnAVLTwiceSpec : ChangeSpec := { name := "fnAVLTwice", fn := fun _ => fun
  | [d1, d2, d3, d4, d5] => { results := [.lit (.bool true)], args := [d1, d2, d3, d4, d5] }
  | _ => none }
def fnAVLTwiceRow : OpenClaim := { program := "ytpmikeeeocnfnaa", sum := "161ce018dbd203a1c5f730d855726055941f097dc6280816296b1f18d80a8e2b", func := "loop.example/pub-sortedtrees/laws.FnAVLTwice", spec := "fnAVLTwice", unfollowed := true, recurses := true, apart := false }
def FnAVLTwiceSaid : Prop := fnAVLTwiceRow.holds Try.pinned (OpenSpec.ofChange fnAVLTwiceSpec)

/-- ITS FALSE NEIGHBOUR: 'it returns false'. Refute it at one input. -/
def fnAVLTwiceWrong : ChangeSpec := { name := "fnAVLTwice", fn := fun _ => fun
  | [d1, d2, d3, d4, d5] => { results := [.lit (.bool false)], args := [d1, d2, d3, d4, d5] }
  | _ => none }
def FnAVLTwiceWrongFalsely : Prop := fnAVLTwiceRow.holds Try.pinned (OpenSpec.ofChange fnAVLTwiceWrong)

/-- 'laws.FnExactAVLState': WHATEVER THE INPUT: true; the input reads as it did. -/
def fnExactAVLStateSpec : ChangeSpec := { name := "fnExactAVLState", fn := fun _ => fun
  | [d1, d2] => { results := [.lit (.bool true)], args := [d1, d2] }
  | _ => none }
def fnExactAVLStateRow : OpenClaim := { program := "ytpmikeeeocnfnaa", sum := "161ce018dbd203a1c5f730d855726055941f097dc6280816296b1f18d80a8e2b", func := "loop.example/pub-sortedtrees/laws.FnExactAVLState", spec := "fnExactAVLState", unfollowed := true, recurses := true, apart := false }
def FnExactAVLStateSaid : Prop := fnExactAVLStateRow.holds Try.pinned (OpenSpec.ofChange fnExactAVLStateSpec)

/-- ITS FALSE NEIGHBOUR: 'it returns false'. Refute it at one input. -/
def fnExactAVLStateWrong : ChangeSpec := { name := "fnExactAVLState", fn := fun _ => fun
  | [d1, d2] => { results := [.lit (.bool false)], args := [d1, d2] }
  | _ => none }
def FnExactAVLStateWrongFalsely : Prop := fnExactAVLStateRow.holds Try.pinned (OpenSpec.ofChange fnExactAVLStateWrong)

/-- 'laws.FnExactAVLLeft': WHATEVER THE INPUT: true; the input reads as it did. -/
def fnExactAVLLeftSpec : ChangeSpec := { name := "fnExactAVLLeft", fn := fun _ => fun
  | [d1, d2] => { results := [.lit (.bool true)], args := [d1, d2] }
  | _ => none }
def fnExactAVLLeftRow : OpenClaim := { program := "ytpmikeeeocnfnaa", sum := "161ce018dbd203a1c5f730d855726055941f097dc6280816296b1f18d80a8e2b", func := "loop.example/pub-sortedtrees/laws.FnExactAVLLeft", spec := "fnExactAVLLeft", unfollowed := true, recurses := true, apart := false }
def FnExactAVLLeftSaid : Prop := fnExactAVLLeftRow.holds Try.pinned (OpenSpec.ofChange fnExactAVLLeftSpec)

/-- ITS FALSE NEIGHBOUR: 'it returns false'. Refute it at one input. -/
def fnExactAVLLeftWrong : ChangeSpec := { name := "fnExactAVLLeft", fn := fun _ => fun
  | [d1, d2] => { results := [.lit (.bool false)], args := [d1, d2] }
  | _ => none }
def FnExactAVLLeftWrongFalsely : Prop := fnExactAVLLeftRow.holds Try.pinned (OpenSpec.ofChange fnExactAVLLeftWrong)

/-- 'laws.FnExactAVLRight': WHATEVER THE INPUT: true; the input reads as it did. -/
def fnExactAVLRightSpec : ChangeSpec := { name := "fnExactAVLRight", fn := fun _ => fun
  | [d1, d2] => { results := [.lit (.bool true)], args := [d1, d2] }
  | _ => none }
def fnExactAVLRightRow : OpenClaim := { program := "ytpmikeeeocnfnaa", sum := "161ce018dbd203a1c5f730d855726055941f097dc6280816296b1f18d80a8e2b", func := "loop.example/pub-sortedtrees/laws.FnExactAVLRight", spec := "fnExactAVLRight", unfollowed := true, recurses := true, apart := false }
def FnExactAVLRightSaid : Prop := fnExactAVLRightRow.holds Try.pinned (OpenSpec.ofChange fnExactAVLRightSpec)

/-- ITS FALSE NEIGHBOUR: 'it returns false'. Refute it at one input. -/
def fnExactAVLRightWrong : ChangeSpec := { name := "fnExactAVLRight", fn := fun _ => fun
  | [d1, d2] => { results := [.lit (.bool false)], args := [d1, d2] }
  | _ => none }
def FnExactAVLRightWrongFalsely : Prop := fnExactAVLRightRow.holds Try.pinned (OpenSpec.ofChange fnExactAVLRightWrong)

/-- 'laws.FnAVLStill': WHATEVER THE INPUT: true; the input reads as it did. -/
def fnAVLStillSpec : ChangeSpec := { name := "fnAVLStill", fn := fun _ => fun
  | [d1, d2, d3, d4] => { results := [.lit (.bool true)], args := [d1, d2, d3, d4] }
  | _ => none }
def fnAVLStillRow : OpenClaim := { program := "ytpmikeeeocnfnaa", sum := "161ce018dbd203a1c5f730d855726055941f097dc6280816296b1f18d80a8e2b", func := "loop.example/pub-sortedtrees/laws.FnAVLStill", spec := "fnAVLStill", unfollowed := true, recurses := true, apart := false }
def FnAVLStillSaid : Prop := fnAVLStillRow.holds Try.pinned (OpenSpec.ofChange fnAVLStillSpec)

/-- ITS FALSE NEIGHBOUR: 'it returns false'. Refute it at one input. -/
def fnAVLStillWrong : ChangeSpec := { name := "fnAVLStill", fn := fun _ => fun
  | [d1, d2, d3, d4] => { results := [.lit (.bool false)], args := [d1, d2, d3, d4] }
  | _ => none }
def FnAVLStillWrongFalsely : Prop := fnAVLStillRow.holds Try.pinned (OpenSpec.ofChange fnAVLStillWrong)

/-- 'laws.FnAVLBalance': WHATEVER THE INPUT: true; the input reads as it did. -/
def fnAVLBalanceSpec : ChangeSpec := { name := "fnAVLBalance", fn := fun _ => fun
  | [d1, d2] => { results := [.lit (.bool true)], args := [d1, d2] }
  | _ => none }
def fnAVLBalanceRow : OpenClaim := { program := "ytpmikeeeocnfnaa", sum := "161ce018dbd203a1c5f730d855726055941f097dc6280816296b1f18d80a8e2b", func := "loop.example/pub-sortedtrees/laws.FnAVLBalance", spec := "fnAVLBalance", unfollowed := true, recurses := true, apart := false }
def FnAVLBalanceSaid : Prop := fnAVLBalanceRow.holds Try.pinned (OpenSpec.ofChange fnAVLBalanceSpec)

/-- ITS FALSE NEIGHBOUR: 'it returns false'. Refute it at one input. -/
def fnAVLBalanceWrong : ChangeSpec := { name := "fnAVLBalance", fn := fun _ => fun
  | [d1, d2] => { results := [.lit (.bool false)], args := [d1, d2] }
  | _ => none }
def FnAVLBalanceWrongFalsely : Prop := fnAVLBalanceRow.holds Try.pinned (OpenSpec.ofChange fnAVLBalanceWrong)

/-- 'laws.FnAVLShape': WHATEVER THE INPUT: true; the input reads as it did. -/
def fnAVLShapeSpec : ChangeSpec := { name := "fnAVLShape", fn := fun _ => fun
  | [d1, d2] => { results := [.lit (.bool true)], args := [d1, d2] }
  | _ => none }
def fnAVLShapeRow : OpenClaim := { program := "ytpmikeeeocnfnaa", sum := "161ce018dbd203a1c5f730d855726055941f097dc6280816296b1f18d80a8e2b", func := "loop.example/pub-sortedtrees/laws.FnAVLShape", spec := "fnAVLShape", unfollowed := true, recurses := true, apart := false }
def FnAVLShapeSaid : Prop := fnAVLShapeRow.holds Try.pinned (OpenSpec.ofChange fnAVLShapeSpec)

/-- ITS FALSE NEIGHBOUR: 'it returns false'. Refute it at one input. -/
def fnAVLShapeWrong : ChangeSpec := { name := "fnAVLShape", fn := fun _ => fun
  | [d1, d2] => { results := [.lit (.bool false)], args := [d1, d2] }
  | _ => none }
def FnAVLShapeWrongFalsely : Prop := fnAVLShapeRow.holds Try.pinned (OpenSpec.ofChange fnAVLShapeWrong)

/-- 'laws.FnExactAVLNode': WHATEVER THE INPUT: true; the input reads as it did. -/
def fnExactAVLNodeSpec : ChangeSpec := { name := "fnExactAVLNode", fn := fun _ => fun
  | [d1, d2, d3] => { results := [.lit (.bool true)], args := [d1, d2, d3] }
  | _ => none }
def fnExactAVLNodeRow : OpenClaim := { program := "ytpmikeeeocnfnaa", sum := "161ce018dbd203a1c5f730d855726055941f097dc6280816296b1f18d80a8e2b", func := "loop.example/pub-sortedtrees/laws.FnExactAVLNode", spec := "fnExactAVLNode", unfollowed := true, recurses := true, apart := false }
def FnExactAVLNodeSaid : Prop := fnExactAVLNodeRow.holds Try.pinned (OpenSpec.ofChange fnExactAVLNodeSpec)

/-- ITS FALSE NEIGHBOUR: 'it returns false'. Refute it at one input. -/
def fnExactAVLNodeWrong : ChangeSpec := { name := "fnExactAVLNode", fn := fun _ => fun
  | [d1, d2, d3] => { results := [.lit (.bool false)], args := [d1, d2, d3] }
  | _ => none }
def FnExactAVLNodeWrongFalsely : Prop := fnExactAVLNodeRow.holds Try.pinned (OpenSpec.ofChange fnExactAVLNodeWrong)

/-- 'laws.FnAVLNext': WHATEVER THE INPUT: true; the input reads as it did. -/
def fnAVLNextSpec : ChangeSpec := { name := "fnAVLNext", fn := fun _ => fun
  | [d1, d2, d3] => { results := [.lit (.bool true)], args := [d1, d2, d3] }
  | _ => none }
def fnAVLNextRow : OpenClaim := { program := "ytpmikeeeocnfnaa", sum := "161ce018dbd203a1c5f730d855726055941f097dc6280816296b1f18d80a8e2b", func := "loop.example/pub-sortedtrees/laws.FnAVLNext", spec := "fnAVLNext", unfollowed := true, recurses := true, apart := false }
def FnAVLNextSaid : Prop := fnAVLNextRow.holds Try.pinned (OpenSpec.ofChange fnAVLNextSpec)

/-- ITS FALSE NEIGHBOUR: 'it returns false'. Refute it at one input. -/
def fnAVLNextWrong : ChangeSpec := { name := "fnAVLNext", fn := fun _ => fun
  | [d1, d2, d3] => { results := [.lit (.bool false)], args := [d1, d2, d3] }
  | _ => none }
def FnAVLNextWrongFalsely : Prop := fnAVLNextRow.holds Try.pinned (OpenSpec.ofChange fnAVLNextWrong)

/-- 'laws.FnExactAVLCeiling': WHATEVER THE INPUT: true; the input reads as it did. -/
def fnExactAVLCeilingSpec : ChangeSpec := { name := "fnExactAVLCeiling", fn := fun _ => fun
  | [d1, d2, d3] => { results := [.lit (.bool true)], args := [d1, d2, d3] }
  | _ => none }
def fnExactAVLCeilingRow : OpenClaim := { program := "ytpmikeeeocnfnaa", sum := "161ce018dbd203a1c5f730d855726055941f097dc6280816296b1f18d80a8e2b", func := "loop.example/pub-sortedtrees/laws.FnExactAVLCeiling", spec := "fnExactAVLCeiling", unfollowed := true, recurses := true, apart := false }
def FnExactAVLCeilingSaid : Prop := fnExactAVLCeilingRow.holds Try.pinned (OpenSpec.ofChange fnExactAVLCeilingSpec)

/-- ITS FALSE NEIGHBOUR: 'it returns false'. Refute it at one input. -/
def fnExactAVLCeilingWrong : ChangeSpec := { name := "fnExactAVLCeiling", fn := fun _ => fun
  | [d1, d2, d3] => { results := [.lit (.bool false)], args := [d1, d2, d3] }
  | _ => none }
def FnExactAVLCeilingWrongFalsely : Prop := fnExactAVLCeilingRow.holds Try.pinned (OpenSpec.ofChange fnExactAVLCeilingWrong)

/-- 'laws.FnExactAVLFloor': WHATEVER THE INPUT: true; the input reads as it did. -/
def fnExactAVLFloorSpec : ChangeSpec := { name := "fnExactAVLFloor", fn := fun _ => fun
  | [d1, d2, d3] => { results := [.lit (.bool true)], args := [d1, d2, d3] }
  | _ => none }
def fnExactAVLFloorRow : OpenClaim := { program := "ytpmikeeeocnfnaa", sum := "161ce018dbd203a1c5f730d855726055941f097dc6280816296b1f18d80a8e2b", func := "loop.example/pub-sortedtrees/laws.FnExactAVLFloor", spec := "fnExactAVLFloor", unfollowed := true, recurses := true, apart := false }
def FnExactAVLFloorSaid : Prop := fnExactAVLFloorRow.holds Try.pinned (OpenSpec.ofChange fnExactAVLFloorSpec)

/-- ITS FALSE NEIGHBOUR: 'it returns false'. Refute it at one input. -/
def fnExactAVLFloorWrong : ChangeSpec := { name := "fnExactAVLFloor", fn := fun _ => fun
  | [d1, d2, d3] => { results := [.lit (.bool false)], args := [d1, d2, d3] }
  | _ => none }
def FnExactAVLFloorWrongFalsely : Prop := fnExactAVLFloorRow.holds Try.pinned (OpenSpec.ofChange fnExactAVLFloorWrong)

/-- 'laws.FnAVLPrev': WHATEVER THE INPUT: true; the input reads as it did. -/
def fnAVLPrevSpec : ChangeSpec := { name := "fnAVLPrev", fn := fun _ => fun
  | [d1, d2, d3] => { results := [.lit (.bool true)], args := [d1, d2, d3] }
  | _ => none }
def fnAVLPrevRow : OpenClaim := { program := "ytpmikeeeocnfnaa", sum := "161ce018dbd203a1c5f730d855726055941f097dc6280816296b1f18d80a8e2b", func := "loop.example/pub-sortedtrees/laws.FnAVLPrev", spec := "fnAVLPrev", unfollowed := true, recurses := true, apart := false }
def FnAVLPrevSaid : Prop := fnAVLPrevRow.holds Try.pinned (OpenSpec.ofChange fnAVLPrevSpec)

/-- ITS FALSE NEIGHBOUR: 'it returns false'. Refute it at one input. -/
def fnAVLPrevWrong : ChangeSpec := { name := "fnAVLPrev", fn := fun _ => fun
  | [d1, d2, d3] => { results := [.lit (.bool false)], args := [d1, d2, d3] }
  | _ => none }
def FnAVLPrevWrongFalsely : Prop := fnAVLPrevRow.holds Try.pinned (OpenSpec.ofChange fnAVLPrevWrong)

/-- 'laws.FnAVLRemoveGet': WHATEVER THE INPUT: true; the input reads as it did. -/
def fnAVLRemoveGetSpec : ChangeSpec := { name := "fnAVLRemoveGet", fn := fun _ => fun
  | [d1, d2, d3, d4] => { results := [.lit (.bool true)], args := [d1, d2, d3, d4] }
  | _ => none }
def fnAVLRemoveGetRow : OpenClaim := { program := "ytpmikeeeocnfnaa", sum := "161ce018dbd203a1c5f730d855726055941f097dc6280816296b1f18d80a8e2b", func := "loop.example/pub-sortedtrees/laws.FnAVLRemoveGet", spec := "fnAVLRemoveGet", unfollowed := true, recurses := true, apart := false }
def FnAVLRemoveGetSaid : Prop := fnAVLRemoveGetRow.holds Try.pinned (OpenSpec.ofChange fnAVLRemoveGetSpec)

/-- ITS FALSE NEIGHBOUR: 'it returns false'. Refute it at one input. -/
def fnAVLRemoveGetWrong : ChangeSpec := { name := "fnAVLRemoveGet", fn := fun _ => fun
  | [d1, d2, d3, d4] => { results := [.lit (.bool false)], args := [d1, d2, d3, d4] }
  | _ => none }
def FnAVLRemoveGetWrongFalsely : Prop := fnAVLRemoveGetRow.holds Try.pinned (OpenSpec.ofChange fnAVLRemoveGetWrong)

/-- 'laws.FnAVLUndone': WHATEVER THE INPUT: true; the input reads as it did. -/
def fnAVLUndoneSpec : ChangeSpec := { name := "fnAVLUndone", fn := fun _ => fun
  | [d1, d2, d3, d4] => { results := [.lit (.bool true)], args := [d1, d2, d3, d4] }
  | _ => none }
def fnAVLUndoneRow : OpenClaim := { program := "ytpmikeeeocnfnaa", sum := "161ce018dbd203a1c5f730d855726055941f097dc6280816296b1f18d80a8e2b", func := "loop.example/pub-sortedtrees/laws.FnAVLUndone", spec := "fnAVLUndone", unfollowed := true, recurses := true, apart := false }
def FnAVLUndoneSaid : Prop := fnAVLUndoneRow.holds Try.pinned (OpenSpec.ofChange fnAVLUndoneSpec)

/-- ITS FALSE NEIGHBOUR: 'it returns false'. Refute it at one input. -/
def fnAVLUndoneWrong : ChangeSpec := { name := "fnAVLUndone", fn := fun _ => fun
  | [d1, d2, d3, d4] => { results := [.lit (.bool false)], args := [d1, d2, d3, d4] }
  | _ => none }
def FnAVLUndoneWrongFalsely : Prop := fnAVLUndoneRow.holds Try.pinned (OpenSpec.ofChange fnAVLUndoneWrong)

/-- 'laws.FnExactAVLGet': WHATEVER THE INPUT: true; the input reads as it did. -/
def fnExactAVLGetSpec : ChangeSpec := { name := "fnExactAVLGet", fn := fun _ => fun
  | [d1, d2, d3] => { results := [.lit (.bool true)], args := [d1, d2, d3] }
  | _ => none }
def fnExactAVLGetRow : OpenClaim := { program := "ytpmikeeeocnfnaa", sum := "161ce018dbd203a1c5f730d855726055941f097dc6280816296b1f18d80a8e2b", func := "loop.example/pub-sortedtrees/laws.FnExactAVLGet", spec := "fnExactAVLGet", unfollowed := true, recurses := true, apart := false }
def FnExactAVLGetSaid : Prop := fnExactAVLGetRow.holds Try.pinned (OpenSpec.ofChange fnExactAVLGetSpec)

/-- ITS FALSE NEIGHBOUR: 'it returns false'. Refute it at one input. -/
def fnExactAVLGetWrong : ChangeSpec := { name := "fnExactAVLGet", fn := fun _ => fun
  | [d1, d2, d3] => { results := [.lit (.bool false)], args := [d1, d2, d3] }
  | _ => none }
def FnExactAVLGetWrongFalsely : Prop := fnExactAVLGetRow.holds Try.pinned (OpenSpec.ofChange fnExactAVLGetWrong)

/-- 'laws.FnAVLBack': WHATEVER THE INPUT: true; the input reads as it did. -/
def fnAVLBackSpec : ChangeSpec := { name := "fnAVLBack", fn := fun _ => fun
  | [d1, d2] => { results := [.lit (.bool true)], args := [d1, d2] }
  | _ => none }
def fnAVLBackRow : OpenClaim := { program := "ytpmikeeeocnfnaa", sum := "161ce018dbd203a1c5f730d855726055941f097dc6280816296b1f18d80a8e2b", func := "loop.example/pub-sortedtrees/laws.FnAVLBack", spec := "fnAVLBack", unfollowed := true, recurses := true, apart := false }
def FnAVLBackSaid : Prop := fnAVLBackRow.holds Try.pinned (OpenSpec.ofChange fnAVLBackSpec)

/-- ITS FALSE NEIGHBOUR: 'it returns false'. Refute it at one input. -/
def fnAVLBackWrong : ChangeSpec := { name := "fnAVLBack", fn := fun _ => fun
  | [d1, d2] => { results := [.lit (.bool false)], args := [d1, d2] }
  | _ => none }
def FnAVLBackWrongFalsely : Prop := fnAVLBackRow.holds Try.pinned (OpenSpec.ofChange fnAVLBackWrong)

/-- 'laws.FnAVLBegun': WHATEVER THE INPUT: true; the input reads as it did. -/
def fnAVLBegunSpec : ChangeSpec := { name := "fnAVLBegun", fn := fun _ => fun
  | [d1, d2, d3] => { results := [.lit (.bool true)], args := [d1, d2, d3] }
  | _ => none }
def fnAVLBegunRow : OpenClaim := { program := "ytpmikeeeocnfnaa", sum := "161ce018dbd203a1c5f730d855726055941f097dc6280816296b1f18d80a8e2b", func := "loop.example/pub-sortedtrees/laws.FnAVLBegun", spec := "fnAVLBegun", unfollowed := true, recurses := true, apart := false }
def FnAVLBegunSaid : Prop := fnAVLBegunRow.holds Try.pinned (OpenSpec.ofChange fnAVLBegunSpec)

/-- ITS FALSE NEIGHBOUR: 'it returns false'. Refute it at one input. -/
def fnAVLBegunWrong : ChangeSpec := { name := "fnAVLBegun", fn := fun _ => fun
  | [d1, d2, d3] => { results := [.lit (.bool false)], args := [d1, d2, d3] }
  | _ => none }
def FnAVLBegunWrongFalsely : Prop := fnAVLBegunRow.holds Try.pinned (OpenSpec.ofChange fnAVLBegunWrong)

/-- 'laws.FnAVLEnded': WHATEVER THE INPUT: true; the input reads as it did. -/
def fnAVLEndedSpec : ChangeSpec := { name := "fnAVLEnded", fn := fun _ => fun
  | [d1, d2, d3] => { results := [.lit (.bool true)], args := [d1, d2, d3] }
  | _ => none }
def fnAVLEndedRow : OpenClaim := { program := "ytpmikeeeocnfnaa", sum := "161ce018dbd203a1c5f730d855726055941f097dc6280816296b1f18d80a8e2b", func := "loop.example/pub-sortedtrees/laws.FnAVLEnded", spec := "fnAVLEnded", unfollowed := true, recurses := true, apart := false }
def FnAVLEndedSaid : Prop := fnAVLEndedRow.holds Try.pinned (OpenSpec.ofChange fnAVLEndedSpec)

/-- ITS FALSE NEIGHBOUR: 'it returns false'. Refute it at one input. -/
def fnAVLEndedWrong : ChangeSpec := { name := "fnAVLEnded", fn := fun _ => fun
  | [d1, d2, d3] => { results := [.lit (.bool false)], args := [d1, d2, d3] }
  | _ => none }
def FnAVLEndedWrongFalsely : Prop := fnAVLEndedRow.holds Try.pinned (OpenSpec.ofChange fnAVLEndedWrong)

/-- 'laws.FnAVLForward': WHATEVER THE INPUT: true; the input reads as it did. -/
def fnAVLForwardSpec : ChangeSpec := { name := "fnAVLForward", fn := fun _ => fun
  | [d1, d2] => { results := [.lit (.bool true)], args := [d1, d2] }
  | _ => none }
def fnAVLForwardRow : OpenClaim := { program := "ytpmikeeeocnfnaa", sum := "161ce018dbd203a1c5f730d855726055941f097dc6280816296b1f18d80a8e2b", func := "loop.example/pub-sortedtrees/laws.FnAVLForward", spec := "fnAVLForward", unfollowed := true, recurses := true, apart := false }
def FnAVLForwardSaid : Prop := fnAVLForwardRow.holds Try.pinned (OpenSpec.ofChange fnAVLForwardSpec)

/-- ITS FALSE NEIGHBOUR: 'it returns false'. Refute it at one input. -/
def fnAVLForwardWrong : ChangeSpec := { name := "fnAVLForward", fn := fun _ => fun
  | [d1, d2] => { results := [.lit (.bool false)], args := [d1, d2] }
  | _ => none }
def FnAVLForwardWrongFalsely : Prop := fnAVLForwardRow.holds Try.pinned (OpenSpec.ofChange fnAVLForwardWrong)

/-- 'laws.FnAVLSearched': WHATEVER THE INPUT: true; the input reads as it did. -/
def fnAVLSearchedSpec : ChangeSpec := { name := "fnAVLSearched", fn := fun _ => fun
  | [d1, d2, d3, d4] => { results := [.lit (.bool true)], args := [d1, d2, d3, d4] }
  | _ => none }
def fnAVLSearchedRow : OpenClaim := { program := "ytpmikeeeocnfnaa", sum := "161ce018dbd203a1c5f730d855726055941f097dc6280816296b1f18d80a8e2b", func := "loop.example/pub-sortedtrees/laws.FnAVLSearched", spec := "fnAVLSearched", unfollowed := true, recurses := true, apart := false }
def FnAVLSearchedSaid : Prop := fnAVLSearchedRow.holds Try.pinned (OpenSpec.ofChange fnAVLSearchedSpec)

/-- ITS FALSE NEIGHBOUR: 'it returns false'. Refute it at one input. -/
def fnAVLSearchedWrong : ChangeSpec := { name := "fnAVLSearched", fn := fun _ => fun
  | [d1, d2, d3, d4] => { results := [.lit (.bool false)], args := [d1, d2, d3, d4] }
  | _ => none }
def FnAVLSearchedWrongFalsely : Prop := fnAVLSearchedRow.holds Try.pinned (OpenSpec.ofChange fnAVLSearchedWrong)

/-- 'laws.FnExactAVLWalk': WHATEVER THE INPUT: true; the input reads as it did. -/
def fnExactAVLWalkSpec : ChangeSpec := { name := "fnExactAVLWalk", fn := fun _ => fun
  | [d1, d2, d3] => { results := [.lit (.bool true)], args := [d1, d2, d3] }
  | _ => none }
def fnExactAVLWalkRow : OpenClaim := { program := "ytpmikeeeocnfnaa", sum := "161ce018dbd203a1c5f730d855726055941f097dc6280816296b1f18d80a8e2b", func := "loop.example/pub-sortedtrees/laws.FnExactAVLWalk", spec := "fnExactAVLWalk", unfollowed := true, recurses := true, apart := false }
def FnExactAVLWalkSaid : Prop := fnExactAVLWalkRow.holds Try.pinned (OpenSpec.ofChange fnExactAVLWalkSpec)

/-- ITS FALSE NEIGHBOUR: 'it returns false'. Refute it at one input. -/
def fnExactAVLWalkWrong : ChangeSpec := { name := "fnExactAVLWalk", fn := fun _ => fun
  | [d1, d2, d3] => { results := [.lit (.bool false)], args := [d1, d2, d3] }
  | _ => none }
def FnExactAVLWalkWrongFalsely : Prop := fnExactAVLWalkRow.holds Try.pinned (OpenSpec.ofChange fnExactAVLWalkWrong)

/- THE SECOND FORM. 'bulk': how many values and letters a reading holds, each counted each time it is reached (what is shared counts as often as it is met; a slice's spare places count too). A statement '..UptoSaid' is the law's where the arguments, and the package variables that the reading takes, are together of bulk at most 1048576: NARROWER than '..Said'. Prove '..Said' where nothing that the law and all that it calls make is longer than what came in: it says more and counts as full. Else prove '..UptoSaid'. A law counts once. -/
mutual
def uptoBulk {H : Type} : DataW H → Nat
  | .lit (.string bytes) => bytes.length + 1
  | .lit _ => 1
  | .nil => 1
  | .ptr d => uptoBulk d + 1
  | .slice elems spare => uptoBulkAll elems + uptoBulkAll spare + 1
  | .agg parts => uptoBulkAll parts + 1
  | .iface _ d => uptoBulk d + 1
  | .map entries => uptoBulkEntries entries + 1
  | .held _ => 1
def uptoBulkAll {H : Type} : List (DataW H) → Nat
  | [] => 0
  | d :: r => uptoBulk d + uptoBulkAll r
def uptoBulkEntries {H : Type} : List (Lit × DataW H) → Nat
  | [] => 0
  | x :: r => uptoBulkEntry x + uptoBulkEntries r
def uptoBulkEntry {H : Type} : Lit × DataW H → Nat
  | (.string bytes, d) => bytes.length + uptoBulk d + 1
  | (_, d) => uptoBulk d + 1
 end
def uptoSmall : (H : Type) → List (DataW H) → Bool := fun _ ds => decide (uptoBulkAll ds ≤ 1048576)
def OpenSpec.upto (s : _root_.Go.ChangeSpec) : _root_.Go.OpenSpec := { _root_.Go.OpenSpec.ofChange s with cond := some uptoSmall }

/-- 'laws.FnAVLPutGet', WHERE WHAT IT READS IS OF BULK AT MOST 1048576: true; the input reads as it did. -/
def fnAVLPutGetUptoRow : OpenClaim := { program := "ytpmikeeeocnfnaa", sum := "161ce018dbd203a1c5f730d855726055941f097dc6280816296b1f18d80a8e2b", func := "loop.example/pub-sortedtrees/laws.FnAVLPutGet", spec := "fnAVLPutGet", unfollowed := true, recurses := true, apart := false, narrowed := true }
def FnAVLPutGetUptoSaid : Prop := fnAVLPutGetUptoRow.holds Try.pinned (OpenSpec.upto fnAVLPutGetSpec)

/-- 'laws.FnAVLCleared', WHERE WHAT IT READS IS OF BULK AT MOST 1048576: true; the input reads as it did. -/
def fnAVLClearedUptoRow : OpenClaim := { program := "ytpmikeeeocnfnaa", sum := "161ce018dbd203a1c5f730d855726055941f097dc6280816296b1f18d80a8e2b", func := "loop.example/pub-sortedtrees/laws.FnAVLCleared", spec := "fnAVLCleared", unfollowed := true, recurses := true, apart := false, narrowed := true }
def FnAVLClearedUptoSaid : Prop := fnAVLClearedUptoRow.holds Try.pinned (OpenSpec.upto fnAVLClearedSpec)

/-- 'laws.FnAVLCommute', WHERE WHAT IT READS IS OF BULK AT MOST 1048576: true; the input reads as it did. -/
def fnAVLCommuteUptoRow : OpenClaim := { program := "ytpmikeeeocnfnaa", sum := "161ce018dbd203a1c5f730d855726055941f097dc6280816296b1f18d80a8e2b", func := "loop.example/pub-sortedtrees/laws.FnAVLCommute", spec := "fnAVLCommute", unfollowed := true, recurses := true, apart := false, narrowed := true }
def FnAVLCommuteUptoSaid : Prop := fnAVLCommuteUptoRow.holds Try.pinned (OpenSpec.upto fnAVLCommuteSpec)

/-- 'laws.FnAVLSize', WHERE WHAT IT READS IS OF BULK AT MOST 1048576: true; the input reads as it did. -/
def fnAVLSizeUptoRow : OpenClaim := { program := "ytpmikeeeocnfnaa", sum := "161ce018dbd203a1c5f730d855726055941f097dc6280816296b1f18d80a8e2b", func := "loop.example/pub-sortedtrees/laws.FnAVLSize", spec := "fnAVLSize", unfollowed := true, recurses := true, apart := false, narrowed := true }
def FnAVLSizeUptoSaid : Prop := fnAVLSizeUptoRow.holds Try.pinned (OpenSpec.upto fnAVLSizeSpec)

/-- 'laws.FnAVLStateRest', WHERE WHAT IT READS IS OF BULK AT MOST 1048576: true; the input reads as it did. -/
def fnAVLStateRestUptoRow : OpenClaim := { program := "ytpmikeeeocnfnaa", sum := "161ce018dbd203a1c5f730d855726055941f097dc6280816296b1f18d80a8e2b", func := "loop.example/pub-sortedtrees/laws.FnAVLStateRest", spec := "fnAVLStateRest", unfollowed := true, recurses := true, apart := false, narrowed := true }
def FnAVLStateRestUptoSaid : Prop := fnAVLStateRestUptoRow.holds Try.pinned (OpenSpec.upto fnAVLStateRestSpec)

/-- 'laws.FnAVLTurned', WHERE WHAT IT READS IS OF BULK AT MOST 1048576: true; the input reads as it did. -/
def fnAVLTurnedUptoRow : OpenClaim := { program := "ytpmikeeeocnfnaa", sum := "161ce018dbd203a1c5f730d855726055941f097dc6280816296b1f18d80a8e2b", func := "loop.example/pub-sortedtrees/laws.FnAVLTurned", spec := "fnAVLTurned", unfollowed := true, recurses := true, apart := false, narrowed := true }
def FnAVLTurnedUptoSaid : Prop := fnAVLTurnedUptoRow.holds Try.pinned (OpenSpec.upto fnAVLTurnedSpec)

/-- 'laws.FnAVLTwice', WHERE WHAT IT READS IS OF BULK AT MOST 1048576: true; the input reads as it did. -/
def fnAVLTwiceUptoRow : OpenClaim := { program := "ytpmikeeeocnfnaa", sum := "161ce018dbd203a1c5f730d855726055941f097dc6280816296b1f18d80a8e2b", func := "loop.example/pub-sortedtrees/laws.FnAVLTwice", spec := "fnAVLTwice", unfollowed := true, recurses := true, apart := false, narrowed := true }
def FnAVLTwiceUptoSaid : Prop := fnAVLTwiceUptoRow.holds Try.pinned (OpenSpec.upto fnAVLTwiceSpec)

/-- 'laws.FnExactAVLState', WHERE WHAT IT READS IS OF BULK AT MOST 1048576: true; the input reads as it did. -/
def fnExactAVLStateUptoRow : OpenClaim := { program := "ytpmikeeeocnfnaa", sum := "161ce018dbd203a1c5f730d855726055941f097dc6280816296b1f18d80a8e2b", func := "loop.example/pub-sortedtrees/laws.FnExactAVLState", spec := "fnExactAVLState", unfollowed := true, recurses := true, apart := false, narrowed := true }
def FnExactAVLStateUptoSaid : Prop := fnExactAVLStateUptoRow.holds Try.pinned (OpenSpec.upto fnExactAVLStateSpec)

/-- 'laws.FnExactAVLLeft', WHERE WHAT IT READS IS OF BULK AT MOST 1048576: true; the input reads as it did. -/
def fnExactAVLLeftUptoRow : OpenClaim := { program := "ytpmikeeeocnfnaa", sum := "161ce018dbd203a1c5f730d855726055941f097dc6280816296b1f18d80a8e2b", func := "loop.example/pub-sortedtrees/laws.FnExactAVLLeft", spec := "fnExactAVLLeft", unfollowed := true, recurses := true, apart := false, narrowed := true }
def FnExactAVLLeftUptoSaid : Prop := fnExactAVLLeftUptoRow.holds Try.pinned (OpenSpec.upto fnExactAVLLeftSpec)

/-- 'laws.FnExactAVLRight', WHERE WHAT IT READS IS OF BULK AT MOST 1048576: true; the input reads as it did. -/
def fnExactAVLRightUptoRow : OpenClaim := { program := "ytpmikeeeocnfnaa", sum := "161ce018dbd203a1c5f730d855726055941f097dc6280816296b1f18d80a8e2b", func := "loop.example/pub-sortedtrees/laws.FnExactAVLRight", spec := "fnExactAVLRight", unfollowed := true, recurses := true, apart := false, narrowed := true }
def FnExactAVLRightUptoSaid : Prop := fnExactAVLRightUptoRow.holds Try.pinned (OpenSpec.upto fnExactAVLRightSpec)

/-- 'laws.FnAVLStill', WHERE WHAT IT READS IS OF BULK AT MOST 1048576: true; the input reads as it did. -/
def fnAVLStillUptoRow : OpenClaim := { program := "ytpmikeeeocnfnaa", sum := "161ce018dbd203a1c5f730d855726055941f097dc6280816296b1f18d80a8e2b", func := "loop.example/pub-sortedtrees/laws.FnAVLStill", spec := "fnAVLStill", unfollowed := true, recurses := true, apart := false, narrowed := true }
def FnAVLStillUptoSaid : Prop := fnAVLStillUptoRow.holds Try.pinned (OpenSpec.upto fnAVLStillSpec)

/-- 'laws.FnAVLBalance', WHERE WHAT IT READS IS OF BULK AT MOST 1048576: true; the input reads as it did. -/
def fnAVLBalanceUptoRow : OpenClaim := { program := "ytpmikeeeocnfnaa", sum := "161ce018dbd203a1c5f730d855726055941f097dc6280816296b1f18d80a8e2b", func := "loop.example/pub-sortedtrees/laws.FnAVLBalance", spec := "fnAVLBalance", unfollowed := true, recurses := true, apart := false, narrowed := true }
def FnAVLBalanceUptoSaid : Prop := fnAVLBalanceUptoRow.holds Try.pinned (OpenSpec.upto fnAVLBalanceSpec)

/-- 'laws.FnAVLShape', WHERE WHAT IT READS IS OF BULK AT MOST 1048576: true; the input reads as it did. -/
def fnAVLShapeUptoRow : OpenClaim := { program := "ytpmikeeeocnfnaa", sum := "161ce018dbd203a1c5f730d855726055941f097dc6280816296b1f18d80a8e2b", func := "loop.example/pub-sortedtrees/laws.FnAVLShape", spec := "fnAVLShape", unfollowed := true, recurses := true, apart := false, narrowed := true }
def FnAVLShapeUptoSaid : Prop := fnAVLShapeUptoRow.holds Try.pinned (OpenSpec.upto fnAVLShapeSpec)

/-- 'laws.FnExactAVLNode', WHERE WHAT IT READS IS OF BULK AT MOST 1048576: true; the input reads as it did. -/
def fnExactAVLNodeUptoRow : OpenClaim := { program := "ytpmikeeeocnfnaa", sum := "161ce018dbd203a1c5f730d855726055941f097dc6280816296b1f18d80a8e2b", func := "loop.example/pub-sortedtrees/laws.FnExactAVLNode", spec := "fnExactAVLNode", unfollowed := true, recurses := true, apart := false, narrowed := true }
def FnExactAVLNodeUptoSaid : Prop := fnExactAVLNodeUptoRow.holds Try.pinned (OpenSpec.upto fnExactAVLNodeSpec)

/-- 'laws.FnAVLNext', WHERE WHAT IT READS IS OF BULK AT MOST 1048576: true; the input reads as it did. -/
def fnAVLNextUptoRow : OpenClaim := { program := "ytpmikeeeocnfnaa", sum := "161ce018dbd203a1c5f730d855726055941f097dc6280816296b1f18d80a8e2b", func := "loop.example/pub-sortedtrees/laws.FnAVLNext", spec := "fnAVLNext", unfollowed := true, recurses := true, apart := false, narrowed := true }
def FnAVLNextUptoSaid : Prop := fnAVLNextUptoRow.holds Try.pinned (OpenSpec.upto fnAVLNextSpec)

/-- 'laws.FnExactAVLCeiling', WHERE WHAT IT READS IS OF BULK AT MOST 1048576: true; the input reads as it did. -/
def fnExactAVLCeilingUptoRow : OpenClaim := { program := "ytpmikeeeocnfnaa", sum := "161ce018dbd203a1c5f730d855726055941f097dc6280816296b1f18d80a8e2b", func := "loop.example/pub-sortedtrees/laws.FnExactAVLCeiling", spec := "fnExactAVLCeiling", unfollowed := true, recurses := true, apart := false, narrowed := true }
def FnExactAVLCeilingUptoSaid : Prop := fnExactAVLCeilingUptoRow.holds Try.pinned (OpenSpec.upto fnExactAVLCeilingSpec)

/-- 'laws.FnExactAVLFloor', WHERE WHAT IT READS IS OF BULK AT MOST 1048576: true; the input reads as it did. -/
def fnExactAVLFloorUptoRow : OpenClaim := { program := "ytpmikeeeocnfnaa", sum := "161ce018dbd203a1c5f730d855726055941f097dc6280816296b1f18d80a8e2b", func := "loop.example/pub-sortedtrees/laws.FnExactAVLFloor", spec := "fnExactAVLFloor", unfollowed := true, recurses := true, apart := false, narrowed := true }
def FnExactAVLFloorUptoSaid : Prop := fnExactAVLFloorUptoRow.holds Try.pinned (OpenSpec.upto fnExactAVLFloorSpec)

/-- 'laws.FnAVLPrev', WHERE WHAT IT READS IS OF BULK AT MOST 1048576: true; the input reads as it did. -/
def fnAVLPrevUptoRow : OpenClaim := { program := "ytpmikeeeocnfnaa", sum := "161ce018dbd203a1c5f730d855726055941f097dc6280816296b1f18d80a8e2b", func := "loop.example/pub-sortedtrees/laws.FnAVLPrev", spec := "fnAVLPrev", unfollowed := true, recurses := true, apart := false, narrowed := true }
def FnAVLPrevUptoSaid : Prop := fnAVLPrevUptoRow.holds Try.pinned (OpenSpec.upto fnAVLPrevSpec)

/-- 'laws.FnAVLRemoveGet', WHERE WHAT IT READS IS OF BULK AT MOST 1048576: true; the input reads as it did. -/
def fnAVLRemoveGetUptoRow : OpenClaim := { program := "ytpmikeeeocnfnaa", sum := "161ce018dbd203a1c5f730d855726055941f097dc6280816296b1f18d80a8e2b", func := "loop.example/pub-sortedtrees/laws.FnAVLRemoveGet", spec := "fnAVLRemoveGet", unfollowed := true, recurses := true, apart := false, narrowed := true }
def FnAVLRemoveGetUptoSaid : Prop := fnAVLRemoveGetUptoRow.holds Try.pinned (OpenSpec.upto fnAVLRemoveGetSpec)

/-- 'laws.FnAVLUndone', WHERE WHAT IT READS IS OF BULK AT MOST 1048576: true; the input reads as it did. -/
def fnAVLUndoneUptoRow : OpenClaim := { program := "ytpmikeeeocnfnaa", sum := "161ce018dbd203a1c5f730d855726055941f097dc6280816296b1f18d80a8e2b", func := "loop.example/pub-sortedtrees/laws.FnAVLUndone", spec := "fnAVLUndone", unfollowed := true, recurses := true, apart := false, narrowed := true }
def FnAVLUndoneUptoSaid : Prop := fnAVLUndoneUptoRow.holds Try.pinned (OpenSpec.upto fnAVLUndoneSpec)

/-- 'laws.FnExactAVLGet', WHERE WHAT IT READS IS OF BULK AT MOST 1048576: true; the input reads as it did. -/
def fnExactAVLGetUptoRow : OpenClaim := { program := "ytpmikeeeocnfnaa", sum := "161ce018dbd203a1c5f730d855726055941f097dc6280816296b1f18d80a8e2b", func := "loop.example/pub-sortedtrees/laws.FnExactAVLGet", spec := "fnExactAVLGet", unfollowed := true, recurses := true, apart := false, narrowed := true }
def FnExactAVLGetUptoSaid : Prop := fnExactAVLGetUptoRow.holds Try.pinned (OpenSpec.upto fnExactAVLGetSpec)

/-- 'laws.FnAVLBack', WHERE WHAT IT READS IS OF BULK AT MOST 1048576: true; the input reads as it did. -/
def fnAVLBackUptoRow : OpenClaim := { program := "ytpmikeeeocnfnaa", sum := "161ce018dbd203a1c5f730d855726055941f097dc6280816296b1f18d80a8e2b", func := "loop.example/pub-sortedtrees/laws.FnAVLBack", spec := "fnAVLBack", unfollowed := true, recurses := true, apart := false, narrowed := true }
def FnAVLBackUptoSaid : Prop := fnAVLBackUptoRow.holds Try.pinned (OpenSpec.upto fnAVLBackSpec)

/-- 'laws.FnAVLBegun', WHERE WHAT IT READS IS OF BULK AT MOST 1048576: true; the input reads as it did. -/
def fnAVLBegunUptoRow : OpenClaim := { program := "ytpmikeeeocnfnaa", sum := "161ce018dbd203a1c5f730d855726055941f097dc6280816296b1f18d80a8e2b", func := "loop.example/pub-sortedtrees/laws.FnAVLBegun", spec := "fnAVLBegun", unfollowed := true, recurses := true, apart := false, narrowed := true }
def FnAVLBegunUptoSaid : Prop := fnAVLBegunUptoRow.holds Try.pinned (OpenSpec.upto fnAVLBegunSpec)

/-- 'laws.FnAVLEnded', WHERE WHAT IT READS IS OF BULK AT MOST 1048576: true; the input reads as it did. -/
def fnAVLEndedUptoRow : OpenClaim := { program := "ytpmikeeeocnfnaa", sum := "161ce018dbd203a1c5f730d855726055941f097dc6280816296b1f18d80a8e2b", func := "loop.example/pub-sortedtrees/laws.FnAVLEnded", spec := "fnAVLEnded", unfollowed := true, recurses := true, apart := false, narrowed := true }
def FnAVLEndedUptoSaid : Prop := fnAVLEndedUptoRow.holds Try.pinned (OpenSpec.upto fnAVLEndedSpec)

/-- 'laws.FnAVLForward', WHERE WHAT IT READS IS OF BULK AT MOST 1048576: true; the input reads as it did. -/
def fnAVLForwardUptoRow : OpenClaim := { program := "ytpmikeeeocnfnaa", sum := "161ce018dbd203a1c5f730d855726055941f097dc6280816296b1f18d80a8e2b", func := "loop.example/pub-sortedtrees/laws.FnAVLForward", spec := "fnAVLForward", unfollowed := true, recurses := true, apart := false, narrowed := true }
def FnAVLForwardUptoSaid : Prop := fnAVLForwardUptoRow.holds Try.pinned (OpenSpec.upto fnAVLForwardSpec)

/-- 'laws.FnAVLSearched', WHERE WHAT IT READS IS OF BULK AT MOST 1048576: true; the input reads as it did. -/
def fnAVLSearchedUptoRow : OpenClaim := { program := "ytpmikeeeocnfnaa", sum := "161ce018dbd203a1c5f730d855726055941f097dc6280816296b1f18d80a8e2b", func := "loop.example/pub-sortedtrees/laws.FnAVLSearched", spec := "fnAVLSearched", unfollowed := true, recurses := true, apart := false, narrowed := true }
def FnAVLSearchedUptoSaid : Prop := fnAVLSearchedUptoRow.holds Try.pinned (OpenSpec.upto fnAVLSearchedSpec)

/-- 'laws.FnExactAVLWalk', WHERE WHAT IT READS IS OF BULK AT MOST 1048576: true; the input reads as it did. -/
def fnExactAVLWalkUptoRow : OpenClaim := { program := "ytpmikeeeocnfnaa", sum := "161ce018dbd203a1c5f730d855726055941f097dc6280816296b1f18d80a8e2b", func := "loop.example/pub-sortedtrees/laws.FnExactAVLWalk", spec := "fnExactAVLWalk", unfollowed := true, recurses := true, apart := false, narrowed := true }
def FnExactAVLWalkUptoSaid : Prop := fnExactAVLWalkUptoRow.holds Try.pinned (OpenSpec.upto fnExactAVLWalkSpec)

end Rows
end Go.Proofs.Ytpmikeeeocnfnaa
