/-
  No cell of these rows narrows 'for every input' (looked for: loops, veiled, ifaces, maps, wideKeys, modest, calm, conditions, laid).
  DERIVED. THE GIVEN ROWS OF THIS SEAT. 8 by the template 'for every input the law returns true; each argument reads behind the call as it read before'; 0 by the template 'total and deterministic' (their statements: YtmhkknobgcdkkaaTotals.lean).
  GIVEN WITH THE SEED: the statements are not yours to turn. If you find one false, say at which input.
  Laid BY PROGRAM, IN A SANDBOX (cutbox-rows.mjs): the forced cells as the released guide's own fill.sh prints them over the translation 8d1c1e2a888d314d… (all of the seat's roots in one cut). By AI agents, Wed Nov 11 2026. No macro, syntax, notation, axiom, sorry.
-/
import Derived.Test.YtmhkknobgcdkkaaChecked
import GoSem.Claim
import GoSem.ClaimJoined
import GoSem.ClaimMapViews
import Derived.JoinedTies
import Derived.KernelRfl
namespace Go.Proofs.Ytmhkknobgcdkkaa
/- THE CELL 'sum', in the pinned program and in every row, IS THE sha256 OF THE DUMP (.gsa) THAT YtmhkknobgcdkkaaProg.lean LOADS. Nothing in Lean hashes anything: it is a label: what it is worth is what the hold of that sum in a sandbox is worth. -/
noncomputable def Try.pinned : Pinned := { name := "ytmhkknobgcdkkaa", sum := "8d1c1e2a888d314d93754006b07e29706aec9c0b37f971e5c6fb848c91c3874b", checked := Try.checked }
namespace Rows
def none {H : Type} : Left H := { results := [], args := [] }

/-- 'laws.FnAVLBalance': WHATEVER THE INPUT: true; the input reads as it did. -/
def fnAVLBalanceSpec : ChangeSpec := { name := "fnAVLBalance", fn := fun _ => fun
  | [d1, d2] => { results := [.lit (.bool true)], args := [d1, d2] }
  | _ => none }
def fnAVLBalanceRow : OpenClaim := { program := "ytmhkknobgcdkkaa", sum := "8d1c1e2a888d314d93754006b07e29706aec9c0b37f971e5c6fb848c91c3874b", func := "loop.example/pub-sortedtrees/laws.FnAVLBalance", spec := "fnAVLBalance", unfollowed := true, recurses := true, apart := false }
def FnAVLBalanceSaid : Prop := fnAVLBalanceRow.holds Try.pinned (OpenSpec.ofChange fnAVLBalanceSpec)

/-- ITS FALSE NEIGHBOUR: 'it returns false'. Refute it at one input. -/
def fnAVLBalanceWrong : ChangeSpec := { name := "fnAVLBalance", fn := fun _ => fun
  | [d1, d2] => { results := [.lit (.bool false)], args := [d1, d2] }
  | _ => none }
def FnAVLBalanceWrongFalsely : Prop := fnAVLBalanceRow.holds Try.pinned (OpenSpec.ofChange fnAVLBalanceWrong)

/-- 'laws.FnAVLShape': WHATEVER THE INPUT: true; the input reads as it did. -/
def fnAVLShapeSpec : ChangeSpec := { name := "fnAVLShape", fn := fun _ => fun
  | [d1, d2] => { results := [.lit (.bool true)], args := [d1, d2] }
  | _ => none }
def fnAVLShapeRow : OpenClaim := { program := "ytmhkknobgcdkkaa", sum := "8d1c1e2a888d314d93754006b07e29706aec9c0b37f971e5c6fb848c91c3874b", func := "loop.example/pub-sortedtrees/laws.FnAVLShape", spec := "fnAVLShape", unfollowed := true, recurses := true, apart := false }
def FnAVLShapeSaid : Prop := fnAVLShapeRow.holds Try.pinned (OpenSpec.ofChange fnAVLShapeSpec)

/-- ITS FALSE NEIGHBOUR: 'it returns false'. Refute it at one input. -/
def fnAVLShapeWrong : ChangeSpec := { name := "fnAVLShape", fn := fun _ => fun
  | [d1, d2] => { results := [.lit (.bool false)], args := [d1, d2] }
  | _ => none }
def FnAVLShapeWrongFalsely : Prop := fnAVLShapeRow.holds Try.pinned (OpenSpec.ofChange fnAVLShapeWrong)

/-- 'laws.FnRedBlackBalance': WHATEVER THE INPUT: true; the input reads as it did. -/
def fnRedBlackBalanceSpec : ChangeSpec := { name := "fnRedBlackBalance", fn := fun _ => fun
  | [d1, d2] => { results := [.lit (.bool true)], args := [d1, d2] }
  | _ => none }
def fnRedBlackBalanceRow : OpenClaim := { program := "ytmhkknobgcdkkaa", sum := "8d1c1e2a888d314d93754006b07e29706aec9c0b37f971e5c6fb848c91c3874b", func := "loop.example/pub-sortedtrees/laws.FnRedBlackBalance", spec := "fnRedBlackBalance", unfollowed := true, recurses := true, apart := false }
def FnRedBlackBalanceSaid : Prop := fnRedBlackBalanceRow.holds Try.pinned (OpenSpec.ofChange fnRedBlackBalanceSpec)

/-- ITS FALSE NEIGHBOUR: 'it returns false'. Refute it at one input. -/
def fnRedBlackBalanceWrong : ChangeSpec := { name := "fnRedBlackBalance", fn := fun _ => fun
  | [d1, d2] => { results := [.lit (.bool false)], args := [d1, d2] }
  | _ => none }
def FnRedBlackBalanceWrongFalsely : Prop := fnRedBlackBalanceRow.holds Try.pinned (OpenSpec.ofChange fnRedBlackBalanceWrong)

/-- 'laws.FnRedBlackShape': WHATEVER THE INPUT: true; the input reads as it did. -/
def fnRedBlackShapeSpec : ChangeSpec := { name := "fnRedBlackShape", fn := fun _ => fun
  | [d1, d2] => { results := [.lit (.bool true)], args := [d1, d2] }
  | _ => none }
def fnRedBlackShapeRow : OpenClaim := { program := "ytmhkknobgcdkkaa", sum := "8d1c1e2a888d314d93754006b07e29706aec9c0b37f971e5c6fb848c91c3874b", func := "loop.example/pub-sortedtrees/laws.FnRedBlackShape", spec := "fnRedBlackShape", unfollowed := true, recurses := true, apart := false }
def FnRedBlackShapeSaid : Prop := fnRedBlackShapeRow.holds Try.pinned (OpenSpec.ofChange fnRedBlackShapeSpec)

/-- ITS FALSE NEIGHBOUR: 'it returns false'. Refute it at one input. -/
def fnRedBlackShapeWrong : ChangeSpec := { name := "fnRedBlackShape", fn := fun _ => fun
  | [d1, d2] => { results := [.lit (.bool false)], args := [d1, d2] }
  | _ => none }
def FnRedBlackShapeWrongFalsely : Prop := fnRedBlackShapeRow.holds Try.pinned (OpenSpec.ofChange fnRedBlackShapeWrong)

/-- 'laws.FnAVLBack': WHATEVER THE INPUT: true; the input reads as it did. -/
def fnAVLBackSpec : ChangeSpec := { name := "fnAVLBack", fn := fun _ => fun
  | [d1, d2] => { results := [.lit (.bool true)], args := [d1, d2] }
  | _ => none }
def fnAVLBackRow : OpenClaim := { program := "ytmhkknobgcdkkaa", sum := "8d1c1e2a888d314d93754006b07e29706aec9c0b37f971e5c6fb848c91c3874b", func := "loop.example/pub-sortedtrees/laws.FnAVLBack", spec := "fnAVLBack", unfollowed := true, recurses := true, apart := false }
def FnAVLBackSaid : Prop := fnAVLBackRow.holds Try.pinned (OpenSpec.ofChange fnAVLBackSpec)

/-- ITS FALSE NEIGHBOUR: 'it returns false'. Refute it at one input. -/
def fnAVLBackWrong : ChangeSpec := { name := "fnAVLBack", fn := fun _ => fun
  | [d1, d2] => { results := [.lit (.bool false)], args := [d1, d2] }
  | _ => none }
def FnAVLBackWrongFalsely : Prop := fnAVLBackRow.holds Try.pinned (OpenSpec.ofChange fnAVLBackWrong)

/-- 'laws.FnAVLForward': WHATEVER THE INPUT: true; the input reads as it did. -/
def fnAVLForwardSpec : ChangeSpec := { name := "fnAVLForward", fn := fun _ => fun
  | [d1, d2] => { results := [.lit (.bool true)], args := [d1, d2] }
  | _ => none }
def fnAVLForwardRow : OpenClaim := { program := "ytmhkknobgcdkkaa", sum := "8d1c1e2a888d314d93754006b07e29706aec9c0b37f971e5c6fb848c91c3874b", func := "loop.example/pub-sortedtrees/laws.FnAVLForward", spec := "fnAVLForward", unfollowed := true, recurses := true, apart := false }
def FnAVLForwardSaid : Prop := fnAVLForwardRow.holds Try.pinned (OpenSpec.ofChange fnAVLForwardSpec)

/-- ITS FALSE NEIGHBOUR: 'it returns false'. Refute it at one input. -/
def fnAVLForwardWrong : ChangeSpec := { name := "fnAVLForward", fn := fun _ => fun
  | [d1, d2] => { results := [.lit (.bool false)], args := [d1, d2] }
  | _ => none }
def FnAVLForwardWrongFalsely : Prop := fnAVLForwardRow.holds Try.pinned (OpenSpec.ofChange fnAVLForwardWrong)

/-- 'laws.FnRedBlackBack': WHATEVER THE INPUT: true; the input reads as it did. -/
def fnRedBlackBackSpec : ChangeSpec := { name := "fnRedBlackBack", fn := fun _ => fun
  | [d1, d2] => { results := [.lit (.bool true)], args := [d1, d2] }
  | _ => none }
def fnRedBlackBackRow : OpenClaim := { program := "ytmhkknobgcdkkaa", sum := "8d1c1e2a888d314d93754006b07e29706aec9c0b37f971e5c6fb848c91c3874b", func := "loop.example/pub-sortedtrees/laws.FnRedBlackBack", spec := "fnRedBlackBack", unfollowed := true, recurses := true, apart := false }
def FnRedBlackBackSaid : Prop := fnRedBlackBackRow.holds Try.pinned (OpenSpec.ofChange fnRedBlackBackSpec)

/-- ITS FALSE NEIGHBOUR: 'it returns false'. Refute it at one input. -/
def fnRedBlackBackWrong : ChangeSpec := { name := "fnRedBlackBack", fn := fun _ => fun
  | [d1, d2] => { results := [.lit (.bool false)], args := [d1, d2] }
  | _ => none }
def FnRedBlackBackWrongFalsely : Prop := fnRedBlackBackRow.holds Try.pinned (OpenSpec.ofChange fnRedBlackBackWrong)

/-- 'laws.FnRedBlackForward': WHATEVER THE INPUT: true; the input reads as it did. -/
def fnRedBlackForwardSpec : ChangeSpec := { name := "fnRedBlackForward", fn := fun _ => fun
  | [d1, d2] => { results := [.lit (.bool true)], args := [d1, d2] }
  | _ => none }
def fnRedBlackForwardRow : OpenClaim := { program := "ytmhkknobgcdkkaa", sum := "8d1c1e2a888d314d93754006b07e29706aec9c0b37f971e5c6fb848c91c3874b", func := "loop.example/pub-sortedtrees/laws.FnRedBlackForward", spec := "fnRedBlackForward", unfollowed := true, recurses := true, apart := false }
def FnRedBlackForwardSaid : Prop := fnRedBlackForwardRow.holds Try.pinned (OpenSpec.ofChange fnRedBlackForwardSpec)

/-- ITS FALSE NEIGHBOUR: 'it returns false'. Refute it at one input. -/
def fnRedBlackForwardWrong : ChangeSpec := { name := "fnRedBlackForward", fn := fun _ => fun
  | [d1, d2] => { results := [.lit (.bool false)], args := [d1, d2] }
  | _ => none }
def FnRedBlackForwardWrongFalsely : Prop := fnRedBlackForwardRow.holds Try.pinned (OpenSpec.ofChange fnRedBlackForwardWrong)

/- THE SECOND FORM. 'bulk': how many values and letters a reading holds, each counted each time it is reached (what is shared counts as often as it is met; a slice's spare places count too). A statement '..UptoSaid' is the law's where the arguments, and the package variables that the reading takes, are together of bulk at most 1048576: NARROWER than '..Said'. Prove '..Said' where nothing that the law and all that it calls make is longer than what came in: it says more and counts as full. Else prove '..UptoSaid'. A law counts once. -/
mutual
def uptoBulk {H : Type} : DataW H → Nat
  | .lit (.string bytes) => bytes.length + 1
  | .lit _ => 1
  | .nil => 1
  | .ptr d => uptoBulk d + 1
  | .slice elems spare => uptoBulkAll elems + uptoBulkAll spare + 1
  | .agg parts => uptoBulkAll parts + 1
  | .iface _ d => uptoBulk d + 1
  | .map entries => uptoBulkEntries entries + 1
  | .held _ => 1
def uptoBulkAll {H : Type} : List (DataW H) → Nat
  | [] => 0
  | d :: r => uptoBulk d + uptoBulkAll r
def uptoBulkEntries {H : Type} : List (Lit × DataW H) → Nat
  | [] => 0
  | x :: r => uptoBulkEntry x + uptoBulkEntries r
def uptoBulkEntry {H : Type} : Lit × DataW H → Nat
  | (.string bytes, d) => bytes.length + uptoBulk d + 1
  | (_, d) => uptoBulk d + 1
 end
def uptoSmall : (H : Type) → List (DataW H) → Bool := fun _ ds => decide (uptoBulkAll ds ≤ 1048576)
def OpenSpec.upto (s : _root_.Go.ChangeSpec) : _root_.Go.OpenSpec := { _root_.Go.OpenSpec.ofChange s with cond := some uptoSmall }

/-- 'laws.FnAVLBalance', WHERE WHAT IT READS IS OF BULK AT MOST 1048576: true; the input reads as it did. -/
def fnAVLBalanceUptoRow : OpenClaim := { program := "ytmhkknobgcdkkaa", sum := "8d1c1e2a888d314d93754006b07e29706aec9c0b37f971e5c6fb848c91c3874b", func := "loop.example/pub-sortedtrees/laws.FnAVLBalance", spec := "fnAVLBalance", unfollowed := true, recurses := true, apart := false, narrowed := true }
def FnAVLBalanceUptoSaid : Prop := fnAVLBalanceUptoRow.holds Try.pinned (OpenSpec.upto fnAVLBalanceSpec)

/-- 'laws.FnAVLShape', WHERE WHAT IT READS IS OF BULK AT MOST 1048576: true; the input reads as it did. -/
def fnAVLShapeUptoRow : OpenClaim := { program := "ytmhkknobgcdkkaa", sum := "8d1c1e2a888d314d93754006b07e29706aec9c0b37f971e5c6fb848c91c3874b", func := "loop.example/pub-sortedtrees/laws.FnAVLShape", spec := "fnAVLShape", unfollowed := true, recurses := true, apart := false, narrowed := true }
def FnAVLShapeUptoSaid : Prop := fnAVLShapeUptoRow.holds Try.pinned (OpenSpec.upto fnAVLShapeSpec)

/-- 'laws.FnRedBlackBalance', WHERE WHAT IT READS IS OF BULK AT MOST 1048576: true; the input reads as it did. -/
def fnRedBlackBalanceUptoRow : OpenClaim := { program := "ytmhkknobgcdkkaa", sum := "8d1c1e2a888d314d93754006b07e29706aec9c0b37f971e5c6fb848c91c3874b", func := "loop.example/pub-sortedtrees/laws.FnRedBlackBalance", spec := "fnRedBlackBalance", unfollowed := true, recurses := true, apart := false, narrowed := true }
def FnRedBlackBalanceUptoSaid : Prop := fnRedBlackBalanceUptoRow.holds Try.pinned (OpenSpec.upto fnRedBlackBalanceSpec)

/-- 'laws.FnRedBlackShape', WHERE WHAT IT READS IS OF BULK AT MOST 1048576: true; the input reads as it did. -/
def fnRedBlackShapeUptoRow : OpenClaim := { program := "ytmhkknobgcdkkaa", sum := "8d1c1e2a888d314d93754006b07e29706aec9c0b37f971e5c6fb848c91c3874b", func := "loop.example/pub-sortedtrees/laws.FnRedBlackShape", spec := "fnRedBlackShape", unfollowed := true, recurses := true, apart := false, narrowed := true }
def FnRedBlackShapeUptoSaid : Prop := fnRedBlackShapeUptoRow.holds Try.pinned (OpenSpec.upto fnRedBlackShapeSpec)

/-- 'laws.FnAVLBack', WHERE WHAT IT READS IS OF BULK AT MOST 1048576: true; the input reads as it did. -/
def fnAVLBackUptoRow : OpenClaim := { program := "ytmhkknobgcdkkaa", sum := "8d1c1e2a888d314d93754006b07e29706aec9c0b37f971e5c6fb848c91c3874b", func := "loop.example/pub-sortedtrees/laws.FnAVLBack", spec := "fnAVLBack", unfollowed := true, recurses := true, apart := false, narrowed := true }
def FnAVLBackUptoSaid : Prop := fnAVLBackUptoRow.holds Try.pinned (OpenSpec.upto fnAVLBackSpec)

/-- 'laws.FnAVLForward', WHERE WHAT IT READS IS OF BULK AT MOST 1048576: true; the input reads as it did. -/
def fnAVLForwardUptoRow : OpenClaim := { program := "ytmhkknobgcdkkaa", sum := "8d1c1e2a888d314d93754006b07e29706aec9c0b37f971e5c6fb848c91c3874b", func := "loop.example/pub-sortedtrees/laws.FnAVLForward", spec := "fnAVLForward", unfollowed := true, recurses := true, apart := false, narrowed := true }
def FnAVLForwardUptoSaid : Prop := fnAVLForwardUptoRow.holds Try.pinned (OpenSpec.upto fnAVLForwardSpec)

/-- 'laws.FnRedBlackBack', WHERE WHAT IT READS IS OF BULK AT MOST 1048576: true; the input reads as it did. -/
def fnRedBlackBackUptoRow : OpenClaim := { program := "ytmhkknobgcdkkaa", sum := "8d1c1e2a888d314d93754006b07e29706aec9c0b37f971e5c6fb848c91c3874b", func := "loop.example/pub-sortedtrees/laws.FnRedBlackBack", spec := "fnRedBlackBack", unfollowed := true, recurses := true, apart := false, narrowed := true }
def FnRedBlackBackUptoSaid : Prop := fnRedBlackBackUptoRow.holds Try.pinned (OpenSpec.upto fnRedBlackBackSpec)

/-- 'laws.FnRedBlackForward', WHERE WHAT IT READS IS OF BULK AT MOST 1048576: true; the input reads as it did. -/
def fnRedBlackForwardUptoRow : OpenClaim := { program := "ytmhkknobgcdkkaa", sum := "8d1c1e2a888d314d93754006b07e29706aec9c0b37f971e5c6fb848c91c3874b", func := "loop.example/pub-sortedtrees/laws.FnRedBlackForward", spec := "fnRedBlackForward", unfollowed := true, recurses := true, apart := false, narrowed := true }
def FnRedBlackForwardUptoSaid : Prop := fnRedBlackForwardUptoRow.holds Try.pinned (OpenSpec.upto fnRedBlackForwardSpec)

end Rows
end Go.Proofs.Ytmhkknobgcdkkaa
