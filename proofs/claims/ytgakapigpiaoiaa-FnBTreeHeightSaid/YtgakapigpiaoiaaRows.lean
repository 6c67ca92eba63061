/-
  No cell of these rows narrows 'for every input' (looked for: loops, veiled, ifaces, maps, wideKeys, modest, calm, conditions, laid).
  DERIVED. THE GIVEN ROWS OF THIS SEAT. 4 by the template 'for every input the law returns true; each argument reads behind the call as it read before'; 0 by the template 'total and deterministic' (their statements: YtgakapigpiaoiaaTotals.lean).
  GIVEN WITH THE SEED: the statements are not yours to turn. If you find one false, say at which input.
  Laid BY PROGRAM, IN A SANDBOX (cutbox-rows.mjs): the forced cells as the released guide's own fill.sh prints them over the translation 950bb802a5c00d5f… (all of the seat's roots in one cut). By AI agents, Wed Nov 11 2026. No macro, syntax, notation, axiom, sorry.
-/
import Derived.Test.YtgakapigpiaoiaaChecked
import GoSem.Claim
import GoSem.ClaimJoined
import GoSem.ClaimMapViews
import Derived.JoinedTies
import Derived.KernelRfl
namespace Go.Proofs.Ytgakapigpiaoiaa
/- THE CELL 'sum', in the pinned program and in every row, IS THE sha256 OF THE DUMP (.gsa) THAT YtgakapigpiaoiaaProg.lean LOADS. Nothing in Lean hashes anything: it is a label: what it is worth is what the hold of that sum in a sandbox is worth. -/
noncomputable def Try.pinned : Pinned := { name := "ytgakapigpiaoiaa", sum := "950bb802a5c00d5f2f9247c983234e5616e3a9473b304adea9a209443caf892b", checked := Try.checked }
namespace Rows
def none {H : Type} : Left H := { results := [], args := [] }

/-- 'laws.FnBTreeKnuth': WHATEVER THE INPUT: true; the input reads as it did. -/
def fnBTreeKnuthSpec : ChangeSpec := { name := "fnBTreeKnuth", fn := fun _ => fun
  | [d1, d2, d3] => { results := [.lit (.bool true)], args := [d1, d2, d3] }
  | _ => none }
def fnBTreeKnuthRow : OpenClaim := { program := "ytgakapigpiaoiaa", sum := "950bb802a5c00d5f2f9247c983234e5616e3a9473b304adea9a209443caf892b", func := "loop.example/pub-sortedtrees/laws.FnBTreeKnuth", spec := "fnBTreeKnuth", unfollowed := true, recurses := true, apart := false }
def FnBTreeKnuthSaid : Prop := fnBTreeKnuthRow.holds Try.pinned (OpenSpec.ofChange fnBTreeKnuthSpec)

/-- ITS FALSE NEIGHBOUR: 'it returns false'. Refute it at one input. -/
def fnBTreeKnuthWrong : ChangeSpec := { name := "fnBTreeKnuth", fn := fun _ => fun
  | [d1, d2, d3] => { results := [.lit (.bool false)], args := [d1, d2, d3] }
  | _ => none }
def FnBTreeKnuthWrongFalsely : Prop := fnBTreeKnuthRow.holds Try.pinned (OpenSpec.ofChange fnBTreeKnuthWrong)

/-- 'laws.FnBTreeShape': WHATEVER THE INPUT: true; the input reads as it did. -/
def fnBTreeShapeSpec : ChangeSpec := { name := "fnBTreeShape", fn := fun _ => fun
  | [d1, d2, d3] => { results := [.lit (.bool true)], args := [d1, d2, d3] }
  | _ => none }
def fnBTreeShapeRow : OpenClaim := { program := "ytgakapigpiaoiaa", sum := "950bb802a5c00d5f2f9247c983234e5616e3a9473b304adea9a209443caf892b", func := "loop.example/pub-sortedtrees/laws.FnBTreeShape", spec := "fnBTreeShape", unfollowed := true, recurses := true, apart := false }
def FnBTreeShapeSaid : Prop := fnBTreeShapeRow.holds Try.pinned (OpenSpec.ofChange fnBTreeShapeSpec)

/-- ITS FALSE NEIGHBOUR: 'it returns false'. Refute it at one input. -/
def fnBTreeShapeWrong : ChangeSpec := { name := "fnBTreeShape", fn := fun _ => fun
  | [d1, d2, d3] => { results := [.lit (.bool false)], args := [d1, d2, d3] }
  | _ => none }
def FnBTreeShapeWrongFalsely : Prop := fnBTreeShapeRow.holds Try.pinned (OpenSpec.ofChange fnBTreeShapeWrong)

/-- 'laws.FnBTreeSizes': WHATEVER THE INPUT: true; the input reads as it did. -/
def fnBTreeSizesSpec : ChangeSpec := { name := "fnBTreeSizes", fn := fun _ => fun
  | [d1, d2, d3] => { results := [.lit (.bool true)], args := [d1, d2, d3] }
  | _ => none }
def fnBTreeSizesRow : OpenClaim := { program := "ytgakapigpiaoiaa", sum := "950bb802a5c00d5f2f9247c983234e5616e3a9473b304adea9a209443caf892b", func := "loop.example/pub-sortedtrees/laws.FnBTreeSizes", spec := "fnBTreeSizes", unfollowed := true, recurses := true, apart := false }
def FnBTreeSizesSaid : Prop := fnBTreeSizesRow.holds Try.pinned (OpenSpec.ofChange fnBTreeSizesSpec)

/-- ITS FALSE NEIGHBOUR: 'it returns false'. Refute it at one input. -/
def fnBTreeSizesWrong : ChangeSpec := { name := "fnBTreeSizes", fn := fun _ => fun
  | [d1, d2, d3] => { results := [.lit (.bool false)], args := [d1, d2, d3] }
  | _ => none }
def FnBTreeSizesWrongFalsely : Prop := fnBTreeSizesRow.holds Try.pinned (OpenSpec.ofChange fnBTreeSizesWrong)

/-- 'laws.FnBTreeHeight': WHATEVER THE INPUT: true; the input reads as it did. -/
def fnBTreeHeightSpec : ChangeSpec := { name := "fnBTreeHeight", fn := fun _ => fun
  | [d1, d2, d3] => { results := [.lit (.bool true)], args := [d1, d2, d3] }
  | _ => none }
def fnBTreeHeightRow : OpenClaim := { program := "ytgakapigpiaoiaa", sum := "950bb802a5c00d5f2f9247c983234e5616e3a9473b304adea9a209443caf892b", func := "loop.example/pub-sortedtrees/laws.FnBTreeHeight", spec := "fnBTreeHeight", unfollowed := true, recurses := true, apart := false }
def FnBTreeHeightSaid : Prop := fnBTreeHeightRow.holds Try.pinned (OpenSpec.ofChange fnBTreeHeightSpec)

/-- ITS FALSE NEIGHBOUR: 'it returns false'. Refute it at one input. -/
def fnBTreeHeightWrong : ChangeSpec := { name := "fnBTreeHeight", fn := fun _ => fun
  | [d1, d2, d3] => { results := [.lit (.bool false)], args := [d1, d2, d3] }
  | _ => none }
def FnBTreeHeightWrongFalsely : Prop := fnBTreeHeightRow.holds Try.pinned (OpenSpec.ofChange fnBTreeHeightWrong)

/- THE SECOND FORM. 'bulk': how many values and letters a reading holds, each counted each time it is reached (what is shared counts as often as it is met; a slice's spare places count too). A statement '..UptoSaid' is the law's where the arguments, and the package variables that the reading takes, are together of bulk at most 1048576: NARROWER than '..Said'. Prove '..Said' where nothing that the law and all that it calls make is longer than what came in: it says more and counts as full. Else prove '..UptoSaid'. A law counts once. -/
mutual
def uptoBulk {H : Type} : DataW H → Nat
  | .lit (.string bytes) => bytes.length + 1
  | .lit _ => 1
  | .nil => 1
  | .ptr d => uptoBulk d + 1
  | .slice elems spare => uptoBulkAll elems + uptoBulkAll spare + 1
  | .agg parts => uptoBulkAll parts + 1
  | .iface _ d => uptoBulk d + 1
  | .map entries => uptoBulkEntries entries + 1
  | .held _ => 1
def uptoBulkAll {H : Type} : List (DataW H) → Nat
  | [] => 0
  | d :: r => uptoBulk d + uptoBulkAll r
def uptoBulkEntries {H : Type} : List (Lit × DataW H) → Nat
  | [] => 0
  | x :: r => uptoBulkEntry x + uptoBulkEntries r
def uptoBulkEntry {H : Type} : Lit × DataW H → Nat
  | (.string bytes, d) => bytes.length + uptoBulk d + 1
  | (_, d) => uptoBulk d + 1
 end
def uptoSmall : (H : Type) → List (DataW H) → Bool := fun _ ds => decide (uptoBulkAll ds ≤ 1048576)
def OpenSpec.upto (s : _root_.Go.ChangeSpec) : _root_.Go.OpenSpec := { _root_.Go.OpenSpec.ofChange s with cond := some uptoSmall }

/-- 'laws.FnBTreeKnuth', WHERE WHAT IT READS IS OF BULK AT MOST 1048576: true; the input reads as it did. -/
def fnBTreeKnuthUptoRow : OpenClaim := { program := "ytgakapigpiaoiaa", sum := "950bb802a5c00d5f2f9247c983234e5616e3a9473b304adea9a209443caf892b", func := "loop.example/pub-sortedtrees/laws.FnBTreeKnuth", spec := "fnBTreeKnuth", unfollowed := true, recurses := true, apart := false, narrowed := true }
def FnBTreeKnuthUptoSaid : Prop := fnBTreeKnuthUptoRow.holds Try.pinned (OpenSpec.upto fnBTreeKnuthSpec)

/-- 'laws.FnBTreeShape', WHERE WHAT IT READS IS OF BULK AT MOST 1048576: true; the input reads as it did. -/
def fnBTreeShapeUptoRow : OpenClaim := { program := "ytgakapigpiaoiaa", sum := "950bb802a5c00d5f2f9247c983234e5616e3a9473b304adea9a209443caf892b", func := "loop.example/pub-sortedtrees/laws.FnBTreeShape", spec := "fnBTreeShape", unfollowed := true, recurses := true, apart := false, narrowed := true }
def FnBTreeShapeUptoSaid : Prop := fnBTreeShapeUptoRow.holds Try.pinned (OpenSpec.upto fnBTreeShapeSpec)

/-- 'laws.FnBTreeSizes', WHERE WHAT IT READS IS OF BULK AT MOST 1048576: true; the input reads as it did. -/
def fnBTreeSizesUptoRow : OpenClaim := { program := "ytgakapigpiaoiaa", sum := "950bb802a5c00d5f2f9247c983234e5616e3a9473b304adea9a209443caf892b", func := "loop.example/pub-sortedtrees/laws.FnBTreeSizes", spec := "fnBTreeSizes", unfollowed := true, recurses := true, apart := false, narrowed := true }
def FnBTreeSizesUptoSaid : Prop := fnBTreeSizesUptoRow.holds Try.pinned (OpenSpec.upto fnBTreeSizesSpec)

/-- 'laws.FnBTreeHeight', WHERE WHAT IT READS IS OF BULK AT MOST 1048576: true; the input reads as it did. -/
def fnBTreeHeightUptoRow : OpenClaim := { program := "ytgakapigpiaoiaa", sum := "950bb802a5c00d5f2f9247c983234e5616e3a9473b304adea9a209443caf892b", func := "loop.example/pub-sortedtrees/laws.FnBTreeHeight", spec := "fnBTreeHeight", unfollowed := true, recurses := true, apart := false, narrowed := true }
def FnBTreeHeightUptoSaid : Prop := fnBTreeHeightUptoRow.holds Try.pinned (OpenSpec.upto fnBTreeHeightSpec)

end Rows
end Go.Proofs.Ytgakapigpiaoiaa
