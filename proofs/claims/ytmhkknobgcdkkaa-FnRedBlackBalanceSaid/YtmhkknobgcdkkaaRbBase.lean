/-
  The red-black tree in memory: its layout; pointers that are held against each other; a node's colour.
-/
import Derived.Test.YtmhkknobgcdkkaaCmp
import Derived.Test.YtmhkknobgcdkkaaRbPure
import Derived.Deep.LoopGhost
import Derived.LaidEqlPtr
namespace Go.Proofs.Ytmhkknobgcdkkaa.Rb
open Go.RowKit Go.Proofs.Ytmhkknobgcdkkaa

abbrev rbL : Lay := ⟨94, 67, 3, false⟩
theorem rb_op : rbL.op = 5 := rfl
theorem rb_oc : rbL.oc = 2 := rfl
theorem rb_os : rbL.os = 1 := rfl
theorem rb_om : rbL.om = 2 := rfl
theorem rb_cv (c : Int) : rbL.cv c = .bool (c == 1) := rfl

theorem root_node {i : Nat} {l r : BT} {k v b : Int} : (BT.node i l k v b r).root = some i := rfl
theorem rbNode_size : (Try.prog.info? 94).map (fun i => i.size) = some 6 := by kernel_rfl
theorem rbPtr_same (w : World) (a : Addr) : (binOp .eql 65 (.pointer (some a)) (.pointer (some a))).run Try.prog w = .ok (.bool true) w := by
  obtain ⟨j, hj, _⟩ := Option.map_eq_some_iff.1 rbNode_size
  exact run_eql_ptr_same w a Try.underlying65 hj
theorem rbPtr_other (w : World) {i j : Nat} (h : i ≠ j) {ca cb : Array Value} {ta tb : TypeId} (hi : Blk w i ta ca) (hj : Blk w j tb cb) :
    (binOp .eql 65 (.pointer (some ⟨i, 0, none⟩)) (.pointer (some ⟨j, 0, none⟩))).run Try.prog w = .ok (.bool false) w := by
  obtain ⟨x, hx, hs⟩ := Option.map_eq_some_iff.1 rbNode_size
  exact run_eql_ptr_other w Try.underlying65 hx (by rw [hs]; decide) (fun e => h (by injection e)) hi hj
theorem rbPtr_nil (w : World) (a : Addr) : (binOp .eql 65 (.pointer none) (.pointer (some a))).run Try.prog w = .ok (.bool false) w := by kernel_rfl
theorem rbPtr_some (w : World) (a : Addr) : (binOp .eql 65 (.pointer (some a)) (.pointer none)).run Try.prog w = .ok (.bool false) w := by kernel_rfl

/-- A pointer is held against the root of a tree of other blocks. -/
theorem rbPtr_root {w : World} {i : Nat} {t : BT} {ca : Array Value} {ta : TypeId} {p : Option Nat} (hi : Blk w i ta ca) (ht : IsT rbL w t p) (hn : i ∉ t.ids) :
    (binOp .eql 65 (.pointer (some ⟨i, 0, none⟩)) (ptr t.root)).run Try.prog w = .ok (.bool false) w := by
  cases t with
  | nil => exact rbPtr_some _ _
  | node j l k v b r => exact rbPtr_other w (fun e => hn (by simp [BT.ids, e])) hi ht.1

theorem rbPtr_rootN {w : World} {i : Nat} {t : BT} {ca : Array Value} {ta : TypeId} {p : Option Nat} (hi : Blk w i ta ca) (ht : IsT rbL w t p) (hn : i ∉ t.ids) (n : Nat) :
    (binOp .eql 65 (.pointer (some ⟨i, 0, none⟩)) (ptr t.root)).run Try.prog (w.drewN n) = .ok (.bool false) (w.drewN n) :=
  rbPtr_root (w := w.drewN n) (ca := ca) (ta := ta) hi (ht.same fun _ _ => rfl) hn

theorem nodeColor_nil (w : World) : Calls Try.prog 97 #[.pointer none] w fun e w' => e = .returned (.bool true) ∧ w = w' := by
  go_enter Try.func97, Try.ntmps97
  go_wp2_with fail
  go_ret
  exact ⟨rfl, rfl⟩
theorem nodeColor_node {w : World} {i : Nat} {k v c : Int} {p l r : Option Nat} (h : Nd rbL w i k v c p l r) : Calls Try.prog 97 #[.pointer (some ⟨i, 0, none⟩)] w fun e w' => e = .returned (.bool (c == 1)) ∧ w = w' := by
  have h2 : w.cell? ⟨i, 2, none⟩ = some (.bool (c == 1)) := h.cellC
  clear h
  generalize (c == 1) = x at *
  go_enter Try.func97, Try.ntmps97
  go_wp2_with fail
  go_ret
  exact ⟨rfl, rfl⟩
theorem nodeColor_walk {w : World} {t : BT} {p : Option Nat} (h : IsT rbL w t p) : Calls Try.prog 97 #[ptr t.root] w fun e w' => e = .returned (.bool (col t == 1)) ∧ w = w' := by
  cases t with
  | nil => exact nodeColor_nil w
  | node i l k v c r => exact nodeColor_node h.1

end Go.Proofs.Ytmhkknobgcdkkaa.Rb
