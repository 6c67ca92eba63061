/-
  Several texts as one (MakeBase, KeysBase): each says its own in its remarks.
-/
import Derived.Test.YtgakapigpiaoiaaRows0
import Derived.Test.YtgakapigpiaoiaaCmp
namespace Go.Proofs.Ytgakapigpiaoiaa
open Go.RowKit
theorem Blk.new' {w : World} {n : Nat} (h : n = w.heap.size) (t : TypeId) (cs : Array Value) : Blk (w.alloc (.cells cs t)) n t cs := by subst h; exact Blk.new w t cs
theorem by_walk (o : Ord) (w : World) : Calls Try.prog 23 #[.agg #[.int .i64 o.kind, .int .i64 o.m]] w fun e w' =>
    e = .returned (cmpv w.heap.size) ∧ w.alloc (.cells #[.int .i64 o.kind, .int .i64 o.m] 23) = w' := by
  have hmf : ∀ (fn : Fn) (first cap : Array Value) (w : World), (Instr.makeFunc fn first cap).run Try.prog w = .ok (.func fn first cap) w := fun _ _ _ _ => rfl
  go_enter Try.func23, Try.ntmps23
  go_wp2_with fail
  go_ret
  exact ⟨rfl, rfl⟩
end Go.Proofs.Ytgakapigpiaoiaa

namespace Go.Proofs.Ytgakapigpiaoiaa
open Go.RowKit
def partI (xs : List Int) (k : Nat) : List Value := rowI (xs.take k) ++ List.replicate (xs.length - k) .nilIface
theorem partI_zero (xs : List Int) : (partI xs 0).toArray = madeCells #[.nilIface] xs.length := by
  unfold partI madeCells rowI
  apply Array.ext
  · simp
  · intro i h1 h2
    simp [Nat.mod_one]
theorem partI_all (xs : List Int) : partI xs xs.length = rowI xs := by simp [partI]
theorem partI_length (xs : List Int) (k : Nat) : (partI xs k).length = xs.length := by
  simp [partI, rowI]; omega
theorem partI_set {xs : List Int} {k : Nat} {x : Int} (h : xs[k]? = some x) : (partI xs k).toArray.setIfInBounds k (.iface 3 (.int .i64 x)) = (partI xs (k + 1)).toArray := by
  have hk : k < xs.length := by
    rcases Nat.lt_or_ge k xs.length with h' | h'
    · exact h'
    · rw [List.getElem?_eq_none h'] at h; cases h
  rw [List.setIfInBounds_toArray]
  congr 1
  have e1 : (rowI (xs.take k)).length = k := by simp [rowI]; omega
  unfold partI
  rw [List.set_append_right _ _ (by omega), e1, Nat.sub_self, show xs.length - k = (xs.length - (k + 1)) + 1 by omega, List.replicate_succ, List.set_cons_zero, List.take_add_one, h]
  simp [rowI]
theorem nil_info : (Try.prog.info? 20).map (fun i => (i.zero, i.size, i.bytes)) = some (some .nilIface, 1, 16) := by kernel_rfl
theorem makeI_run (w : World) (n : Nat) (hn : n ≤ 100000) : (Instr.makeSlice 71 (.int .i64 (n : Int)) (.int .i64 (n : Int))).run Try.prog w = .ok (.slice (some ⟨w.heap.size, 0, none⟩) n n) (w.alloc (.cells (madeCells #[.nilIface] n) 20)) := by
  obtain ⟨i0, hi, hz0, hz1, hz2⟩ := info_parts nil_info
  have := run_make (P := Try.prog) w 71 20 i0 .nilIface Try.underlying71 hi hz0 .i64 .i64 n n (by omega) (Int.le_refl _) (by rw [hz2]; omega) (by omega)
  simpa [hz1, Value.cells] using this
end Go.Proofs.Ytgakapigpiaoiaa
