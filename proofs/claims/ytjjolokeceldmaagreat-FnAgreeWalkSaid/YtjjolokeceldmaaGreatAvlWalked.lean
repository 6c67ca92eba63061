import Derived.Test.YtjjolokeceldmaaGreatAvlMoves
import Derived.Test.YtjjolokeceldmaaGreatWalkedG
namespace Go.Proofs.YtjjolokeceldmaaGreat
open Go.RowKit
section
variable {o : Ord} {ob B tb itb p : Nat} {w w' : World} {t : BT}
theorem AvlItAt.belowC {C : Nat} (h : AvlItAt o ob B w tb itb t p) (k : Below C w w') (hC : ∀ b ∈ ob :: tb :: itb :: t.ids, b < C) : AvlItAt o ob B w' tb itb t p :=
 ⟨h.at_.same fun b hb => k.block b (hC b (by simp only [List.mem_cons] at hb ⊢; rcases hb with e | e | e; exact .inl e; exact .inr (.inl e); exact .inr (.inr (.inr e)))), h.it.same (k.block _ (hC itb (by simp))), h.le, h.lo⟩
theorem AvlItAt.ltC (h : AvlItAt o ob B w tb itb t p) : ∀ b ∈ ob :: tb :: itb :: t.ids, b < w.heap.size := fun b hb => by
 simp only [List.mem_cons] at hb
 rcases hb with e | e | e | e
 ·exact h.at_.lt b (by simp [e])
 ·exact h.at_.lt b (by simp [e])
 ·subst e; exact h.it.lt
 ·exact h.at_.lt b (by simp [e])
theorem avlMover (h : AvlItAt o ob B w tb itb t p) : Mover 76 158 160 155 157 153 154 159 161 156 162 t.kvs t.count itb B w.heap.size (fun w p => AvlItAt o ob B w tb itb t p) where
 len := BT.kvs_length t
 lt := h.ltC itb (by simp)
 lo := h.lo
 le := fun k => k.le
 bel := fun k h1 hC => k.belowC h1 fun b hb => Nat.lt_of_lt_of_le (h.ltC b hb) hC
 mfN := fun _ _ _ => by kernel_rfl
 efN := fun _ _ => by kernel_rfl
 mfP := fun _ _ _ => by kernel_rfl
 efP := fun _ _ => by kernel_rfl
 mfF := fun _ _ _ => by kernel_rfl
 efF := fun _ _ => by kernel_rfl
 mfL := fun _ _ _ => by kernel_rfl
 efL := fun _ _ => by kernel_rfl
 mfB := fun _ _ _ => by kernel_rfl
 efB := fun _ _ => by kernel_rfl
 mfE := fun _ _ _ => by kernel_rfl
 efE := fun _ _ => by kernel_rfl
 mfNT := fun _ _ _ => by kernel_rfl
 efNT := fun _ _ => by kernel_rfl
 mfPT := fun _ _ _ => by kernel_rfl
 efPT := fun _ _ => by kernel_rfl
 mfK := fun _ _ _ => by kernel_rfl
 efK := fun _ _ => by kernel_rfl
 mfV := fun _ _ _ => by kernel_rfl
 efV := fun _ _ => by kernel_rfl
 next := fun k => avlItNext_walk k
 prev := fun k => avlItPrev_walk k
 first := fun k => avlItFirst_walk k
 last := fun k => avlItLast_walk k
 begin_ := fun k => avlItBegin_walk k
 end_ := fun k => avlItEnd_walk k
 nextTo := fun k => avlItNextTo_walk k
 prevTo := fun k => avlItPrevTo_walk k
 key := fun k => avlItKey_walk k
 value := fun k => avlItValue_walk k
theorem avlWalked_walk (h : AvlItAt o ob B w tb itb t p) (n cap : Nat) (A : Option Addr) (moves : List Do) (hn : moves.length = n) (hn1 : n ≤ 1000) (hlt : t.count ≤ 100000) (ha : ActsAt w B A moves) (hB : B ≤ w.heap.size)
 (hok : ∀ m ∈ moves, (m.op = 7 ∨ m.op = 8) → 1 ≤ m.key ∧ m.key ≤ 1000) :
 Calls Tryz.prog 13 #[.iface 76 (.pointer (some ⟨itb, 0, none⟩)), .slice A n cap] w fun e w' =>
  ∃ A' cap', e = .returned (.slice A' n cap') ∧ w'.ownsRow w.heap.size 46 3 (.slice A' n cap') n (seenCells (walkFrom t.kvs p moves)) ∧ Below B w w' :=
 walked_walk (avlMover h) (Nat.le_refl _) h n cap A moves hn hn1 hlt ha hB hok
end
end Go.Proofs.YtjjolokeceldmaaGreat
