import Derived.Test.YtjjolokeceldmaaGreatRbMoves
import Derived.Test.YtjjolokeceldmaaGreatWalkedG
namespace Go.Proofs.YtjjolokeceldmaaGreat.Rb
open Go.RowKit Go.Proofs.YtjjolokeceldmaaGreat
section
variable {o : Ord} {ob B tb itb p : Nat} {w w' : World} {t : BT}
theorem RbItAt.belowC {C : Nat} (h : RbItAt o ob B w tb itb t p) (k : Below C w w') (hC : ∀ b ∈ ob :: tb :: itb :: t.ids, b < C) : RbItAt o ob B w' tb itb t p :=
 ⟨h.at_.same fun b hb => k.block b (hC b (by simp only [List.mem_cons] at hb ⊢; rcases hb with e | e | e; exact .inl e; exact .inr (.inl e); exact .inr (.inr (.inr e)))), h.it.same (k.block _ (hC itb (by simp))), h.le, h.lo⟩
theorem RbItAt.ltC (h : RbItAt o ob B w tb itb t p) : ∀ b ∈ ob :: tb :: itb :: t.ids, b < w.heap.size := fun b hb => by
 simp only [List.mem_cons] at hb
 rcases hb with e | e | e | e
 ·exact h.at_.lt b (by simp [e])
 ·exact h.at_.lt b (by simp [e])
 ·subst e; exact h.it.lt
 ·exact h.at_.lt b (by simp [e])
theorem rbMover (h : RbItAt o ob B w tb itb t p) : Mover 44 55 86 83 84 81 82 85 87 56 63 t.kvs t.count itb B w.heap.size (fun w p => RbItAt o ob B w tb itb t p) where
 len := BT.kvs_length t
 lt := h.ltC itb (by simp)
 lo := h.lo
 le := fun k => k.le
 bel := fun k h1 hC => k.belowC h1 fun b hb => Nat.lt_of_lt_of_le (h.ltC b hb) hC
 mfN := fun _ _ _ => by kernel_rfl
 efN := fun _ _ => by kernel_rfl
 mfP := fun _ _ _ => by kernel_rfl
 efP := fun _ _ => by kernel_rfl
 mfF := fun _ _ _ => by kernel_rfl
 efF := fun _ _ => by kernel_rfl
 mfL := fun _ _ _ => by kernel_rfl
 efL := fun _ _ => by kernel_rfl
 mfB := fun _ _ _ => by kernel_rfl
 efB := fun _ _ => by kernel_rfl
 mfE := fun _ _ _ => by kernel_rfl
 efE := fun _ _ => by kernel_rfl
 mfNT := fun _ _ _ => by kernel_rfl
 efNT := fun _ _ => by kernel_rfl
 mfPT := fun _ _ _ => by kernel_rfl
 efPT := fun _ _ => by kernel_rfl
 mfK := fun _ _ _ => by kernel_rfl
 efK := fun _ _ => by kernel_rfl
 mfV := fun _ _ _ => by kernel_rfl
 efV := fun _ _ => by kernel_rfl
 next := fun k => rbItNext_walk k
 prev := fun k => rbItPrev_walk k
 first := fun k => rbItFirst_walk k
 last := fun k => rbItLast_walk k
 begin_ := fun k => rbItBegin_walk k
 end_ := fun k => rbItEnd_walk k
 nextTo := fun k => rbItNextTo_walk k
 prevTo := fun k => rbItPrevTo_walk k
 key := fun k => rbItKey_walk k
 value := fun k => rbItValue_walk k
theorem rbWalked_walk (h : RbItAt o ob B w tb itb t p) (n cap : Nat) (A : Option Addr) (moves : List Do) (hn : moves.length = n) (hn1 : n ≤ 1000) (hlt : t.count ≤ 100000) (ha : ActsAt w B A moves) (hB : B ≤ w.heap.size)
 (hok : ∀ m ∈ moves, (m.op = 7 ∨ m.op = 8) → 1 ≤ m.key ∧ m.key ≤ 1000) :
 Calls Tryz.prog 13 #[.iface 44 (.pointer (some ⟨itb, 0, none⟩)), .slice A n cap] w fun e w' =>
  ∃ A' cap', e = .returned (.slice A' n cap') ∧ w'.ownsRow w.heap.size 46 3 (.slice A' n cap') n (seenCells (walkFrom t.kvs p moves)) ∧ Below B w w' :=
 walked_walk (rbMover h) (Nat.le_refl _) h n cap A moves hn hn1 hlt ha hB hok
end
end Go.Proofs.YtjjolokeceldmaaGreat.Rb
