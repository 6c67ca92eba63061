import Derived.Test.YtjjolokeceldmaaGreatBtMoves
import Derived.Test.YtjjolokeceldmaaGreatWalkedG
namespace Go.Proofs.YtjjolokeceldmaaGreat.Bt
open Go.RowKit Go.Proofs.YtjjolokeceldmaaGreat
section
variable {o : Ord} {ob B tb itb p : Nat} {w w' : World} {t : BTr}
theorem btiMover (h : BtIt o ob B w tb itb t p) : Mover 60 113 150 147 148 146 121 149 151 114 118 t.kvs t.count itb B w.heap.size (fun w p => BtIt o ob B w tb itb t p) where
 len := BTr.kvs_length t
 lt := h.ltC.it
 lo := h.lo
 le := fun k => k.le
 bel := fun k h1 hC => k.belowC h1 ⟨h.ltC.ex.imp fun _ e => ⟨Nat.le_trans e.1 hC, e.2⟩, Nat.lt_of_lt_of_le h.ltC.it hC⟩
 mfN := fun _ _ _ => by kernel_rfl
 efN := fun _ _ => by kernel_rfl
 mfP := fun _ _ _ => by kernel_rfl
 efP := fun _ _ => by kernel_rfl
 mfF := fun _ _ _ => by kernel_rfl
 efF := fun _ _ => by kernel_rfl
 mfL := fun _ _ _ => by kernel_rfl
 efL := fun _ _ => by kernel_rfl
 mfB := fun _ _ _ => by kernel_rfl
 efB := fun _ _ => by kernel_rfl
 mfE := fun _ _ _ => by kernel_rfl
 efE := fun _ _ => by kernel_rfl
 mfNT := fun _ _ _ => by kernel_rfl
 efNT := fun _ _ => by kernel_rfl
 mfPT := fun _ _ _ => by kernel_rfl
 efPT := fun _ _ => by kernel_rfl
 mfK := fun _ _ _ => by kernel_rfl
 efK := fun _ _ => by kernel_rfl
 mfV := fun _ _ _ => by kernel_rfl
 efV := fun _ _ => by kernel_rfl
 next := fun k => btiItNext_walk k
 prev := fun k => btiItPrev_walk k
 first := fun k => btiItFirst_walk k
 last := fun k => btiItLast_walk k
 begin_ := fun k => btiItBegin_walk k
 end_ := fun k => btiItEnd_walk k
 nextTo := fun k => btiItNextTo_walk k
 prevTo := fun k => btiItPrevTo_walk k
 key := fun k => btiItKey_walk k
 value := fun k => btiItValue_walk k
theorem btiWalked_walk (h : BtIt o ob B w tb itb t p) (n cap : Nat) (A : Option Addr) (moves : List Do) (hn : moves.length = n) (hn1 : n ≤ 1000) (hlt : t.count ≤ 100000) (ha : ActsAt w B A moves) (hB : B ≤ w.heap.size)
 (hok : ∀ m ∈ moves, (m.op = 7 ∨ m.op = 8) → 1 ≤ m.key ∧ m.key ≤ 1000) :
 Calls Tryz.prog 13 #[.iface 60 (.pointer (some ⟨itb, 0, none⟩)), .slice A n cap] w fun e w' =>
  ∃ A' cap', e = .returned (.slice A' n cap') ∧ w'.ownsRow w.heap.size 46 3 (.slice A' n cap') n (seenCells (walkFrom t.kvs p moves)) ∧ Below B w w' :=
 walked_walk (btiMover h) (Nat.le_refl _) h n cap A moves hn hn1 hlt ha hB hok
end
end Go.Proofs.YtjjolokeceldmaaGreat.Bt
