/-
  What a law keeps from call to call: the thin package's functions of this tree.
-/
import Derived.Test.YtmhkknobgcdkkaaKeptBase
import Derived.Test.YtmhkknobgcdkkaaRbGrows
namespace Go.Proofs.Ytmhkknobgcdkkaa.Rb
open Go.RowKit Go.Proofs.Ytmhkknobgcdkkaa

section
variable {w0 w w' : World} {g B C : Nat} {o : Ord} {rows : List (Option Addr × List Value)} {sts : List (Value × KV)}
theorem keptState (h : Kept w0 g o rows sts B w) (ho : o.fine) (A : Option Addr) (acts : List Do) (n cap : Nat) (hn : acts.length = n) (hn1 : n ≤ 1000) (hm2 : (A, actCells acts) ∈ rows) :
    Calls Try.prog 22 #[.agg #[.int .i64 o.kind, .int .i64 o.m], .slice A n cap] w fun e w' => ∃ v, e = .returned v ∧ Kept w0 g o rows ((v, run o acts) :: sts) w'.heap.size w' := by
  refine (implRedBlackState_walk o ho n cap A acts w hn hn1 ((h.rows _ hm2).acts.more h.le)).mono ?_
  rintro e w' ⟨v, rfl, hs, b⟩
  exact ⟨v, rfl, (h.on b).st hs.at_⟩
theorem keptGrows (h : Kept w0 g o rows sts B w) : Calls Try.prog 21 #[] w fun e w' => e = .returned (.bool true) ∧ Kept w0 g o rows sts w'.heap.size w' := by
  refine (growsRedBlack_walk w).mono ?_
  rintro e w' ⟨rfl, b⟩
  exact ⟨rfl, h.on b⟩
end
end Go.Proofs.Ytmhkknobgcdkkaa.Rb
