/-
  What a law keeps from call to call: the thin package's function of this tree that gets a value.
-/
import Derived.Test.YtmgjpppplapgpaaKept
import Derived.Test.YtmgjpppplapgpaaKeptBRb
import Derived.Test.YtmgjpppplapgpaaRbGet
namespace Go.Proofs.Ytmgjpppplapgpaa.Rb
open Go.RowKit Go.Proofs.Ytmgjpppplapgpaa

section
variable {w0 w w' : World} {g B C : Nat} {o : Ord} {rows : List (Option Addr × List Value)} {sts : List (Value × KV)}
theorem keptGet (h : Kept w0 g o rows sts B w) (ho : o.fine) (A : Option Addr) (acts : List Do) (k : Int) (n cap : Nat) (hn : acts.length = n) (hn1 : n ≤ 1000) (hm2 : (A, actCells acts) ∈ rows) :
    Calls Try.prog 27 #[.agg #[.int .i64 o.kind, .int .i64 o.m], .slice A n cap, .int .i64 k] w fun e w' => e = .returned (gotV (look o k (run o acts))) ∧ Kept w0 g o rows sts w'.heap.size w' := by
  refine (implRedBlackGet_walk o ho n cap A acts k w hn hn1 ((h.rows _ hm2).acts.more h.le)).mono ?_
  rintro e w' ⟨rfl, b⟩
  exact ⟨rfl, h.on b⟩
end
end Go.Proofs.Ytmgjpppplapgpaa.Rb
