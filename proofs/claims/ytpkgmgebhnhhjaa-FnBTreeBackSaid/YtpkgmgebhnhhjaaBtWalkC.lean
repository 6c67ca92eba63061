/-
  The thin package's walk, in the form that laws use, with the room of its slice.
-/
import Derived.Test.YtpkgmgebhnhhjaaBases
import Derived.Test.YtpkgmgebhnhhjaaBtWalk
namespace Go.Proofs.Ytpkgmgebhnhhjaa.Bt
open Go.RowKit Go.Proofs.Ytpkgmgebhnhhjaa
section
variable {w0 w w' : World} {g B C : Nat} {o : Ord} {rows : List (Option Addr × List Value)} {sts : List (Value × KV)}
theorem keptWalkC (m : Int) (hm3 : 3 ≤ m ∧ m ≤ 64) (h : Kept w0 g o rows sts B w) (ho : o.fine) (A : Option Addr) (acts : List Do) (n cap : Nat) (hn : acts.length = n) (hn1 : n ≤ 1000) (hmm : (A, actCells acts) ∈ rows) (Am : Option Addr) (moves : List Do) (nm capm : Nat) (hm : moves.length = nm) (hm1 : nm ≤ 1000) (hmr : (Am, actCells moves) ∈ rows)
    (hok : ∀ m ∈ moves, (m.op = 7 ∨ m.op = 8) → 1 ≤ m.key ∧ m.key ≤ 1000) :
    Calls Try.prog 29 #[.int .i64 m, .agg #[.int .i64 o.kind, .int .i64 o.m], .slice A n cap, .slice Am nm capm] w fun e w' =>
      ∃ A' cap', nm ≤ cap' ∧ e = .returned (.slice A' nm cap') ∧ Kept w0 g o ((A', seenCells (walkFrom (run o acts) 0 moves)) :: rows) sts w'.heap.size w' := by
  refine (implBTreeWalk_walk m hm3 o ho n cap A acts nm capm Am moves w hn hn1 ((h.rows _ hmm).acts.more h.le) hm hm1 ((h.rows _ hmr).acts.more h.le) hok).mono ?_
  rintro e w' ⟨A', cap', rfl, own, b⟩
  exact ⟨A', cap', own_cap own, rfl, (h.on b).row (RowAt.of_own own)⟩
end
end Go.Proofs.Ytpkgmgebhnhhjaa.Bt
