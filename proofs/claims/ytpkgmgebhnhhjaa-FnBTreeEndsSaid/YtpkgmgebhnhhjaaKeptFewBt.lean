/-
  What a law keeps: the thin package's functions that tell one pair.
-/
import Derived.Test.YtpkgmgebhnhhjaaBtKept
import Derived.Test.YtpkgmgebhnhhjaaBtFew
namespace Go.Proofs.Ytpkgmgebhnhhjaa.Bt
open Go.RowKit Go.Proofs.Ytpkgmgebhnhhjaa

section
variable {w0 w w' : World} {g B C : Nat} {o : Ord} {rows : List (Option Addr × List Value)} {sts : List (Value × KV)}
theorem keptLeft (m : Int) (hm : 3 ≤ m ∧ m ≤ 64) (h : Kept w0 g o rows sts B w) (ho : o.fine) (A : Option Addr) (acts : List Do) (n cap : Nat) (hn : acts.length = n) (hn1 : n ≤ 1000) (hm2 : (A, actCells acts) ∈ rows) :
    Calls Try.prog 41 #[.int .i64 m, .agg #[.int .i64 o.kind, .int .i64 o.m], .slice A n cap] w fun e w' => e = .returned (tripV ((run o acts)[0]?)) ∧ Kept w0 g o rows sts w'.heap.size w' := by
  refine (implBTreeLeft_walk m hm o ho n cap A acts w hn hn1 ((h.rows _ hm2).acts.more h.le)).mono ?_
  rintro e w' ⟨rfl, b⟩
  exact ⟨rfl, h.on b⟩
theorem keptRight (m : Int) (hm : 3 ≤ m ∧ m ≤ 64) (h : Kept w0 g o rows sts B w) (ho : o.fine) (A : Option Addr) (acts : List Do) (n cap : Nat) (hn : acts.length = n) (hn1 : n ≤ 1000) (hm2 : (A, actCells acts) ∈ rows) :
    Calls Try.prog 42 #[.int .i64 m, .agg #[.int .i64 o.kind, .int .i64 o.m], .slice A n cap] w fun e w' => e = .returned (tripV ((run o acts)[(run o acts).length - 1]?)) ∧ Kept w0 g o rows sts w'.heap.size w' := by
  refine (implBTreeRight_walk m hm o ho n cap A acts w hn hn1 ((h.rows _ hm2).acts.more h.le)).mono ?_
  rintro e w' ⟨rfl, b⟩
  exact ⟨rfl, h.on b⟩
theorem keptNodeB (m : Int) (hm : 3 ≤ m ∧ m ≤ 64) (h : Kept w0 g o rows sts B w) (ho : o.fine) (A : Option Addr) (acts : List Do) (k : Int) (n cap : Nat) (hn : acts.length = n) (hn1 : n ≤ 1000) (hm2 : (A, actCells acts) ∈ rows) :
    Calls Try.prog 39 #[.int .i64 m, .agg #[.int .i64 o.kind, .int .i64 o.m], .slice A n cap, .int .i64 k] w fun e w' => ∃ A' cap' xs b, e = .returned (.tuple #[.slice A' xs.length cap', .bool b]) ∧ KeysOf (run o acts) o k xs b ∧ Kept w0 g o ((A', intRow xs) :: rows) sts w'.heap.size w' := by
  refine (implBTreeNode_walk m hm o ho n cap A acts k w hn hn1 ((h.rows _ hm2).acts.more h.le)).mono ?_
  rintro e w' ⟨A', cap', xs, b, rfl, own, hk, bl⟩
  exact ⟨A', cap', xs, b, rfl, hk, (h.on bl).row (RowAt.of_own own)⟩
theorem keptEnds (m : Int) (hm : 3 ≤ m ∧ m ≤ 64) (h : Kept w0 g o rows sts B w) (ho : o.fine) (A : Option Addr) (acts : List Do) (n cap : Nat) (hn : acts.length = n) (hn1 : n ≤ 1000) (hm2 : (A, actCells acts) ∈ rows) :
    Calls Try.prog 40 #[.int .i64 m, .agg #[.int .i64 o.kind, .int .i64 o.m], .slice A n cap] w fun e w' => ∃ A1 c1 xs A2 c2 ys, e = .returned (.tuple #[.slice A1 xs.length c1, .slice A2 ys.length c2]) ∧ EndsOf (run o acts) xs ys ∧ Kept w0 g o ((A1, intRow xs) :: (A2, intRow ys) :: rows) sts w'.heap.size w' := by
  refine (implBTreeEnds_walk m hm o ho n cap A acts w hn hn1 ((h.rows _ hm2).acts.more h.le)).mono ?_
  rintro e w' ⟨A1, c1, xs, A2, c2, ys, rfl, own1, own2, hk, bl⟩
  exact ⟨A1, c1, xs, A2, c2, ys, rfl, hk, ((h.on bl).row (RowAt.of_own own2)).row (RowAt.of_own own1)⟩
end
end Go.Proofs.Ytpkgmgebhnhhjaa.Bt
