/-
  What a law keeps from call to call: the order's box, the rows of cells that it reads, the states it was told.
-/
import Derived.Test.YtpkgmgebhnhhjaaKeptBase
import Derived.Test.YtpkgmgebhnhhjaaSpecSameS
import Derived.Test.YtpkgmgebhnhhjaaSpecState
import Derived.Test.YtpkgmgebhnhhjaaSpecFind
namespace Go.Proofs.Ytpkgmgebhnhhjaa
open Go.RowKit
section
variable {w0 w w' : World} {g B C : Nat} {o : Ord} {rows : List (Option Addr × List Value)} {sts : List (Value × KV)}
theorem keptSame (h : Kept w0 g o rows sts B w) (v1 v2 : Value) (l : KV) (hl : l.length ≤ 100000) (h1 : (v1, l) ∈ sts) (h2 : (v2, l) ∈ sts) :
    Calls Try.prog 33 #[v1, v2] w fun e w' => e = .returned (.bool true) ∧ Kept w0 g o rows sts w'.heap.size w' := by
  refine (sameState_yes l w v1 v2 _ _ hl (h.sts _ h1) (h.sts _ h2) h.le h.le).mono ?_
  rintro e w' ⟨rfl, b⟩
  exact ⟨rfl, h.on b⟩
/-- The reference's Run; its list becomes a row. -/
theorem keptRun (h : Kept w0 g o rows sts B w) (ho : o.fine) (A : Option Addr) (acts : List Do) (n cap : Nat) (hn : acts.length = n) (hn1 : n ≤ 1000) (hm : (A, actCells acts) ∈ rows) :
    Calls Try.prog 37 #[.agg #[.int .i64 o.kind, .int .i64 o.m], .slice A n cap] w fun e w' => ∃ q c, e = .returned (.slice (some ⟨q, 0, none⟩) (run o acts).length c) ∧ Kept w0 g o ((some ⟨q, 0, none⟩, prCells (run o acts)) :: rows) sts w'.heap.size w' := by
  refine (run_walk o ho n cap A acts w hn hn1 ((h.rows _ hm).acts.more h.le)).mono ?_
  rintro e w' ⟨q, c, rfl, own, b⟩
  exact ⟨q, c, rfl, (h.on b).row (RowAt.of_own own)⟩
theorem keptSState (h : Kept w0 g o rows sts B w) (A : Option Addr) (l : KV) (n cap : Nat) (hn : l.length = n) (hn1 : n ≤ 100000) (hm : (A, prCells l) ∈ rows) :
    Calls Try.prog 36 #[.slice A n cap] w fun e w' => ∃ v, e = .returned v ∧ Kept w0 g o rows ((v, l) :: sts) w'.heap.size w' := by
  refine (sstate_walk n cap A l w hn hn1 ((h.rows _ hm).more h.le)).mono ?_
  rintro e w' ⟨v, rfl, own, b⟩
  exact ⟨v, rfl, (h.on b).st own.at_⟩
theorem keptFind (h : Kept w0 g o rows sts B w) (ho : o.fine) (A : Option Addr) (l : KV) (k : Int) (n cap : Nat) (hn : l.length = n) (hn1 : n ≤ 100000) (hm : (A, prCells l) ∈ rows) :
    Calls Try.prog 38 #[.agg #[.int .i64 o.kind, .int .i64 o.m], .slice A n cap, .int .i64 k] w fun e w' => e = .returned (pairV (look o k l)) ∧ Kept w0 g o rows sts w'.heap.size w' := by
  refine (find_walk o ho k n cap A l w hn hn1 ((h.rows _ hm).more h.le)).mono ?_
  rintro e w' ⟨rfl, b⟩
  exact ⟨rfl, h.on b⟩
/-! The same, with a block beside it that is kept whole -/
theorem keptRunB (h : Kept w0 g o rows sts B w) {pb : Nat} {t : TypeId} {cs : Array Value} (hb : Blk w pb t cs) (ho : o.fine) (A : Option Addr) (acts : List Do) (n cap : Nat) (hn : acts.length = n) (hn1 : n ≤ 1000) (hm : (A, actCells acts) ∈ rows) :
    Calls Try.prog 37 #[.agg #[.int .i64 o.kind, .int .i64 o.m], .slice A n cap] w fun e w' => ∃ q c, e = .returned (.slice (some ⟨q, 0, none⟩) (run o acts).length c) ∧ Kept w0 g o ((some ⟨q, 0, none⟩, prCells (run o acts)) :: rows) sts w'.heap.size w' ∧ Blk w' pb t cs := by
  refine (run_walk o ho n cap A acts w hn hn1 ((h.rows _ hm).acts.more h.le)).mono ?_
  rintro e w' ⟨q, c, rfl, own, b⟩
  exact ⟨q, c, rfl, (h.on b).row (RowAt.of_own own), hb.below b hb.lt⟩
theorem keptFindB (h : Kept w0 g o rows sts B w) {pb : Nat} {t : TypeId} {cs : Array Value} (hb : Blk w pb t cs) (ho : o.fine) (A : Option Addr) (l : KV) (k : Int) (n cap : Nat) (hn : l.length = n) (hn1 : n ≤ 100000) (hm : (A, prCells l) ∈ rows) :
    Calls Try.prog 38 #[.agg #[.int .i64 o.kind, .int .i64 o.m], .slice A n cap, .int .i64 k] w fun e w' => e = .returned (pairV (look o k l)) ∧ Kept w0 g o rows sts w'.heap.size w' ∧ Blk w' pb t cs := by
  refine (find_walk o ho k n cap A l w hn hn1 ((h.rows _ hm).more h.le)).mono ?_
  rintro e w' ⟨rfl, b⟩
  exact ⟨rfl, h.on b, hb.below b hb.lt⟩
end
end Go.Proofs.Ytpkgmgebhnhhjaa
