/-
  What a law keeps: the thin package's functions that tell one pair.
-/
import Derived.Test.YtpmikeeeocnfnaaKeptAvl
import Derived.Test.YtpmikeeeocnfnaaAvlFew
namespace Go.Proofs.Ytpmikeeeocnfnaa
open Go.RowKit

section
variable {w0 w w' : World} {g B C : Nat} {o : Ord} {rows : List (Option Addr × List Value)} {sts : List (Value × KV)}
theorem keptLeft (h : Kept w0 g o rows sts B w) (ho : o.fine) (A : Option Addr) (acts : List Do) (n cap : Nat) (hn : acts.length = n) (hn1 : n ≤ 1000) (hm2 : (A, actCells acts) ∈ rows) :
    Calls Try.prog 39 #[.agg #[.int .i64 o.kind, .int .i64 o.m], .slice A n cap] w fun e w' => e = .returned (tripV ((run o acts)[0]?)) ∧ Kept w0 g o rows sts w'.heap.size w' := by
  refine (implAVLLeft_walk o ho n cap A acts w hn hn1 ((h.rows _ hm2).acts.more h.le)).mono ?_
  rintro e w' ⟨rfl, b⟩
  exact ⟨rfl, h.on b⟩
theorem keptRight (h : Kept w0 g o rows sts B w) (ho : o.fine) (A : Option Addr) (acts : List Do) (n cap : Nat) (hn : acts.length = n) (hn1 : n ≤ 1000) (hm2 : (A, actCells acts) ∈ rows) :
    Calls Try.prog 40 #[.agg #[.int .i64 o.kind, .int .i64 o.m], .slice A n cap] w fun e w' => e = .returned (tripV ((run o acts)[(run o acts).length - 1]?)) ∧ Kept w0 g o rows sts w'.heap.size w' := by
  refine (implAVLRight_walk o ho n cap A acts w hn hn1 ((h.rows _ hm2).acts.more h.le)).mono ?_
  rintro e w' ⟨rfl, b⟩
  exact ⟨rfl, h.on b⟩
theorem keptNode (h : Kept w0 g o rows sts B w) (ho : o.fine) (A : Option Addr) (acts : List Do) (k : Int) (n cap : Nat) (hn : acts.length = n) (hn1 : n ≤ 1000) (hm2 : (A, actCells acts) ∈ rows) :
    Calls Try.prog 48 #[.agg #[.int .i64 o.kind, .int .i64 o.m], .slice A n cap, .int .i64 k] w fun e w' => e = .returned (tripV (look o k (run o acts))) ∧ Kept w0 g o rows sts w'.heap.size w' := by
  refine (implAVLNode_walk o ho n cap A acts k w hn hn1 ((h.rows _ hm2).acts.more h.le)).mono ?_
  rintro e w' ⟨rfl, b⟩
  exact ⟨rfl, h.on b⟩
theorem keptNext (h : Kept w0 g o rows sts B w) (ho : o.fine) (A : Option Addr) (acts : List Do) (k : Int) (n cap : Nat) (hn : acts.length = n) (hn1 : n ≤ 1000) (hm2 : (A, actCells acts) ∈ rows) :
    Calls Try.prog 51 #[.agg #[.int .i64 o.kind, .int .i64 o.m], .slice A n cap, .int .i64 k] w fun e w' => e = .returned (tripV (nextP o k (run o acts))) ∧ Kept w0 g o rows sts w'.heap.size w' := by
  refine (implAVLNext_walk o ho n cap A acts k w hn hn1 ((h.rows _ hm2).acts.more h.le)).mono ?_
  rintro e w' ⟨rfl, b⟩
  exact ⟨rfl, h.on b⟩
theorem keptPrev (h : Kept w0 g o rows sts B w) (ho : o.fine) (A : Option Addr) (acts : List Do) (k : Int) (n cap : Nat) (hn : acts.length = n) (hn1 : n ≤ 1000) (hm2 : (A, actCells acts) ∈ rows) :
    Calls Try.prog 57 #[.agg #[.int .i64 o.kind, .int .i64 o.m], .slice A n cap, .int .i64 k] w fun e w' => e = .returned (tripV (prevP o k (run o acts))) ∧ Kept w0 g o rows sts w'.heap.size w' := by
  refine (implAVLPrev_walk o ho n cap A acts k w hn hn1 ((h.rows _ hm2).acts.more h.le)).mono ?_
  rintro e w' ⟨rfl, b⟩
  exact ⟨rfl, h.on b⟩
end
end Go.Proofs.Ytpmikeeeocnfnaa
