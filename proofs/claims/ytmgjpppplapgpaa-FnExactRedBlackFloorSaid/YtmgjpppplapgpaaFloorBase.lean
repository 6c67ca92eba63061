/-
  What Floor and Ceiling find.
-/
import Derived.Test.YtmgjpppplapgpaaFewBase
import Derived.Test.YtmgjpppplapgpaaKept
namespace Go.Proofs.Ytmgjpppplapgpaa
open Go.RowKit

/-- The node that Floor finds, below a node, with the best one so far. -/
def floT (o : Ord) (k : Int) : Option Nat → BT → Option Nat
  | b, .nil => b
  | b, .node i l k' _ _ r => if o.rk k = o.rk k' then some i else if o.rk k < o.rk k' then floT o k b l else floT o k (some i) r
def floX (o : Ord) (k : Int) : Option (Int × Int) → BT → Option (Int × Int)
  | b, .nil => b
  | b, .node _ l k' v _ r => if o.rk k = o.rk k' then some (k', v) else if o.rk k < o.rk k' then floX o k b l else floX o k (some (k', v)) r
theorem floX_eq {o : Ord} {k : Int} {t : BT} (h : Asc o t.kvs) (b : Option (Int × Int)) : floX o k b t = (floorP o k t.kvs).or b := by
  induction t generalizing b with
  | nil => simp [floX, floorP, hasK, BT.kvs, plc]
  | node i l k' v c r ihl ihr =>
    have hm := asc_mid.1 (show Asc o (l.kvs ++ (k', v) :: r.kvs) from h)
    simp only [floX, BT.kvs]
    rcases Int.lt_trichotomy (o.rk k) (o.rk k') with hlt | he | hgt
    · rw [if_neg (by omega), if_pos hlt, ihl hm.1, floor_left hlt]
    · rw [if_pos he, floor_here hm.2.2.1 he]; rfl
    · rw [if_neg (by omega), if_neg (by omega), ihr hm.2.1, floor_right hm.2.2.1 hgt]; cases floorP o k r.kvs <;> rfl

/-- The node that Ceiling finds, below a node, with the best one so far. -/
def ceT (o : Ord) (k : Int) : Option Nat → BT → Option Nat
  | b, .nil => b
  | b, .node i l k' _ _ r => if o.rk k = o.rk k' then some i else if o.rk k < o.rk k' then ceT o k (some i) l else ceT o k b r
def ceX (o : Ord) (k : Int) : Option (Int × Int) → BT → Option (Int × Int)
  | b, .nil => b
  | b, .node _ l k' v _ r => if o.rk k = o.rk k' then some (k', v) else if o.rk k < o.rk k' then ceX o k (some (k', v)) l else ceX o k b r
theorem ceX_eq {o : Ord} {k : Int} {t : BT} (h : Asc o t.kvs) (b : Option (Int × Int)) : ceX o k b t = (ceilP o k t.kvs).or b := by
  induction t generalizing b with
  | nil => simp [ceX, ceilP, BT.kvs, plc]
  | node i l k' v c r ihl ihr =>
    have hm := asc_mid.1 (show Asc o (l.kvs ++ (k', v) :: r.kvs) from h)
    simp only [ceX, BT.kvs]
    rcases Int.lt_trichotomy (o.rk k) (o.rk k') with hlt | he | hgt
    · rw [if_neg (by omega), if_pos hlt, ihl hm.1, ceil_left hlt]; cases ceilP o k l.kvs <;> rfl
    · rw [if_pos he, ceil_here hm.2.2.1 he]; rfl
    · rw [if_neg (by omega), if_neg (by omega), ihr hm.2.1, ceil_right hm.2.2.1 hgt]

section
variable {w0 w w' : World} {g B C : Nat} {o : Ord} {rows : List (Option Addr × List Value)} {sts : List (Value × KV)}
theorem keptFloor (h : Kept w0 g o rows sts B w) (ho : o.fine) (A : Option Addr) (l : KV) (k : Int) (n cap : Nat) (hn : l.length = n) (hn1 : n ≤ 100000) (hm : (A, prCells l) ∈ rows) :
    Calls Try.prog 42 #[.agg #[.int .i64 o.kind, .int .i64 o.m], .slice A n cap, .int .i64 k] w fun e w' => e = .returned (pairV (floorP o k l)) ∧ Kept w0 g o rows sts w'.heap.size w' := by
  refine (floor_walk o ho k n cap A l w hn hn1 ((h.rows _ hm).more h.le)).mono ?_
  rintro e w' ⟨rfl, b⟩
  exact ⟨rfl, h.on b⟩
theorem keptFloorB (h : Kept w0 g o rows sts B w) {pb : Nat} {t : TypeId} {cs : Array Value} (hb : Blk w pb t cs) (ho : o.fine) (A : Option Addr) (l : KV) (k : Int) (n cap : Nat) (hn : l.length = n) (hn1 : n ≤ 100000) (hm : (A, prCells l) ∈ rows) :
    Calls Try.prog 42 #[.agg #[.int .i64 o.kind, .int .i64 o.m], .slice A n cap, .int .i64 k] w fun e w' => e = .returned (pairV (floorP o k l)) ∧ Kept w0 g o rows sts w'.heap.size w' ∧ Blk w' pb t cs := by
  refine (floor_walk o ho k n cap A l w hn hn1 ((h.rows _ hm).more h.le)).mono ?_
  rintro e w' ⟨rfl, b⟩
  exact ⟨rfl, h.on b, hb.below b hb.lt⟩
theorem keptCeiling (h : Kept w0 g o rows sts B w) (ho : o.fine) (A : Option Addr) (l : KV) (k : Int) (n cap : Nat) (hn : l.length = n) (hn1 : n ≤ 100000) (hm : (A, prCells l) ∈ rows) :
    Calls Try.prog 40 #[.agg #[.int .i64 o.kind, .int .i64 o.m], .slice A n cap, .int .i64 k] w fun e w' => e = .returned (pairV (ceilP o k l)) ∧ Kept w0 g o rows sts w'.heap.size w' := by
  refine (ceil_walk o ho k n cap A l w hn hn1 ((h.rows _ hm).more h.le)).mono ?_
  rintro e w' ⟨rfl, b⟩
  exact ⟨rfl, h.on b⟩
theorem keptCeilingB (h : Kept w0 g o rows sts B w) {pb : Nat} {t : TypeId} {cs : Array Value} (hb : Blk w pb t cs) (ho : o.fine) (A : Option Addr) (l : KV) (k : Int) (n cap : Nat) (hn : l.length = n) (hn1 : n ≤ 100000) (hm : (A, prCells l) ∈ rows) :
    Calls Try.prog 40 #[.agg #[.int .i64 o.kind, .int .i64 o.m], .slice A n cap, .int .i64 k] w fun e w' => e = .returned (pairV (ceilP o k l)) ∧ Kept w0 g o rows sts w'.heap.size w' ∧ Blk w' pb t cs := by
  refine (ceil_walk o ho k n cap A l w hn hn1 ((h.rows _ hm).more h.le)).mono ?_
  rintro e w' ⟨rfl, b⟩
  exact ⟨rfl, h.on b, hb.below b hb.lt⟩
end
end Go.Proofs.Ytmgjpppplapgpaa
