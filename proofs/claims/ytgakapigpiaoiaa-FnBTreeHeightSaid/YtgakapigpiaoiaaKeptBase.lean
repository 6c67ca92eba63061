/-
  What a law keeps from call to call: the order's box, the rows of cells that it reads, the states it was told.
-/
import Derived.Test.YtgakapigpiaoiaaSpecSame
import Derived.Test.YtgakapigpiaoiaaRows0
namespace Go.Proofs.Ytgakapigpiaoiaa
open Go.RowKit


theorem ActsAt.row {w : World} {B : Nat} {A : Option Addr} {acts : List Do} (h : ActsAt w B A acts) : RowAt w B A (actCells acts) := fun j u hu => by
  obtain ⟨i, d, hd, hc⟩ := actCells_inv hu
  obtain ⟨a, ha, hb, h0, h1, h2⟩ := h i d hd
  rcases hc with ⟨rfl, rfl⟩ | ⟨rfl, rfl⟩ | ⟨rfl, rfl⟩
  · exact ⟨a, ha, hb, h0⟩
  · exact ⟨a, ha, hb, h1⟩
  · exact ⟨a, ha, hb, h2⟩
theorem RowAt.acts {w : World} {B : Nat} {A : Option Addr} {acts : List Do} (h : RowAt w B A (actCells acts)) : ActsAt w B A acts := fun i d hd => by
  obtain ⟨g0, g1, g2⟩ := actCells_get hd
  obtain ⟨a, rfl, hb, h0⟩ := h _ _ g0
  obtain ⟨a', ha', _, h1⟩ := h _ _ g1
  obtain ⟨a2, ha2, _, h2⟩ := h _ _ g2
  injection ha' with ha'
  injection ha2 with ha2
  subst ha' ha2
  exact ⟨a, rfl, hb, h0, h1, h2⟩

/-- A key, its value, and whether there is one. -/
def tripV : Option (Int × Int) → Value
  | some p => .tuple #[.int .i64 p.1, .int .i64 p.2, .bool true]
  | none => .tuple #[.int .i64 0, .int .i64 0, .bool false]
/-- All of it lies below block B. -/
structure Kept (w0 : World) (g : Nat) (o : Ord) (rows : List (Option Addr × List Value)) (sts : List (Value × KV)) (B : Nat) (w : World) : Prop where
  below : Below w0.heap.size w0 w
  ord : Blk w g 23 #[.int .i64 o.kind, .int .i64 o.m]
  lt : g < B
  le : B ≤ w.heap.size
  ge : w0.heap.size ≤ B
  rows : ∀ r ∈ rows, RowAt w B r.1 r.2
  sts : ∀ s ∈ sts, StateAt w B s.1 s.2

section
variable {w0 w w' : World} {g B C : Nat} {o : Ord} {rows : List (Option Addr × List Value)} {sts : List (Value × KV)}
theorem Kept.next (h : Kept w0 g o rows sts B w) (b : Below C w w') (hC : B ≤ C) : Kept w0 g o rows sts B w' := by
  have b' : Below B w w' := b.mono hC
  have hs := b.size
  exact ⟨h.below.trans (b'.mono h.ge), h.ord.below b' h.lt, h.lt, Nat.le_trans h.le hs, h.ge, fun r hr => (h.rows r hr).below b', fun s hs => (h.sts s hs).below b'⟩
theorem Kept.up (h : Kept w0 g o rows sts B w) (h1 : B ≤ C) (h2 : C ≤ w.heap.size) : Kept w0 g o rows sts C w :=
  ⟨h.below, h.ord, Nat.lt_of_lt_of_le h.lt h1, h2, Nat.le_trans h.ge h1, fun r hr => (h.rows r hr).more h1, fun s hs => (h.sts s hs).more h1⟩
theorem Kept.on (h : Kept w0 g o rows sts B w) (b : Below w.heap.size w w') : Kept w0 g o rows sts w'.heap.size w' := (h.next b h.le).up (Nat.le_trans h.le b.size) (Nat.le_refl _)
theorem Kept.drewN (h : Kept w0 g o rows sts B w) (n : Nat) : Kept w0 g o rows sts B (w.drewN n) := h.next (C := B) ⟨rfl, rfl, rfl, Nat.le_refl _, fun _ _ => rfl⟩ (Nat.le_refl _)
theorem Kept.drew (h : Kept w0 g o rows sts B w) : Kept w0 g o rows sts B w.drew := h.next (C := B) ⟨rfl, rfl, rfl, Nat.le_refl _, fun _ _ => rfl⟩ (Nat.le_refl _)
theorem Kept.alloc (h : Kept w0 g o rows sts B w) (x : Obj) : Kept w0 g o rows sts B (w.alloc x) := h.next ((Below.refl w.heap.size w).alloc (Nat.le_refl _) x) h.le
theorem Kept.row (h : Kept w0 g o rows sts B w) {A : Option Addr} {cs : List Value} (ha : RowAt w B A cs) : Kept w0 g o ((A, cs) :: rows) sts B w := by
  refine ⟨h.below, h.ord, h.lt, h.le, h.ge, fun r hr => ?_, h.sts⟩
  rcases List.mem_cons.1 hr with rfl | hr
  · exact ha
  · exact h.rows r hr
theorem Kept.st (h : Kept w0 g o rows sts B w) {v : Value} {l : KV} (hv : StateAt w B v l) : Kept w0 g o rows ((v, l) :: sts) B w := by
  refine ⟨h.below, h.ord, h.lt, h.le, h.ge, h.rows, fun r hr => ?_⟩
  rcases List.mem_cons.1 hr with rfl | hr
  · exact hv
  · exact h.sts r hr
/-- Behind the builtin append onto a row of the call's own. -/
theorem Kept.grown (h : Kept w0 g o rows sts B w) {base : Nat} {e : TypeId} {size : Nat} {v : Value} {n : Nat} {xs : List Value} (own : w.ownsRow base e size v n xs) (hb : B ≤ base) (hl : base ≤ w.heap.size) (gr : w.grownBy w' v.ownBlock) : Kept w0 g o rows sts B w' :=
  h.next ((Below.refl base w).grown gr hl (fun k hk => (own.lt k hk).1)) hb
theorem Kept.init (w0 : World) (o : Ord) : Kept w0 w0.heap.size o [] [] (w0.heap.size + 1) (w0.alloc (.cells #[.int .i64 o.kind, .int .i64 o.m] 23)) :=
  ⟨(Below.refl _ _).alloc (Nat.le_refl _) _, Blk.new _ _ _, Nat.lt_succ_self _, by simp, Nat.le_succ _, fun r hr => by simp at hr, fun r hr => by simp at hr⟩
theorem Kept.c (h : Kept w0 g o rows sts B w) : w.cell? ⟨g, 0, none⟩ = some (.int .i64 o.kind) ∧ w.cell? ⟨g, 1, none⟩ = some (.int .i64 o.m) := ⟨h.ord.cell 0, h.ord.cell 1⟩
theorem Kept.cd (h : Kept w0 g o rows sts B w) : w.drew.cell? ⟨g, 0, none⟩ = some (.int .i64 o.kind) ∧ w.drew.cell? ⟨g, 1, none⟩ = some (.int .i64 o.m) := h.drew.c
/-- The start of a law: the order boxed, and once more for the question whether it is plain. -/
theorem Kept.start {w0 : World} {A : Option Addr} {acts : List Do} (o : Ord) (ha : ActsAt w0 w0.heap.size A acts) : Kept w0 w0.heap.size o [(A, actCells acts)] [] (w0.heap.size + 1) ((w0.alloc (.cells #[.int .i64 o.kind, .int .i64 o.m] 23)).alloc (.cells #[.int .i64 o.kind, .int .i64 o.m] 23)) :=
  ((Kept.init w0 o).row (((ha.row).below ((Below.refl _ _).alloc (Nat.le_refl _) _)).more (Nat.le_succ _))).alloc _

theorem Kept.new_ne (h : Kept w0 g o rows sts B w) {n : Nat} (hn : w.heap.size ≤ n) : n ≠ g := by have := h.ord.lt; omega
theorem Kept.new_ge (h : Kept w0 g o rows sts B w) {n : Nat} (hn : w.heap.size ≤ n) : w0.heap.size ≤ n := by have := h.below.size; omega

end
end Go.Proofs.Ytgakapigpiaoiaa
