/-
  What a law on a tree's shape keeps from call to call: what Kept keeps, and two states in boxes.
-/
import Derived.Test.YtgakapigpiaoiaaKeptBase

namespace Go.Proofs.Ytgakapigpiaoiaa
open Go.RowKit

/-- Two boxes with states. -/
structure Two (w : World) (b1 b2 : Nat) (x1 y1 x2 y2 : Value) (u1 v1 u2 v2 : Value) : Prop where
  one : Blk w b1 30 #[x1, y1, u1, v1]
  two : Blk w b2 30 #[x2, y2, u2, v2]
theorem Two.cells {w : World} {b1 b2 : Nat} {x1 y1 x2 y2 u1 v1 u2 v2 : Value} (h : Two w b1 b2 x1 y1 x2 y2 u1 v1 u2 v2) :
    w.cell? ⟨b1, 0, none⟩ = some x1 ∧ w.cell? ⟨b1, 1, none⟩ = some y1 ∧ w.cell? ⟨b2, 0, none⟩ = some x2 ∧ w.cell? ⟨b2, 1, none⟩ = some y2 :=
  ⟨h.one.cell 0, h.one.cell 1, h.two.cell 0, h.two.cell 1⟩
theorem Two.below {w w' : World} {b1 b2 : Nat} {x1 y1 x2 y2 u1 v1 u2 v2 : Value} (h : Two w b1 b2 x1 y1 x2 y2 u1 v1 u2 v2) (b : Below w.heap.size w w') : Two w' b1 b2 x1 y1 x2 y2 u1 v1 u2 v2 :=
  ⟨h.one.below b h.one.lt, h.two.below b h.two.lt⟩
theorem Two.drew {w : World} {b1 b2 : Nat} {x1 y1 x2 y2 u1 v1 u2 v2 : Value} (h : Two w b1 b2 x1 y1 x2 y2 u1 v1 u2 v2) : Two w.drew b1 b2 x1 y1 x2 y2 u1 v1 u2 v2 := ⟨h.one, h.two⟩

section
variable {w0 w w' : World} {g B b1 b2 : Nat} {o : Ord} {rows : List (Option Addr × List Value)} {sts : List (Value × KV)} {x1 y1 x2 y2 u1 v1 u2 v2 : Value}
theorem twoSame (h : Kept w0 g o rows sts B w ∧ Two w b1 b2 x1 y1 x2 y2 u1 v1 u2 v2) (xs : List Int) (n c1 c2 : Nat) (A1 A2 : Option Addr) (hn : xs.length = n) (hn1 : n ≤ 100000) (m1 : (A1, intRow xs) ∈ rows) (m2 : (A2, intRow xs) ∈ rows) :
    Calls Try.prog 13 #[.slice A1 n c1, .slice A2 n c2] w fun e w' => e = .returned (.bool true) ∧ (Kept w0 g o rows sts B w' ∧ Two w' b1 b2 x1 y1 x2 y2 u1 v1 u2 v2) := by
  refine (same_yes xs w n c1 c2 A1 A2 B B hn hn1 (h.1.rows _ m1) (h.1.rows _ m2)).mono ?_
  rintro e w' ⟨rfl, m, rfl⟩
  exact ⟨rfl, h.1.drewN m, ⟨h.2.one, h.2.two⟩⟩
theorem Kept.two (h : Kept w0 g o rows sts B w ∧ Two w b1 b2 x1 y1 x2 y2 u1 v1 u2 v2) (b : Below w.heap.size w w') : Kept w0 g o rows sts w'.heap.size w' ∧ Two w' b1 b2 x1 y1 x2 y2 u1 v1 u2 v2 := ⟨h.1.on b, h.2.below b⟩
end
end Go.Proofs.Ytgakapigpiaoiaa
