/-
  A row of nodes as they are told (impl.Knot), as cells.
-/
import Derived.Test.YtmhkknobgcdkkaaPures
import Derived.Test.YtmhkknobgcdkkaaRows0
namespace Go.Proofs.Ytmhkknobgcdkkaa
open Go.RowKit

def knVals (x : Kn) : List Value := [.int .i64 x.key, .int .i64 x.val, .int .i64 x.up, .int .i64 x.left, .int .i64 x.right, .int .i64 x.size]
def knCells (l : List Kn) : List Value := l.flatMap knVals
theorem knCells_append (l r : List Kn) : knCells (l ++ r) = knCells l ++ knCells r := by simp [knCells]
theorem knCells_cons (x : Kn) (l : List Kn) : knCells (x :: l) = knVals x ++ knCells l := rfl
theorem knCells_length (l : List Kn) : (knCells l).length = l.length * 6 := by
  induction l with
  | nil => rfl
  | cons x l ih => rw [knCells_cons, List.length_append, ih]; simp [knVals]; omega
theorem knCells_one (l : List Kn) : ∀ u ∈ knCells l, u.oneCell' = true := by
  intro u hu
  simp only [knCells, List.mem_flatMap, knVals] at hu
  obtain ⟨x, _, hx⟩ := hu
  simp only [List.mem_cons, List.not_mem_nil, or_false] at hx
  rcases hx with rfl | rfl | rfl | rfl | rfl | rfl <;> rfl
theorem kn_info : (Try.prog.info? 47).map (fun i => (i.zero, i.size, i.bytes)) = some (some (.agg #[.int .i64 0, .int .i64 0, .int .i64 0, .int .i64 0, .int .i64 0, .int .i64 0]), 6, 48) := by kernel_rfl
theorem knCells_getj {l : List Kn} {i : Nat} {x : Kn} (h : l[i]? = some x) (j : Nat) (hj : j < 6) : (knCells l)[i * 6 + j]? = (knVals x)[j]? := by
  induction l generalizing i with
  | nil => simp at h
  | cons y l ih =>
    rw [knCells_cons]
    cases i with
    | zero =>
      simp only [List.getElem?_cons_zero, Option.some.injEq] at h
      subst h
      rw [List.getElem?_append_left (by simp [knVals]; omega)]; simp
    | succ i =>
      rw [List.getElem?_append_right (by simp [knVals]; omega)]
      have e : (i + 1) * 6 + j - (knVals y).length = i * 6 + j := by simp [knVals]; omega
      rw [e]; exact ih (by simpa using h)
theorem knCells_set {l : List Kn} {i : Nat} {x y : Kn} (h : l[i]? = some x) (j : Nat) (hj : j < 6) (u : Value) (hu : knVals y = (knVals x).set j u) : (knCells l).set (i * 6 + j) u = knCells (l.set i y) := by
  induction l generalizing i with
  | nil => simp at h
  | cons z l ih =>
    rw [knCells_cons]
    cases i with
    | zero =>
      simp only [List.getElem?_cons_zero, Option.some.injEq] at h
      subst h
      rw [List.set_append_left _ _ (by simp [knVals]; omega)]
      simp [knCells_cons, hu]
    | succ i =>
      rw [List.set_append_right _ _ (by simp [knVals]; omega)]
      have e : (i + 1) * 6 + j - (knVals z).length = i * 6 + j := by simp [knVals]; omega
      rw [e, ih (by simpa using h), List.set_cons_succ, knCells_cons]
theorem knots_step (L : List Kn) (u : Int) (i : Nat) (l : BT) (k v b : Int) (r : BT) (a1 a2 : Int) (M : List Kn) (hM : M = L ++ ⟨k, v, u, a1, a2, (l.count + r.count + 1 : Nat)⟩ :: (knots (L.length + 1) L.length l ++ knots (L.length + 1 + l.count) L.length r)) :
    M.set L.length ⟨k, v, u, numAt (L.length + 1) l, numAt (L.length + 1 + l.count) r, (l.count + r.count + 1 : Nat)⟩ = L ++ knots L.length u (.node i l k v b r) := by
  subst hM
  rw [List.set_append_right _ _ (Nat.le_refl _), Nat.sub_self, List.set_cons_zero]
  rfl
/-- The node above: as it is told in the list. -/
def UpAt (w : World) (S : List Nat) (L : List Kn) (u : Int) (p : Option Nat) : Prop :=
  (u = -1 ∧ p = none) ∨ ∃ (n : Nat) (j : Nat) (x : Kn), u = n ∧ p = some j ∧ j < w.heap.size ∧ j ∉ S ∧ L[n]? = some x ∧ w.cell? ⟨j, 0, none⟩ = some (.iface 3 (.int .i64 x.key))
theorem onlyCell {S : List Nat} {w w' : World} {a : Addr} (h : Only S w w') (hb : a.block < w.heap.size) (hs : a.block ∉ S) : w'.cell? a = w.cell? a := World.cell?_of_block (h.block _ hb hs)
/-- The row's block is one of a list, or new. -/
def OwnIn (w : World) (S : List Nat) (A : Option Addr) : Prop := ∀ a, A = some a → a.block ∈ S ∨ w.heap.size ≤ a.block
theorem onlyGrown {S : List Nat} {u w w' : World} {A : Option Addr} {n cap : Nat} (h : Only S u w) (hg : OwnIn u S A) (gr : w.grownBy w' (Value.slice A n cap).ownBlock) : Only S u w' :=
  ⟨gr.os.trans h.os, gr.tape.trans h.tape, gr.output.trans h.output, Nat.le_trans h.size gr.size, fun b hb hs => (gr.block b (Nat.lt_of_lt_of_le hb h.size) (by
    intro e
    cases A with
    | none => simp [Value.ownBlock] at e
    | some a =>
      simp only [Value.ownBlock, Option.some.injEq] at e
      rcases hg a rfl with h1 | h1
      · exact hs (e ▸ h1)
      · omega)).trans (h.block b hb hs)⟩
theorem ownIn_new {S : List Nat} {u w : World} {A A' : Option Addr} {n cap n' cap' : Nat} (h : Only S u w) (hg : OwnIn u S A) (ob : (Value.slice A' n' cap').ownBlock = (Value.slice A n cap).ownBlock ∨ (Value.slice A' n' cap').ownBlock = some w.heap.size) : OwnIn u S A' := by
  intro a ha
  subst ha
  simp only [Value.ownBlock, Option.some.injEq] at ob
  rcases ob with e | e
  · cases A with
    | none => simp at e
    | some b => simp only [Option.some.injEq] at e; rw [e]; exact hg b rfl
  · right; have := h.size; omega
end Go.Proofs.Ytmhkknobgcdkkaa
