/-
  What the thin package is handed: the order, the list of acts.
-/
import Derived.Test.YtpmikeeeocnfnaaCmp
namespace Go.Proofs.Ytpmikeeeocnfnaa
open Go.RowKit

/-- A slice of acts that reads as a list; below block B. -/
def ActsAt (w : World) (B : Nat) (A : Option Addr) (acts : List Do) : Prop :=
  ∀ (i : Nat) (d : Do), acts[i]? = some d → ∃ a, A = some a ∧ a.block < B ∧ w.cell? (a.add (i * 3)) = some (.int .i64 d.op) ∧ w.cell? (a.add (i * 3 + 1)) = some (.int .i64 d.key) ∧ w.cell? (a.add (i * 3 + 2)) = some (.int .i64 d.val)

theorem block_of_add (a : Addr) (n : Nat) : (a.add n).block = a.block := by unfold Addr.add; split <;> rfl
theorem add_of_add (a : Addr) (i j : Nat) : (a.add i).add j = a.add (i + j) := by
  unfold Addr.add
  by_cases hi : i = 0 <;> by_cases hj : j = 0 <;> simp [hi, hj, Nat.add_assoc]
theorem add_succ (a : Addr) (m j : Nat) (hj : j ≠ 0) : a.add (m + j) = ⟨(a.add m).block, (a.add m).off + j, none⟩ := by
  rw [← add_of_add]; unfold Addr.add; rw [if_neg hj]
/-- An act's cells, as the walk spells them. -/
theorem ActsAt.at_ {w : World} {B : Nat} {A : Option Addr} {acts : List Do} (h : ActsAt w B A acts) {i : Nat} (hi : i < acts.length) : ∃ a d, A = some a ∧ a.block < B ∧ acts[i]? = some d ∧ w.cell? (a.add (i * 3)) = some (.int .i64 d.op) ∧
    w.cell? ⟨(a.add (i * 3)).block, (a.add (i * 3)).off + 1, none⟩ = some (.int .i64 d.key) ∧ w.cell? ⟨(a.add (i * 3)).block, (a.add (i * 3)).off + 2, none⟩ = some (.int .i64 d.val) := by
  obtain ⟨a, e, hb, h0, h1, h2⟩ := h i acts[i] (List.getElem?_eq_getElem hi)
  exact ⟨a, acts[i], e, hb, List.getElem?_eq_getElem hi, h0, by rw [← add_succ _ _ _ (by omega)]; exact h1, by rw [← add_succ _ _ _ (by omega)]; exact h2⟩
theorem ActsAt.keep {w w' : World} {B : Nat} {A : Option Addr} {acts : List Do} (h : ActsAt w B A acts) (k : ∀ p : Addr, p.block < B → w'.cell? p = w.cell? p) : ActsAt w' B A acts := fun i d hd => by
  obtain ⟨a, e, hb, h0, h1, h2⟩ := h i d hd
  exact ⟨a, e, hb, (k _ (by rw [block_of_add]; exact hb)).trans h0, (k _ (by rw [block_of_add]; exact hb)).trans h1, (k _ (by rw [block_of_add]; exact hb)).trans h2⟩
theorem ActsAt.below {w w' : World} {B : Nat} {A : Option Addr} {acts : List Do} (h : ActsAt w B A acts) (k : Below B w w') : ActsAt w' B A acts := h.keep fun _ hp => k.cell hp
theorem ActsAt.more {w : World} {B C : Nat} {A : Option Addr} {acts : List Do} (h : ActsAt w B A acts) (hC : B ≤ C) : ActsAt w C A acts := fun i d hd => by
  obtain ⟨a, e, hb, h0, h1, h2⟩ := h i d hd
  exact ⟨a, e, by omega, h0, h1, h2⟩

end Go.Proofs.Ytpmikeeeocnfnaa
