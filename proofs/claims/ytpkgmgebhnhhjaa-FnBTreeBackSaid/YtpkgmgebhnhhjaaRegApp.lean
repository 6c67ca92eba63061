/-
  append onto a row of the call's own as one step of a region that draws its order; slices of rows; two rows side by side.
-/
import Derived.Test.YtpkgmgebhnhhjaaRows0
import Derived.Test.YtpkgmgebhnhhjaaSpecCmp
namespace Go.Proofs.Ytpkgmgebhnhhjaa
open Go.RowKit
/-- The tail of a row of pairs as a source; where there is none the address does not matter. -/
theorem src_tail {w : World} {B : Nat} {a a' : Addr} {L : KV} {j m c : Nat} (h : RowAt w B (some a) (prCells L)) (hm : m = L.length - j) (ha : a' = a.add (j * 2) ∨ L.length ≤ j) : Src w 2 (some a') m c (prCells (L.drop j)) := by
  refine ⟨by rw [prCells_length, List.length_drop, hm], (fun h => by cases h), fun b hb i u hu => ?_⟩
  injection hb with hb
  subst hb
  rcases ha with rfl | ha
  · rw [prCells_drop] at hu
    obtain ⟨b, hb, _, hc⟩ := h.drop (j * 2) i u hu
    injection hb with hb
    subst hb
    exact hc
  · rw [List.drop_of_length_le ha] at hu
    simp [prCells] at hu
theorem src_head {w : World} {B : Nat} {a : Addr} {L : KV} {j c : Nat} (h : RowAt w B (some a) (prCells L)) (hj : j ≤ L.length) : Src w 2 (some a) j c (prCells (L.take j)) := by
  rw [prCells_take]
  exact RowAt.src (h.take _) (by rw [List.length_take, prCells_length]; omega) (by simp)
theorem pr_info : (Try.prog.info? 54).map (fun i => (i.zero, i.size, i.bytes)) = some (some (.agg #[.int .i64 0, .int .i64 0]), 2, 16) := by kernel_rfl

end Go.Proofs.Ytpkgmgebhnhhjaa
