/-
  A row of moves that is filled from its first one on; what a walk of such moves tells.
-/
import Derived.Test.YtpkgmgebhnhhjaaKeptBase
import Derived.Test.YtpkgmgebhnhhjaaPures
import Derived.Test.YtpkgmgebhnhhjaaSeen
import Derived.Laws.MakeOwn
namespace Go.Proofs.Ytpkgmgebhnhhjaa
open Go.RowKit

theorem mv_info : (Try.prog.info? 65).map (fun i => (i.zero, i.size, i.bytes)) = some (some (.agg #[.int .i64 0, .int .i64 0, .int .i64 0]), 3, 24) := by kernel_rfl
/-- The first k of N moves are op, the others nothing. -/
def mvRow (op : Int) (N k : Nat) : List Do := List.replicate k ⟨op, 0, 0⟩ ++ List.replicate (N - k) ⟨0, 0, 0⟩
theorem mvRow_length (op : Int) {N k : Nat} (h : k ≤ N) : (mvRow op N k).length = N := by simp [mvRow]; omega
theorem mvRow_all (op : Int) (N : Nat) : mvRow op N N = List.replicate N ⟨op, 0, 0⟩ := by simp [mvRow]
theorem cells_zero : ∀ (n i : Nat) (_ : i < n * 3), (actCells (List.replicate n (⟨0, 0, 0⟩ : Do)))[i]? = some (.int .i64 0) := by
  intro n
  induction n with
  | zero => intro i h; omega
  | succ n ih =>
    intro i h
    have e1 : actCells (List.replicate (n + 1) (⟨0, 0, 0⟩ : Do)) = [.int .i64 0, .int .i64 0, .int .i64 0] ++ actCells (List.replicate n ⟨0, 0, 0⟩) := by rw [List.replicate_succ, show (⟨0, 0, 0⟩ : Do) :: List.replicate n ⟨0, 0, 0⟩ = [⟨0, 0, 0⟩] ++ List.replicate n ⟨0, 0, 0⟩ from rfl, actCells_append]; rfl
    rw [e1]
    match i, h with
    | 0, _ => rfl
    | 1, _ => rfl
    | 2, _ => rfl
    | i + 3, h =>
      rw [List.getElem?_append_right (by simp)]
      exact ih _ (by simp only [List.length_cons, List.length_nil]; omega)
theorem mvRow_zero (op : Int) (N : Nat) : (actCells (mvRow op N 0)).toArray = madeCells #[.int .i64 0, .int .i64 0, .int .i64 0] (N * 3) := by
  have e : mvRow op N 0 = List.replicate N ⟨0, 0, 0⟩ := by simp [mvRow]
  rw [e]
  have hl : (actCells (List.replicate N (⟨0, 0, 0⟩ : Do))).length = N * 3 := by rw [actCells_length]; simp
  apply Array.ext
  · rw [size_madeCells, List.size_toArray, hl]
  · intro i h1 h2
    rw [size_madeCells] at h2
    have hc := cells_zero N i h2
    have h4 : i % 3 < 3 := Nat.mod_lt _ (by omega)
    rw [List.getElem_toArray]
    have e5 := (List.getElem?_eq_some_iff.1 hc).2
    rw [e5]
    simp only [madeCells, Array.getElem_map, Array.getElem_range, List.size_toArray, List.length_cons, List.length_nil]
    show _ = #[Value.int IntKind.i64 0, Value.int IntKind.i64 0, Value.int IntKind.i64 0][i % 3]!
    match i % 3, h4 with
    | 0, _ => rfl
    | 1, _ => rfl
    | 2, _ => rfl
theorem mvRow_set {op : Int} {N k : Nat} (h : k < N) : (actCells (mvRow op N k)).toArray.setIfInBounds (k * 3) (.int .i64 op) = (actCells (mvRow op N (k + 1))).toArray := by
  rw [List.setIfInBounds_toArray]
  congr 1
  have e0 : N - k = (N - (k + 1)) + 1 := by omega
  have e1 : (actCells (List.replicate k (⟨op, 0, 0⟩ : Do))).length = k * 3 := by rw [actCells_length]; simp
  unfold mvRow
  rw [e0, List.replicate_succ, actCells_append, List.set_append_right _ _ (by omega), e1, Nat.sub_self, List.replicate_succ', List.append_assoc]
  rw [actCells_append (List.replicate k _)]
  congr 1
theorem mvRow_cell {op : Int} {N k : Nat} (h : k < N) : ∃ x, (actCells (mvRow op N k))[k * 3]? = some (.int .i64 x) := by
  have hk : k < (mvRow op N k).length := by rw [mvRow_length _ (by omega)]; exact h
  obtain ⟨g0, _, _⟩ := actCells_get (List.getElem?_eq_getElem hk)
  exact ⟨_, g0⟩
/-- The first one may be another. -/
theorem mvRow_first {op op' : Int} {N : Nat} : (actCells (List.replicate (N + 1) (⟨op, 0, 0⟩ : Do))).toArray.setIfInBounds 0 (.int .i64 op') = (actCells (⟨op', 0, 0⟩ :: List.replicate N ⟨op, 0, 0⟩)).toArray := by
  rw [List.setIfInBounds_toArray, List.replicate_succ]
  congr 1
theorem makeM_run (w : World) (n : Nat) (hn : n ≤ 100000) : (Instr.makeSlice 31 (.int .i64 (n : Int)) (.int .i64 (n : Int))).run Try.prog w = .ok (.slice (some ⟨w.heap.size, 0, none⟩) n n) (w.alloc (.cells (madeCells #[.int .i64 0, .int .i64 0, .int .i64 0] (n * 3)) 65)) := by
  obtain ⟨i0, hi, hz0, hz1, hz2⟩ := info_parts mv_info
  have := run_make (P := Try.prog) w 31 65 i0 (.agg #[.int .i64 0, .int .i64 0, .int .i64 0]) Try.underlying31 hi hz0 .i64 .i64 n n (by omega) (Int.le_refl _) (by rw [hz2]; omega) (by omega)
  simpa [hz1, Value.cells] using this

/-- What is seen at a place of a walk. -/
theorem seen_some {L : List (Option (Int × Int))} {k : Nat} {p : Int × Int} (h : L[k]? = some (some p)) : (seenCells L)[k * 3]? = some (.bool true) ∧ (seenCells L)[k * 3 + 1]? = some (.int .i64 p.1) ∧ (seenCells L)[k * 3 + 2]? = some (.int .i64 p.2) := by
  induction L generalizing k with
  | nil => simp at h
  | cons x L ih =>
    have e : seenCells (x :: L) = seenCells [x] ++ seenCells L := by rw [show x :: L = [x] ++ L from rfl, seenCells_append]
    have hl : (seenCells [x]).length = 3 := by rw [seenCells_length]; rfl
    cases k with
    | zero =>
      simp only [List.getElem?_cons_zero, Option.some.injEq] at h
      subst h
      rw [e]; exact ⟨rfl, rfl, rfl⟩
    | succ k =>
      obtain ⟨h0, h1, h2⟩ := ih (k := k) (by simpa using h)
      rw [e]
      refine ⟨?_, ?_, ?_⟩ <;> (rw [List.getElem?_append_right (by omega), hl])
      · rw [show (k + 1) * 3 - 3 = k * 3 by omega]; exact h0
      · rw [show (k + 1) * 3 + 1 - 3 = k * 3 + 1 by omega]; exact h1
      · rw [show (k + 1) * 3 + 2 - 3 = k * 3 + 2 by omega]; exact h2
theorem seen_none {L : List (Option (Int × Int))} {k : Nat} (h : L[k]? = some none) : (seenCells L)[k * 3]? = some (.bool false) := by
  induction L generalizing k with
  | nil => simp at h
  | cons x L ih =>
    have e : seenCells (x :: L) = seenCells [x] ++ seenCells L := by rw [show x :: L = [x] ++ L from rfl, seenCells_append]
    have hl : (seenCells [x]).length = 3 := by rw [seenCells_length]; rfl
    cases k with
    | zero =>
      simp only [List.getElem?_cons_zero, Option.some.injEq] at h
      subst h
      rw [e]; rfl
    | succ k =>
      rw [e, List.getElem?_append_right (by omega), hl, show (k + 1) * 3 - 3 = k * 3 by omega]
      exact ih (by simpa using h)
theorem fwd_seen (l : KV) {k : Nat} {p : Int × Int} (h : l[k]? = some p) : (walkFrom l 0 (List.replicate (l.length + 1) ⟨1, 0, 0⟩))[k]? = some (some p) := by
  have hk := (List.getElem?_eq_some_iff.1 h).1
  rw [fwd_get l 0 (l.length + 1) k (by omega) (by omega), Nat.zero_add, h]
theorem fwd_last (l : KV) : (walkFrom l 0 (List.replicate (l.length + 1) ⟨1, 0, 0⟩))[l.length]? = some none := by
  rw [fwd_get l 0 (l.length + 1) l.length (by omega) (by omega), Nat.zero_add, List.getElem?_eq_none (Nat.le_refl _)]
theorem bck_walk (l : KV) (n k : Nat) : (walkFrom l 0 (⟨6, 0, 0⟩ :: List.replicate n ⟨2, 0, 0⟩))[k + 1]? = (walkFrom l (l.length + 1) (List.replicate n ⟨2, 0, 0⟩))[k]? := rfl
theorem bck_seen (l : KV) {k : Nat} {p : Int × Int} (hk : k < l.length) (h : l[l.length - 1 - k]? = some p) : (walkFrom l 0 (⟨6, 0, 0⟩ :: List.replicate (l.length + 1) ⟨2, 0, 0⟩))[k + 1]? = some (some p) := by
  rw [bck_walk, bck_get l (l.length + 1) (l.length + 1) k (by omega) (by omega) (by omega)]
  unfold seenAt
  rw [if_neg (by omega), show l.length + 1 - 1 - k - 1 = l.length - 1 - k by omega, h]
theorem bck_last (l : KV) : (walkFrom l 0 (⟨6, 0, 0⟩ :: List.replicate (l.length + 1) ⟨2, 0, 0⟩))[l.length + 1]? = some none := by
  rw [bck_walk, bck_get l (l.length + 1) (l.length + 1) l.length (by omega) (by omega) (by omega)]
  unfold seenAt
  rw [if_pos (by omega)]
end Go.Proofs.Ytpkgmgebhnhhjaa
