import Derived.Test.YtjjolokeceldmaaGreatRows0
import Derived.Laws.StructEq
namespace Go.Proofs.YtjjolokeceldmaaGreat
open Go.RowKit
def seenCells (l : List (Option (Int × Int))) : List Value := l.flatMap fun x => match x with
 | some p => [.bool true, .int .i64 p.1, .int .i64 p.2]
 | none => [.bool false, .int .i64 0, .int .i64 0]
theorem seenCells_append (l r : List (Option (Int × Int))) : seenCells (l ++ r) = seenCells l ++ seenCells r := by simp [seenCells]
theorem seenCells_one (l : List (Option (Int × Int))) : ∀ u ∈ seenCells l, u.oneCell' = true := by
 intro u hu
 simp only [seenCells, List.mem_flatMap] at hu
 obtain ⟨x, _, hx⟩ := hu
 cases x <;> simp at hx <;> rcases hx with rfl | rfl | rfl <;> rfl
theorem seen_info : (Tryz.prog.info? 46).map (fun i => (i.zero, i.size, i.bytes)) = some (some (.agg #[.bool false, .int .i64 0, .int .i64 0]), 3, 24) := by kernel_rfl
theorem seenCells_get {l : List (Option (Int × Int))} {i : Nat} (h : i < l.length) : ∃ (b : Bool) (x y : Int), (seenCells l)[i * 3]? = some (.bool b) ∧ (seenCells l)[i * 3 + 1]? = some (.int .i64 x) ∧ (seenCells l)[i * 3 + 2]? = some (.int .i64 y) := by
 induction l generalizing i with
 | nil => simp at h
 | cons x l ih =>
   have hx : ∃ (b : Bool) (u v : Int), seenCells [x] = [.bool b, .int .i64 u, .int .i64 v] := by
    cases x with
    | none => exact ⟨false, 0, 0, rfl⟩
    | some p => exact ⟨true, p.1, p.2, rfl⟩
   obtain ⟨b, u, v, hx⟩ := hx
   have e : seenCells (x :: l) = [.bool b, .int .i64 u, .int .i64 v] ++ seenCells l := by rw [show x :: l = [x] ++ l from rfl, seenCells_append, hx]
   cases i with
   | zero => exact ⟨b, u, v, by rw [e]; rfl, by rw [e]; rfl, by rw [e]; rfl⟩
   | succ i =>
     simp at h
     obtain ⟨b', u', v', g0, g1, g2⟩ := ih h
     have ee : ∀ j, (seenCells (x :: l))[(i + 1) * 3 + j]? = (seenCells l)[i * 3 + j]? := fun j => by
      rw [e, show (i + 1) * 3 + j = (i * 3 + j) + 3 by omega]; simp
     exact ⟨b', u', v', (ee 0).trans g0, (ee 1).trans g1, (ee 2).trans g2⟩
theorem RowAt.seen {w : World} {B : Nat} {A : Option Addr} {l : List (Option (Int × Int))} (h : RowAt w B A (seenCells l)) {i : Nat} {b : Bool} {x y : Int} (g0 : (seenCells l)[i * 3]? = some (.bool b)) (g1 : (seenCells l)[i * 3 + 1]? = some (.int .i64 x)) (g2 : (seenCells l)[i * 3 + 2]? = some (.int .i64 y)) :
 ∃ a, A = some a ∧ w.cell? (a.add (i * 3)) = some (.bool b) ∧ w.cell? ⟨(a.add (i * 3)).block, (a.add (i * 3)).off + 1, none⟩ = some (.int .i64 x) ∧ w.cell? ⟨(a.add (i * 3)).block, (a.add (i * 3)).off + 2, none⟩ = some (.int .i64 y) := by
 obtain ⟨a, rfl, _, h0⟩ := h _ _ g0
 obtain ⟨a1, ha1, _, h1⟩ := h _ _ g1
 obtain ⟨a2, ha2, _, h2⟩ := h _ _ g2
 injection ha1 with ha1; injection ha2 with ha2
 subst ha1 ha2
 exact ⟨a, rfl, h0, by rw [← add_succ _ _ _ (by omega)]; exact h1, by rw [← add_succ _ _ _ (by omega)]; exact h2⟩
theorem seen_neq (b : Bool) (x y : Int) (w : World) : (binOp .neq 46 (.agg #[.bool b, .int .i64 x, .int .i64 y]) (.agg #[.bool b, .int .i64 x, .int .i64 y])).run Tryz.prog w = .ok (.bool false) w := by
 have u3 := Tryz.underlying3
 have u4 := Tryz.underlying4
 have a3 := Tryz.isAgg3
 have z3 := Tryz.sizeOf3
 have a4 := Tryz.isAgg4
 have z4 := Tryz.sizeOf4
 have hS : Tryz.prog.underlying 46 = some (.struct (Tryz.prog.fieldsOf 46)) := by kernel_rfl
 have hp : Tryz.prog.stoodInHeld 46 = false := by kernel_rfl
 rw [run_neq_struct, show (10000 : Nat) = 9999 + 1 from rfl, run_equalIn_agg w 9999 46 _ _ hS hp]
 simp only [Program.fieldsOf, Tryz.underlying46]
 go_simp
end Go.Proofs.YtjjolokeceldmaaGreat
