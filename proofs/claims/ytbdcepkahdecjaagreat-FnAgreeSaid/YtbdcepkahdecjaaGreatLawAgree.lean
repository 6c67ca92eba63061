/- For every order and every list of acts: all three trees tell the same of themselves. No condition. -/
import Derived.Test.YtbdcepkahdecjaaGreatKeptBase
import Derived.Test.YtbdcepkahdecjaaGreatRbIts
import Derived.Test.YtbdcepkahdecjaaGreatAvlTops
import Derived.Test.YtbdcepkahdecjaaGreatBtStates
import Derived.Test.YtbdcepkahdecjaaGreatSpecSameS
import Derived.Test.YtbdcepkahdecjaaGreatSpecFine
import Derived.Deep.RegionHeld3
import Derived.IntWalk
namespace Go.Proofs.YtbdcepkahdecjaaGreat
open Go.RowKit

section
variable {w0 w w' : World} {g B C : Nat} {o : Ord} {rows : List (Option Addr × List Value)} {sts : List (Value × KV)}
theorem keptSame (h : Kept w0 g o rows sts B w) (v1 v2 : Value) (l : KV) (hl : l.length ≤ 100000) (h1 : (v1, l) ∈ sts) (h2 : (v2, l) ∈ sts) :
    Calls Tryz.prog 6 #[v1, v2] w fun e w' => e = .returned (.bool true) ∧ Kept w0 g o rows sts w'.heap.size w' := by
  refine (sameState_yes l w v1 v2 _ _ hl (h.sts _ h1) (h.sts _ h2) h.le h.le).mono ?_
  rintro e w' ⟨rfl, b⟩
  exact ⟨rfl, h.on b⟩
theorem keptStateA (h : Kept w0 g o rows sts B w) (ho : o.fine) (A : Option Addr) (acts : List Do) (n cap : Nat) (hn : acts.length = n) (hn1 : n ≤ 1000) (hm2 : (A, actCells acts) ∈ rows) :
    Calls Tryz.prog 7 #[.agg #[.int .i64 o.kind, .int .i64 o.m], .slice A n cap] w fun e w' => ∃ v, e = .returned v ∧ Kept w0 g o rows ((v, run o acts) :: sts) w'.heap.size w' := by
  refine (implAVLState_walk o ho n cap A acts w hn hn1 ((h.rows _ hm2).acts.more h.le)).mono ?_
  rintro e w' ⟨v, rfl, hs, b⟩
  exact ⟨v, rfl, (h.on b).st hs.at_⟩
theorem keptStateB (m : Int) (hm : 3 ≤ m ∧ m ≤ 64) (h : Kept w0 g o rows sts B w) (ho : o.fine) (A : Option Addr) (acts : List Do) (n cap : Nat) (hn : acts.length = n) (hn1 : n ≤ 1000) (hm2 : (A, actCells acts) ∈ rows) :
    Calls Tryz.prog 8 #[.int .i64 m, .agg #[.int .i64 o.kind, .int .i64 o.m], .slice A n cap] w fun e w' => ∃ v, e = .returned v ∧ Kept w0 g o rows ((v, run o acts) :: sts) w'.heap.size w' := by
  refine (Bt.implBTreeState_walk m hm o ho n cap A acts w hn hn1 ((h.rows _ hm2).acts.more h.le)).mono ?_
  rintro e w' ⟨v, rfl, hs, b⟩
  exact ⟨v, rfl, (h.on b).st hs.at_⟩
theorem Kept.drewL (h : Kept w0 g o rows sts B w) : Kept w0 g o rows sts B w.drew := h.next (C := B) ⟨rfl, rfl, rfl, Nat.le_refl _, fun _ _ => rfl⟩ (Nat.le_refl _)
/-- A state in a block of its own, as one of the rows that are kept. -/
theorem Kept.stRow {v1 v2 v3 v4 : Value} (h : Kept w0 g o rows sts w.heap.size w) : Kept w0 g o ((some ⟨w.heap.size, 0, none⟩, [v1, v2, v3, v4]) :: rows) sts (w.alloc (.cells #[v1, v2, v3, v4] 28)).heap.size (w.alloc (.cells #[v1, v2, v3, v4] 28)) :=
  ((h.alloc _).up (by simp) (Nat.le_refl _)).row (RowAt.of_blk (Blk.new w 28 #[v1, v2, v3, v4]))
theorem Kept.stCells {tb : Nat} {v1 v2 v3 v4 : Value} (h : Kept w0 g o ((some ⟨tb, 0, none⟩, [v1, v2, v3, v4]) :: rows) sts B w) : w.cell? ⟨g, 0, none⟩ = some (.int .i64 o.kind) ∧ w.cell? ⟨g, 1, none⟩ = some (.int .i64 o.m) ∧ w.cell? ⟨tb, 0, none⟩ = some v1 ∧ w.cell? ⟨tb, 1, none⟩ = some v2 ∧ w.cell? ⟨tb, 2, none⟩ = some v3 ∧ w.cell? ⟨tb, 3, none⟩ = some v4 := by
  have r : ∀ j u, [v1, v2, v3, v4][j]? = some u → w.cell? ⟨tb, j, none⟩ = some u := fun j u hu => by
    obtain ⟨a, ha, _, hc⟩ := h.rows _ (List.mem_cons_self ..) j u hu
    injection ha with ha
    subst ha
    rwa [add_at] at hc
  exact ⟨h.c.1, h.c.2, r 0 _ rfl, r 1 _ rfl, r 2 _ rfl, r 3 _ rfl⟩
end

set_option maxHeartbeats 4000000 in
set_option maxRecDepth 100000 in
theorem lawAgree_walk (m : Int) (o : Ord) (cap : Nat) (A : Option Addr) (acts : List Do) (w : World) (hA : A = none → acts.length = 0 ∧ cap = 0) (ha : ActsAt w w.heap.size A acts) :
    Calls Tryz.prog 3 #[.int .i64 m, .agg #[.int .i64 o.kind, .int .i64 o.m], .slice A acts.length cap] w fun e w' => e = .returned (.bool true) ∧ Below w.heap.size w w' := by
  have Ha := Lib.hid ha
  have HA := Lib.hid hA
  clear ha hA
  by_cases h0 : 2147483647 < acts.length
  · go_enter Tryz.func3, Tryz.ntmps3
    go_wp2_with fail
    go_ret
    exact ⟨rfl, (Below.refl _ _).alloc (Nat.le_refl _) _⟩
  by_cases hm1 : m < 3
  · go_enter Tryz.func3, Tryz.ntmps3
    go_wp2_with fail
    go_ret
    exact ⟨rfl, (Below.refl _ _).alloc (Nat.le_refl _) _⟩
  by_cases hm2 : 64 < m
  · have hm1' : ¬ m < 3 := hm1
    go_enter Tryz.func3, Tryz.ntmps3
    go_wp2_with fail
    go_ret
    exact ⟨rfl, (Below.refl _ _).alloc (Nat.le_refl _) _⟩
  have hm : 3 ≤ m ∧ m ≤ 64 := ⟨by omega, by omega⟩
  by_cases hp : ¬ o.fine
  · go_enter Tryz.func3, Tryz.ntmps3
    go_wp2_with fail
    refine (fine_no o hp _).mono ?_
    rintro e w1 ⟨rfl, rfl⟩
    go_wp2_with fail
    go_ret
    exact ⟨rfl, ((Below.refl _ _).alloc (Nat.le_refl _) _).alloc (by simp) _⟩
  replace hp := Classical.not_not.1 hp
  by_cases h3 : 300 < acts.length
  · go_enter Tryz.func3, Tryz.ntmps3
    go_wp2_with fail
    refine (fine_yes o hp _).mono ?_
    rintro e w1 ⟨rfl, rfl⟩
    go_wp2_with fail
    go_ret
    exact ⟨rfl, ((Below.refl _ _).alloc (Nat.le_refl _) _).alloc (by simp) _⟩
  have Fi := Lib.hid (show o.fine from hp)
  have L3 := Lib.hid h3
  have q0 := run_length_le o acts
  have RL := Lib.hid (show (run o acts).length ≤ 1000 by omega)
  clear q0
  go_enter Tryz.func3, Tryz.ntmps3
  go_wp2_with fail
  refine (fine_yes o hp _).mono ?_
  rintro e w1 ⟨rfl, rfl⟩
  have K := Lib.hid (Kept.start o Ha.out)
  generalize (w.alloc (.cells #[.int .i64 o.kind, .int .i64 o.m] 23)).alloc (.cells #[.int .i64 o.kind, .int .i64 o.m] 23) = w1 at *
  obtain ⟨hc0, hc1⟩ := K.out.c
  go_wp2_with fail
  refine (Rb.keptState K.out Fi.out A acts acts.length cap rfl (by have := L3.out; omega) (by simp)).mono ?_
  rintro e wy ⟨v1, rfl, k⟩
  have hs : StateAt wy wy.heap.size v1 (run o acts) := k.sts (v1, run o acts) (by simp)
  obtain ⟨A1, c1, A2, c2, hv, _, _⟩ := hs
  subst hv
  have K := Lib.hid k
  clear k hc0 hc1
  go_wp2_with fail
  have K := Lib.hid (K.out.stRow (v1 := .slice A1 (run o acts).length c1) (v2 := .slice A2 (run o acts).length c2) (v3 := .int .i64 ((run o acts).length : Int)) (v4 := .bool (((run o acts).length : Int) == 0)))
  generalize hx1 : (Value.slice A1 (run o acts).length c1) = x1 at *
  generalize hx2 : (Value.slice A2 (run o acts).length c2) = x2 at *
  generalize hx3 : (Value.int .i64 ((run o acts).length : Int)) = x3 at *
  generalize hx4 : (Value.bool (((run o acts).length : Int) == 0)) = x4 at *
  clear hx1 hx2 hx3 hx4
  generalize hw2 : wy.alloc (.cells #[x1, x2, x3, x4] 28) = w2 at *
  clear hw2
  generalize wy.heap.size = tb at *
  have K := Lib.hid K.out.drewL
  go_region_held3 (fun w' => w'.cell? ⟨w.heap.size, 0, none⟩ = some (.int .i64 o.kind) ∧ w'.cell? ⟨w.heap.size, 1, none⟩ = some (.int .i64 o.m) ∧ w'.cell? ⟨tb, 0, none⟩ = some x1 ∧ w'.cell? ⟨tb, 1, none⟩ = some x2 ∧ w'.cell? ⟨tb, 2, none⟩ = some x3 ∧ w'.cell? ⟨tb, 3, none⟩ = some x4) (exact K.out.stCells)
    (first
      | (go_at_call_of 7 (A : Option Addr); refine (keptStateA K.out Fi.out A acts acts.length cap ?_ ?_ ?_).mono ?_; (simp); (have := L3.out; first | omega | (simp; omega)); (simp); rintro e wy ⟨v2, rfl, k⟩; have K := Lib.hid k; clear k)
      | (go_at_call_of 8 (A : Option Addr); refine (keptStateB m hm K.out Fi.out A acts acts.length cap ?_ ?_ ?_).mono ?_; (simp); (have := L3.out; first | omega | (simp; omega)); (simp); rintro e wy ⟨v3, rfl, k⟩; have K := Lib.hid k; clear k)
      | (go_at_call_of 6 (v3 : Value); refine (keptSame K.out (.agg #[x1, x2, x3, x4]) v3 (run o acts) (by have := RL.out; omega) ?_ ?_).mono ?_; (simp); (simp); rintro e wy ⟨rfl, k⟩; have K := Lib.hid k; clear k)
      | (go_at_call_of 6 (v2 : Value); refine (keptSame K.out (.agg #[x1, x2, x3, x4]) v2 (run o acts) (by have := RL.out; omega) ?_ ?_).mono ?_; (simp); (simp); rintro e wy ⟨rfl, k⟩; have K := Lib.hid k; clear k)
      | (go_at_call 9; refine (Rb.keptGrows K.out).mono ?_; rintro e wy ⟨rfl, k⟩; have K := Lib.hid k; clear k)
    )
  all_goals
    go_wp2_with fail
    go_ret
    exact ⟨rfl, by first | exact K.out.below | exact K.out.drewL.below⟩

end Go.Proofs.YtbdcepkahdecjaaGreat
