/- For every order and every list of acts: the heights of both sides of each node differ by at most one. No condition. -/
import Derived.Test.YtobeedekbhpbdaaKeptBAvl
import Derived.Test.YtobeedekbhpbdaaAvlShape
import Derived.Test.YtobeedekbhpbdaaSpecBal
import Derived.Test.YtobeedekbhpbdaaSpecFine
import Derived.Deep.RegionHeld3
import Derived.IntWalk
namespace Go.Proofs.Ytobeedekbhpbdaa
open Go.RowKit

theorem Avl.ht_height (t : BT) : Avl.ht t = t.height := by
  induction t with
  | nil => rfl
  | node i l k v b r ihl ihr => simp only [Avl.ht, BT.height, ihl, ihr]
theorem Avl.all {t : BT} (h : Avl.ok t) : t.All (fun l r => (l.height : Int) - r.height ≤ 1 ∧ (r.height : Int) - l.height ≤ 1) := by
  induction t with
  | nil => trivial
  | node i l k v b r ihl ihr =>
    obtain ⟨h1, h2, h3, h4, h5⟩ := h
    rw [Avl.ht_height, Avl.ht_height] at h3
    exact ⟨⟨by omega, by omega⟩, ihl h1, ihr h2⟩

set_option maxHeartbeats 4000000 in
set_option maxRecDepth 100000 in
theorem lawAVLBalance_walk (o : Ord) (cap : Nat) (A : Option Addr) (acts : List Do) (w : World) (hA : A = none → acts.length = 0 ∧ cap = 0) (ha : ActsAt w w.heap.size A acts) :
    Calls Try.prog 3 #[.agg #[.int .i64 o.kind, .int .i64 o.m], .slice A acts.length cap] w fun e w' => e = .returned (.bool true) ∧ Below w.heap.size w w' := by
  have Ha := Lib.hid ha
  have HA := Lib.hid hA
  clear ha hA
  by_cases h0 : 2147483647 < acts.length
  · go_enter Try.func3, Try.ntmps3
    go_wp2_with fail
    go_ret
    exact ⟨rfl, (Below.refl _ _).alloc (Nat.le_refl _) _⟩
  by_cases hp : ¬ o.fine
  · go_enter Try.func3, Try.ntmps3
    go_wp2_with fail
    refine (fine_no o hp _).mono ?_
    rintro e w1 ⟨rfl, rfl⟩
    go_wp2_with fail
    go_ret
    exact ⟨rfl, ((Below.refl _ _).alloc (Nat.le_refl _) _).alloc (by simp) _⟩
  replace hp := Classical.not_not.1 hp
  by_cases h3 : 300 < acts.length
  · go_enter Try.func3, Try.ntmps3
    go_wp2_with fail
    refine (fine_yes o hp _).mono ?_
    rintro e w1 ⟨rfl, rfl⟩
    go_wp2_with fail
    go_ret
    exact ⟨rfl, ((Below.refl _ _).alloc (Nat.le_refl _) _).alloc (by simp) _⟩
  have Fi := Lib.hid (show o.fine from hp)
  have L3 := Lib.hid h3
  have q0 := run_length_le o acts
  have RL := Lib.hid (show (run o acts).length ≤ 1000 by omega)
  clear q0
  go_enter Try.func3, Try.ntmps3
  go_wp2_with fail
  refine (fine_yes o hp _).mono ?_
  rintro e w1 ⟨rfl, rfl⟩
  have K := Lib.hid (Kept.start o Ha.out)
  generalize (w.alloc (.cells #[.int .i64 o.kind, .int .i64 o.m] 23)).alloc (.cells #[.int .i64 o.kind, .int .i64 o.m] 23) = w1 at *
  obtain ⟨hc0, hc1⟩ := K.out.c
  have CS := Lib.hid (implAVLShape_walk o Fi.out acts.length cap A acts w1 rfl (by have := L3.out; omega) ((K.out.rows (A, actCells acts) (by simp)).acts.more K.out.le))
  go_wp2_with fail
  refine CS.out.mono ?_
  rintro e w2 ⟨t, A', cap', rfl, own, hk, hok, b⟩
  have hct : t.count ≤ 1000 := by have := BT.kvs_length t; rw [hk] at this; have := RL.out; omega
  have CB := Lib.hid (balanced_walk t cap' A' w2 t.count rfl (by omega) (Avl.all hok) (RowAt.of_own own))
  have K2 := Lib.hid (K.out.on b)
  clear own hk hok b hct CS hc0 hc1
  go_wp2_with fail
  refine CB.out.mono ?_
  rintro e w3 ⟨rfl, b3⟩
  have K3 := Lib.hid (K2.out.on b3)
  clear b3 CB
  go_wp2_with fail
  refine (keptGrows K3.out).mono ?_
  rintro e w4 ⟨rfl, k⟩
  have K4 := Lib.hid k
  clear k
  go_wp2_with fail
  go_ret
  exact ⟨rfl, K4.out.below⟩

end Go.Proofs.Ytobeedekbhpbdaa
