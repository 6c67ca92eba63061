/- For every order and every list of acts: its height is at most twice the logarithm of one more than there are nodes. No condition. -/
import Derived.Test.YtmhkknobgcdkkaaKeptBRb
import Derived.Test.YtmhkknobgcdkkaaRbShape
import Derived.Test.YtmhkknobgcdkkaaSpecTreeW
import Derived.Test.YtmhkknobgcdkkaaSpecLow
import Derived.Deep.RegionHeld3
import Derived.IntWalk
namespace Go.Proofs.Ytmhkknobgcdkkaa.Rb
open Go.RowKit Go.Proofs.Ytmhkknobgcdkkaa

set_option maxHeartbeats 4000000 in
set_option maxRecDepth 100000 in
theorem lawRedBlackBalance_walk (o : Ord) (cap : Nat) (A : Option Addr) (acts : List Do) (w : World) (hA : A = none → acts.length = 0 ∧ cap = 0) (ha : ActsAt w w.heap.size A acts) :
    Calls Try.prog 5 #[.agg #[.int .i64 o.kind, .int .i64 o.m], .slice A acts.length cap] w fun e w' => e = .returned (.bool true) ∧ Below w.heap.size w w' := by
  have Ha := Lib.hid ha
  have HA := Lib.hid hA
  clear ha hA
  by_cases h0 : 2147483647 < acts.length
  · go_enter Try.func5, Try.ntmps5
    go_wp2_with fail
    go_ret
    exact ⟨rfl, (Below.refl _ _).alloc (Nat.le_refl _) _⟩
  by_cases hp : ¬ o.plain
  · go_enter Try.func5, Try.ntmps5
    go_wp2_with fail
    refine (plain_no o hp _).mono ?_
    rintro e w1 ⟨rfl, rfl⟩
    go_wp2_with fail
    go_ret
    exact ⟨rfl, ((Below.refl _ _).alloc (Nat.le_refl _) _).alloc (by simp) _⟩
  replace hp := Classical.not_not.1 hp
  by_cases h3 : 300 < acts.length
  · go_enter Try.func5, Try.ntmps5
    go_wp2_with fail
    refine (plain_yes o hp _).mono ?_
    rintro e w1 ⟨rfl, rfl⟩
    go_wp2_with fail
    go_ret
    exact ⟨rfl, ((Below.refl _ _).alloc (Nat.le_refl _) _).alloc (by simp) _⟩
  have Fi := Lib.hid (show o.fine from hp.fine)
  have L3 := Lib.hid h3
  have q0 := run_length_le o acts
  have RL := Lib.hid (show (run o acts).length ≤ 1000 by omega)
  clear q0
  go_enter Try.func5, Try.ntmps5
  go_wp2_with fail
  refine (plain_yes o hp _).mono ?_
  rintro e w1 ⟨rfl, rfl⟩
  have K := Lib.hid (Kept.start o Ha.out)
  generalize (w.alloc (.cells #[.int .i64 o.kind, .int .i64 o.m] 23)).alloc (.cells #[.int .i64 o.kind, .int .i64 o.m] 23) = w1 at *
  obtain ⟨hc0, hc1⟩ := K.out.c
  have CS := Lib.hid (implRedBlackShape_walk o Fi.out acts.length cap A acts w1 rfl (by have := L3.out; omega) ((K.out.rows (A, actCells acts) (by simp)).acts.more K.out.le))
  go_wp2_with fail
  refine CS.out.mono ?_
  rintro e w2 ⟨t, A', cap', rfl, own, hk, hok, b⟩
  have hct : t.count ≤ 1000 := by have := BT.kvs_length t; rw [hk] at this; have := RL.out; omega
  have CT := Lib.hid (tree_walk t t.count cap' A' rfl hct w2 (RowAt.of_own own))
  have K2 := Lib.hid (K.out.on b)
  obtain ⟨lb, hlb1, hlb2⟩ := ok_low hok
  have hh := t.height_le
  have CL := Lib.hid (fun wx : World => low_walk t.height t.count lb wx (by omega) (by omega) hlb1 hlb2)
  clear own hk hok b hct CS hc0 hc1 hlb1 hlb2 hh
  go_wp2_with fail
  refine CT.out.mono ?_
  rintro e w3 ⟨A1, c1, A2, c2, rfl, _, _, b3⟩
  have K3 := Lib.hid ((K2.out.on b3).alloc (.cells #[.slice A1 t.count c1, .slice A2 t.count c2, .int .i64 0, .bool false] 33))
  clear b3 CT
  generalize t.height = hh at *
  generalize t.count = n at *
  have hh0 : (0 : Int) ≤ (hh : Int) := by omega
  go_wp2_with fail
  refine (CL.out _).mono ?_
  rintro e w4 ⟨rfl, rfl⟩
  go_wp2_with fail
  refine (keptGrows K3.out).mono ?_
  rintro e w4 ⟨rfl, k⟩
  have K4 := Lib.hid k
  clear k
  go_wp2_with fail
  go_ret
  exact ⟨rfl, K4.out.below⟩

end Go.Proofs.Ytmhkknobgcdkkaa.Rb
