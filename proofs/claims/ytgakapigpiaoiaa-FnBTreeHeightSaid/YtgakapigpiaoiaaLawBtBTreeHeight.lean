/- For every order of 3 to 64 children, every order of keys and every list of acts: its height is what the counter of its nodes tells. No condition. -/
import Derived.Test.YtgakapigpiaoiaaBtStates
import Derived.Test.YtgakapigpiaoiaaSpecBlocks
import Derived.Test.YtgakapigpiaoiaaBtHgt
import Derived.Test.YtgakapigpiaoiaaSpecFine
import Derived.Deep.RegionHeld3
import Derived.IntWalk
namespace Go.Proofs.Ytgakapigpiaoiaa.Bt
open Go.RowKit Go.Proofs.Ytgakapigpiaoiaa

set_option maxHeartbeats 4000000 in
set_option maxRecDepth 100000 in
theorem lawBTreeHeight_walk (m : Int) (o : Ord) (cap : Nat) (A : Option Addr) (acts : List Do) (w : World) (hA : A = none → acts.length = 0 ∧ cap = 0) (ha : ActsAt w w.heap.size A acts) :
    Calls Try.prog 6 #[.int .i64 m, .agg #[.int .i64 o.kind, .int .i64 o.m], .slice A acts.length cap] w fun e w' => e = .returned (.bool true) ∧ Below w.heap.size w w' := by
  have Ha := Lib.hid ha
  have HA := Lib.hid hA
  clear ha hA
  by_cases h0 : 2147483647 < acts.length
  · go_enter Try.func6, Try.ntmps6
    go_wp2_with fail
    go_ret
    exact ⟨rfl, (Below.refl _ _).alloc (Nat.le_refl _) _⟩
  by_cases hm1 : m < 3
  · go_enter Try.func6, Try.ntmps6
    go_wp2_with fail
    go_ret
    exact ⟨rfl, (Below.refl _ _).alloc (Nat.le_refl _) _⟩
  by_cases hm2 : 64 < m
  · have hm1' : ¬ m < 3 := hm1
    go_enter Try.func6, Try.ntmps6
    go_wp2_with fail
    go_ret
    exact ⟨rfl, (Below.refl _ _).alloc (Nat.le_refl _) _⟩
  have hm : 3 ≤ m ∧ m ≤ 64 := ⟨by omega, by omega⟩
  by_cases hp : ¬ o.fine
  · go_enter Try.func6, Try.ntmps6
    go_wp2_with fail
    refine (fine_no o hp _).mono ?_
    rintro e w1 ⟨rfl, rfl⟩
    go_wp2_with fail
    go_ret
    exact ⟨rfl, ((Below.refl _ _).alloc (Nat.le_refl _) _).alloc (by simp) _⟩
  replace hp := Classical.not_not.1 hp
  by_cases h3 : 300 < acts.length
  · go_enter Try.func6, Try.ntmps6
    go_wp2_with fail
    refine (fine_yes o hp _).mono ?_
    rintro e w1 ⟨rfl, rfl⟩
    go_wp2_with fail
    go_ret
    exact ⟨rfl, ((Below.refl _ _).alloc (Nat.le_refl _) _).alloc (by simp) _⟩
  have Fi := Lib.hid (show o.fine from hp)
  have L3 := Lib.hid h3
  have q0 := run_length_le o acts
  have RL := Lib.hid (show (run o acts).length ≤ 1000 by omega)
  clear q0
  go_enter Try.func6, Try.ntmps6
  go_wp2_with fail
  refine (fine_yes o hp _).mono ?_
  rintro e w1 ⟨rfl, rfl⟩
  have K := Lib.hid (Kept.start o Ha.out)
  generalize (w.alloc (.cells #[.int .i64 o.kind, .int .i64 o.m] 23)).alloc (.cells #[.int .i64 o.kind, .int .i64 o.m] 23) = w1 at *
  obtain ⟨hc0, hc1⟩ := K.out.c
  have CS := Lib.hid (implBTreeShapeT_walk m hm o Fi.out acts.length cap A acts w1 rfl (by have := L3.out; omega) ((K.out.rows (A, actCells acts) (by simp)).acts.more K.out.le))
  go_wp2_with fail
  refine CS.out.mono ?_
  rintro e w2 ⟨L, hh, A', cap', rfl, hL, la, sh, ht, b⟩
  have CT := Lib.hid (specBlocks_walk sh RL.out hm.2 L.length cap' A' rfl hL w2 la _ rfl)
  have K2 := Lib.hid (K.out.on b)
  have HT := Lib.hid ht
  clear hL la sh b CS hc0 hc1 ht
  generalize L.length = nL at *
  go_wp2_with fail
  refine CT.out.mono ?_
  rintro e w3 ⟨A1, c1, A2, c2, rfl, own1, own2, b3⟩
  generalize (run o acts).length = ln at *
  have K3 := Lib.hid ((K2.out.on b3).alloc (.cells #[.slice A1 ln c1, .slice A2 ln c2, .int .i64 0, .bool false] 30))
  clear own1 own2 b3 CT K2 K
  obtain ⟨hc0, hc1⟩ := K3.out.c
  go_wp2_with fail
  generalize w3.alloc (.cells #[.slice A1 ln c1, .slice A2 ln c2, .int .i64 0, .bool false] 30) = w3' at *
  have C4 := Lib.hid (implBTreeHeightT_walk m hm o Fi.out acts.length cap A acts w3' rfl (by have := L3.out; omega) ((K3.out.rows (A, actCells acts) (by simp)).acts.more K3.out.le))
  refine C4.out.mono ?_
  rintro e w4 ⟨L', h', rfl, sh', ht', b4⟩
  have K4 := Lib.hid (K3.out.on b4)
  obtain rfl : hh = h' := HT.out.trans ht'.symm
  have hbe : (Value.bool ((hh : Int) == (hh : Int))) = .bool true := by simp
  clear b4 C4 K3 sh' ht' hc0 hc1
  go_wp2_with fail
  refine (keptGrows K4.out).mono ?_
  rintro e w7 ⟨rfl, k⟩
  have K := Lib.hid k
  clear k
  go_wp2_with fail
  go_ret
  exact ⟨rfl, K.out.below⟩

end Go.Proofs.Ytgakapigpiaoiaa.Bt
