/- For every order of 3 to 64 children, every order of keys and every list of acts: its nodes are a tree: each tells the one above it, and in order they are its keys and values. No condition. -/
import Derived.Test.YtgakapigpiaoiaaBtStates
import Derived.Test.YtgakapigpiaoiaaSpecBlocks
import Derived.Test.YtgakapigpiaoiaaKeptTwo
import Derived.Test.YtgakapigpiaoiaaSpecFine
import Derived.Deep.RegionHeld3
import Derived.IntWalk
namespace Go.Proofs.Ytgakapigpiaoiaa.Bt
open Go.RowKit Go.Proofs.Ytgakapigpiaoiaa

set_option maxHeartbeats 4000000 in
set_option maxRecDepth 100000 in
theorem lawBTreeShape_walk (m : Int) (o : Ord) (cap : Nat) (A : Option Addr) (acts : List Do) (w : World) (hA : A = none → acts.length = 0 ∧ cap = 0) (ha : ActsAt w w.heap.size A acts) :
    Calls Try.prog 4 #[.int .i64 m, .agg #[.int .i64 o.kind, .int .i64 o.m], .slice A acts.length cap] w fun e w' => e = .returned (.bool true) ∧ Below w.heap.size w w' := by
  have Ha := Lib.hid ha
  have HA := Lib.hid hA
  clear ha hA
  by_cases h0 : 2147483647 < acts.length
  · go_enter Try.func4, Try.ntmps4
    go_wp2_with fail
    go_ret
    exact ⟨rfl, (Below.refl _ _).alloc (Nat.le_refl _) _⟩
  by_cases hm1 : m < 3
  · go_enter Try.func4, Try.ntmps4
    go_wp2_with fail
    go_ret
    exact ⟨rfl, (Below.refl _ _).alloc (Nat.le_refl _) _⟩
  by_cases hm2 : 64 < m
  · have hm1' : ¬ m < 3 := hm1
    go_enter Try.func4, Try.ntmps4
    go_wp2_with fail
    go_ret
    exact ⟨rfl, (Below.refl _ _).alloc (Nat.le_refl _) _⟩
  have hm : 3 ≤ m ∧ m ≤ 64 := ⟨by omega, by omega⟩
  by_cases hp : ¬ o.fine
  · go_enter Try.func4, Try.ntmps4
    go_wp2_with fail
    refine (fine_no o hp _).mono ?_
    rintro e w1 ⟨rfl, rfl⟩
    go_wp2_with fail
    go_ret
    exact ⟨rfl, ((Below.refl _ _).alloc (Nat.le_refl _) _).alloc (by simp) _⟩
  replace hp := Classical.not_not.1 hp
  by_cases h3 : 300 < acts.length
  · go_enter Try.func4, Try.ntmps4
    go_wp2_with fail
    refine (fine_yes o hp _).mono ?_
    rintro e w1 ⟨rfl, rfl⟩
    go_wp2_with fail
    go_ret
    exact ⟨rfl, ((Below.refl _ _).alloc (Nat.le_refl _) _).alloc (by simp) _⟩
  have Fi := Lib.hid (show o.fine from hp)
  have L3 := Lib.hid h3
  have q0 := run_length_le o acts
  have RL := Lib.hid (show (run o acts).length ≤ 1000 by omega)
  clear q0
  go_enter Try.func4, Try.ntmps4
  go_wp2_with fail
  refine (fine_yes o hp _).mono ?_
  rintro e w1 ⟨rfl, rfl⟩
  have K := Lib.hid (Kept.start o Ha.out)
  generalize (w.alloc (.cells #[.int .i64 o.kind, .int .i64 o.m] 23)).alloc (.cells #[.int .i64 o.kind, .int .i64 o.m] 23) = w1 at *
  obtain ⟨hc0, hc1⟩ := K.out.c
  have CS := Lib.hid (implBTreeShape_walk m hm o Fi.out acts.length cap A acts w1 rfl (by have := L3.out; omega) ((K.out.rows (A, actCells acts) (by simp)).acts.more K.out.le))
  go_wp2_with fail
  refine CS.out.mono ?_
  rintro e w2 ⟨L, hh, A', cap', rfl, hL, la, sh, b⟩
  have LN := Lib.hid (show (run o acts).length ≤ 1000 from RL.out)
  have LN5 := Lib.hid (show (run o acts).length ≤ 100000 by have := RL.out; omega)
  generalize hnn : (run o acts).length = n at *
  have CT := Lib.hid (specBlocks_walk sh (by rw [hnn]; exact LN.out) hm.2 L.length cap' A' rfl hL w2 la n hnn)
  have K2 := Lib.hid (K.out.on b)
  have HNN := Lib.hid hnn
  clear hL la sh b CS hc0 hc1 hnn
  generalize L.length = nL at *
  go_wp2_with fail
  refine CT.out.mono ?_
  rintro e w3 ⟨A1, c1, A2, c2, rfl, own1, own2, b3⟩
  have K3 := Lib.hid ((((K2.out.on b3).row (RowAt.of_own own1)).row (RowAt.of_own own2)).alloc (.cells #[.slice A1 n c1, .slice A2 n c2, .int .i64 0, .bool false] 30))
  have SB := Lib.hid (Blk.new w3 30 #[.slice A1 n c1, .slice A2 n c2, .int .i64 0, .bool false])
  clear own1 own2 b3 CT K2 K
  obtain ⟨hc0, hc1⟩ := K3.out.c
  have hh0 : ¬ ((hh : Int) < 0) := by omega
  go_wp2_with fail
  generalize hw3 : w3.alloc (.cells #[.slice A1 n c1, .slice A2 n c2, .int .i64 0, .bool false] 30) = w3' at *
  have HW3 := Lib.hid hw3
  clear hw3
  have C4 := Lib.hid (implBTreeState_walk m hm o Fi.out acts.length cap A acts w3' rfl (by have := L3.out; omega) ((K3.out.rows (A, actCells acts) (by simp)).acts.more K3.out.le))
  refine C4.out.mono ?_
  rintro e w4 ⟨v, rfl, hst, b4⟩
  obtain ⟨A3, c3, A4, c4, rfl, h3r, h4r⟩ := hst
  rw [HNN.out] at h3r h4r
  have K4 := Lib.hid ((((K3.out.on b4).row (RowAt.of_own h3r)).row (RowAt.of_own h4r)).alloc (.cells #[.slice A3 n c3, .slice A4 n c4, .int .i64 n, .bool ((n : Int) == 0)] 30))
  have T4 := Lib.hid (show Two (w4.alloc (.cells #[.slice A3 n c3, .slice A4 n c4, .int .i64 n, .bool ((n : Int) == 0)] 30)) w3.heap.size w4.heap.size (.slice A1 n c1) (.slice A2 n c2) (.slice A3 n c3) (.slice A4 n c4) (.int .i64 0) (.bool false) (.int .i64 n) (.bool ((n : Int) == 0)) from ⟨(SB.out.below b4 SB.out.lt).alloc _, Blk.new _ _ _⟩)
  clear h3r h4r b4 C4 K3 SB hc0 hc1
  simp only [HNN.out]
  generalize ((n : Int) == 0) = nb at *
  have K := Lib.hid (And.intro K4.out T4.out)
  obtain ⟨hs0, hs1, hs2, hs3⟩ := T4.out.cells
  clear K4 T4
  go_wp2_with fail
  refine (twoSame K.out ((run o acts).map Prod.fst) n c1 c3 A1 A3 (by simp [HNN.out]) LN5.out (by simp) (by simp)).mono ?_
  rintro e w5 ⟨rfl, k⟩
  have K := Lib.hid k
  obtain ⟨hs0, hs1, hs2, hs3⟩ := k.2.cells
  clear k
  go_wp2_with fail
  refine (twoSame K.out ((run o acts).map Prod.snd) n c2 c4 A2 A4 (by simp [HNN.out]) LN5.out (by simp) (by simp)).mono ?_
  rintro e w6 ⟨rfl, k⟩
  have K := Lib.hid k
  clear k
  go_wp2_with fail
  refine (keptGrows K.out.1).mono ?_
  rintro e w7 ⟨rfl, k⟩
  have K := Lib.hid k
  clear k
  go_wp2_with fail
  go_ret
  exact ⟨rfl, K.out.below⟩

end Go.Proofs.Ytgakapigpiaoiaa.Bt
