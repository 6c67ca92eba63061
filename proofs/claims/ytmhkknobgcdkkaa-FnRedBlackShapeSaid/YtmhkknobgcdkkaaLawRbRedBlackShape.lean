/- For every order and every list of acts: its nodes are a tree: each tells the one above it, as many nodes as are in it and below it, and in order they are its keys and values. No condition. -/
import Derived.Test.YtmhkknobgcdkkaaKeptBRb
import Derived.Test.YtmhkknobgcdkkaaRbShape
import Derived.Test.YtmhkknobgcdkkaaKeptTwo
import Derived.Deep.RegionHeld3
import Derived.IntWalk
namespace Go.Proofs.Ytmhkknobgcdkkaa.Rb
open Go.RowKit Go.Proofs.Ytmhkknobgcdkkaa

set_option maxHeartbeats 4000000 in
set_option maxRecDepth 100000 in
theorem lawRedBlackShape_walk (o : Ord) (cap : Nat) (A : Option Addr) (acts : List Do) (w : World) (hA : A = none → acts.length = 0 ∧ cap = 0) (ha : ActsAt w w.heap.size A acts) :
    Calls Try.prog 6 #[.agg #[.int .i64 o.kind, .int .i64 o.m], .slice A acts.length cap] w fun e w' => e = .returned (.bool true) ∧ Below w.heap.size w w' := by
  have Ha := Lib.hid ha
  have HA := Lib.hid hA
  clear ha hA
  by_cases h0 : 2147483647 < acts.length
  · go_enter Try.func6, Try.ntmps6
    go_wp2_with fail
    go_ret
    exact ⟨rfl, (Below.refl _ _).alloc (Nat.le_refl _) _⟩
  by_cases hp : ¬ o.plain
  · go_enter Try.func6, Try.ntmps6
    go_wp2_with fail
    refine (plain_no o hp _).mono ?_
    rintro e w1 ⟨rfl, rfl⟩
    go_wp2_with fail
    go_ret
    exact ⟨rfl, ((Below.refl _ _).alloc (Nat.le_refl _) _).alloc (by simp) _⟩
  replace hp := Classical.not_not.1 hp
  by_cases h3 : 300 < acts.length
  · go_enter Try.func6, Try.ntmps6
    go_wp2_with fail
    refine (plain_yes o hp _).mono ?_
    rintro e w1 ⟨rfl, rfl⟩
    go_wp2_with fail
    go_ret
    exact ⟨rfl, ((Below.refl _ _).alloc (Nat.le_refl _) _).alloc (by simp) _⟩
  have Fi := Lib.hid (show o.fine from hp.fine)
  have L3 := Lib.hid h3
  have q0 := run_length_le o acts
  have RL := Lib.hid (show (run o acts).length ≤ 1000 by omega)
  clear q0
  go_enter Try.func6, Try.ntmps6
  go_wp2_with fail
  refine (plain_yes o hp _).mono ?_
  rintro e w1 ⟨rfl, rfl⟩
  have K := Lib.hid (Kept.start o Ha.out)
  generalize (w.alloc (.cells #[.int .i64 o.kind, .int .i64 o.m] 23)).alloc (.cells #[.int .i64 o.kind, .int .i64 o.m] 23) = w1 at *
  obtain ⟨hc0, hc1⟩ := K.out.c
  have CS := Lib.hid (implRedBlackShape_walk o Fi.out acts.length cap A acts w1 rfl (by have := L3.out; omega) ((K.out.rows (A, actCells acts) (by simp)).acts.more K.out.le))
  go_wp2_with fail
  refine CS.out.mono ?_
  rintro e w2 ⟨t, A', cap', rfl, own, hk, hok, b⟩
  have hct : t.count = (run o acts).length := by rw [← hk]; exact (BT.kvs_length t).symm
  have CT := Lib.hid (tree_walk t t.count cap' A' rfl (by have := RL.out; omega) w2 (RowAt.of_own own))
  have K2 := Lib.hid (K.out.on b)
  have CN := Lib.hid hct
  have HK := Lib.hid hk
  clear own hk hok b hct CS hc0 hc1
  go_wp2_with fail
  refine CT.out.mono ?_
  rintro e w3 ⟨A1, c1, A2, c2, rfl, own1, own2, b3⟩
  have K3 := Lib.hid ((((K2.out.on b3).row (RowAt.of_own own1)).row (RowAt.of_own own2)).alloc (.cells #[.slice A1 t.count c1, .slice A2 t.count c2, .int .i64 0, .bool false] 33))
  have SB := Lib.hid (Blk.new w3 33 #[.slice A1 t.count c1, .slice A2 t.count c2, .int .i64 0, .bool false])
  clear own1 own2 b3 CT K2 K
  obtain ⟨hc0, hc1⟩ := K3.out.c
  generalize hhh : t.height = hh at *
  have HHH := Lib.hid hhh
  clear hhh
  generalize hnn : t.count = n at *
  have HNN := Lib.hid hnn
  clear hnn
  go_wp2_with fail
  generalize hw3 : w3.alloc (.cells #[.slice A1 n c1, .slice A2 n c2, .int .i64 0, .bool false] 33) = w3' at *
  have HW3 := Lib.hid hw3
  clear hw3
  have C4 := Lib.hid (implRedBlackState_walk o Fi.out acts.length cap A acts w3' rfl (by have := L3.out; omega) ((K3.out.rows (A, actCells acts) (by simp)).acts.more K3.out.le))
  refine C4.out.mono ?_
  rintro e w4 ⟨v, rfl, hst, b4⟩
  obtain ⟨A3, c3, A4, c4, rfl, h3r, h4r⟩ := hst
  rw [← CN.out] at h3r h4r
  rw [← HK.out] at h3r h4r
  have K4 := Lib.hid ((((K3.out.on b4).row (RowAt.of_own h3r)).row (RowAt.of_own h4r)).alloc (.cells #[.slice A3 n c3, .slice A4 n c4, .int .i64 n, .bool ((n : Int) == 0)] 33))
  have T4 := Lib.hid (show Two (w4.alloc (.cells #[.slice A3 n c3, .slice A4 n c4, .int .i64 n, .bool ((n : Int) == 0)] 33)) w3.heap.size w4.heap.size (.slice A1 n c1) (.slice A2 n c2) (.slice A3 n c3) (.slice A4 n c4) (.int .i64 0) (.bool false) (.int .i64 n) (.bool ((n : Int) == 0)) from ⟨(SB.out.below b4 SB.out.lt).alloc _, Blk.new _ _ _⟩)
  have LN := Lib.hid (show n ≤ 100000 by have := CN.out; have := RL.out; omega)
  have KL := Lib.hid (show t.kvs.length = n by rw [HK.out, CN.out])
  clear h3r h4r b4 C4 K3 SB hc0 hc1
  simp only [← CN.out]
  generalize ((n : Int) == 0) = nb at *
  have K := Lib.hid (And.intro K4.out T4.out)
  obtain ⟨hs0, hs1, hs2, hs3⟩ := T4.out.cells
  clear K4 T4
  go_wp2_with fail
  refine (twoSame K.out (t.kvs.map Prod.fst) n c1 c3 A1 A3 (by simp [KL.out]) LN.out (by simp) (by simp)).mono ?_
  rintro e w5 ⟨rfl, k⟩
  have K := Lib.hid k
  obtain ⟨hs0, hs1, hs2, hs3⟩ := k.2.cells
  clear k
  go_wp2_with fail
  refine (twoSame K.out (t.kvs.map Prod.snd) n c2 c4 A2 A4 (by simp [KL.out]) LN.out (by simp) (by simp)).mono ?_
  rintro e w6 ⟨rfl, k⟩
  have K := Lib.hid k
  clear k
  go_wp2_with fail
  refine (keptGrows K.out.1).mono ?_
  rintro e w7 ⟨rfl, k⟩
  have K := Lib.hid k
  clear k
  go_wp2_with fail
  go_ret
  exact ⟨rfl, K.out.below⟩

end Go.Proofs.Ytmhkknobgcdkkaa.Rb
