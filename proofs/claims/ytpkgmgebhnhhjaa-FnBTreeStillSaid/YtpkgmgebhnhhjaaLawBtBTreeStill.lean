/- For every order, every list of acts, every number and every list of moves: asking leaves a tree as it is: the walk is the same, whatever was asked before. No condition. -/
import Derived.Test.YtpkgmgebhnhhjaaBtKept
import Derived.Test.YtpkgmgebhnhhjaaBtWalk
import Derived.Test.YtpkgmgebhnhhjaaSpecMoves
import Derived.Test.YtpkgmgebhnhhjaaSeenSame
import Derived.Deep.RegionHeld3
import Derived.Deep.RegionHeldLaw
import Derived.IntWalk
namespace Go.Proofs.Ytpkgmgebhnhhjaa.Bt
open Go.RowKit Go.Proofs.Ytpkgmgebhnhhjaa

set_option maxHeartbeats 4000000 in
set_option maxRecDepth 100000 in
theorem lawBTreeStill_walk (m : Int) (o : Ord) (cap : Nat) (A : Option Addr) (acts : List Do) (key : Int) (capm : Nat) (Am : Option Addr) (moves : List Do) (w : World) (_hA : A = none → acts.length = 0 ∧ cap = 0) (ha : ActsAt w w.heap.size A acts) (hAm : Am = none → moves.length = 0 ∧ capm = 0) (ham : ActsAt w w.heap.size Am moves) :
    Calls Try.prog 4 #[.int .i64 m, .agg #[.int .i64 o.kind, .int .i64 o.m], .slice A acts.length cap, .int .i64 key, .slice Am moves.length capm] w fun e w' => e = .returned (.bool true) ∧ Below w.heap.size w w' := by
  have Ha := Lib.hid ha
  have Hm := Lib.hid ham
  have HM := Lib.hid hAm
  clear ha ham hAm
  by_cases h0 : 2147483647 < acts.length
  · go_enter Try.func4, Try.ntmps4
    go_wp2_with fail
    go_ret
    exact ⟨rfl, (Below.refl _ _).alloc (Nat.le_refl _) _⟩
  by_cases h1 : 2147483647 < moves.length
  · go_enter Try.func4, Try.ntmps4
    go_wp2_with fail
    go_ret
    exact ⟨rfl, (Below.refl _ _).alloc (Nat.le_refl _) _⟩
  by_cases hm1 : m < 3
  · go_enter Try.func4, Try.ntmps4
    go_wp2_with fail
    go_ret
    exact ⟨rfl, (Below.refl _ _).alloc (Nat.le_refl _) _⟩
  by_cases hm2 : 64 < m
  · have hm1' : ¬ m < 3 := hm1
    go_enter Try.func4, Try.ntmps4
    go_wp2_with fail
    go_ret
    exact ⟨rfl, (Below.refl _ _).alloc (Nat.le_refl _) _⟩
  have hm : 3 ≤ m ∧ m ≤ 64 := ⟨by omega, by omega⟩
  by_cases hp : ¬ o.plain
  · go_enter Try.func4, Try.ntmps4
    go_wp2_with fail
    refine (plain_no o hp _).mono ?_
    rintro e w1 ⟨rfl, rfl⟩
    go_wp2_with fail
    go_ret
    exact ⟨rfl, ((Below.refl _ _).alloc (Nat.le_refl _) _).alloc (by simp) _⟩
  replace hp := Classical.not_not.1 hp
  by_cases h3 : 300 < acts.length
  · go_enter Try.func4, Try.ntmps4
    go_wp2_with fail
    refine (plain_yes o hp _).mono ?_
    rintro e w1 ⟨rfl, rfl⟩
    go_wp2_with fail
    go_ret
    exact ⟨rfl, ((Below.refl _ _).alloc (Nat.le_refl _) _).alloc (by simp) _⟩
  have Fi := Lib.hid (show o.fine from hp.fine)
  have L3 := Lib.hid h3
  have RL := Lib.hid (show (run o acts).length ≤ 1000 by have := run_length_le o acts; omega)
  cases hm : mvOk moves with
  | false =>
    go_enter Try.func4, Try.ntmps4
    go_wp2_with fail
    refine (plain_yes o hp _).mono ?_
    rintro e w1 ⟨rfl, rfl⟩
    have K := Lib.hid ((Kept.start o Ha.out).row ((Hm.out.row.below (((Below.refl _ _).alloc (Nat.le_refl _) _).alloc (by simp) _)).more (Nat.le_succ _)))
    generalize (w.alloc (.cells #[.int .i64 o.kind, .int .i64 o.m] 23)).alloc (.cells #[.int .i64 o.kind, .int .i64 o.m] 23) = w1 at *
    have cm := movesOk_walk moves.length capm Am moves w1 rfl (by omega) ((K.out.rows (Am, actCells moves) (by simp)).acts.more K.out.le)
    rw [hm] at cm
    have CM := Lib.hid cm
    obtain ⟨hc0, hc1⟩ := K.out.c
    clear cm hm
    go_wp2_with fail
    refine CM.out.mono ?_
    rintro e wy ⟨rfl, b⟩
    have BB := Lib.hid (K.out.below.trans (b.mono K.out.below.size))
    clear b
    go_wp2_with fail
    go_ret
    exact ⟨rfl, BB.out⟩
  | true =>
    obtain ⟨hm300, hmok⟩ := mvOk_yes hm
    have M3 := Lib.hid hm300
    have OKM := Lib.hid hmok
    clear hm300 hmok
    go_enter Try.func4, Try.ntmps4
    go_wp2_with fail
    refine (plain_yes o hp _).mono ?_
    rintro e w1 ⟨rfl, rfl⟩
    have K := Lib.hid ((Kept.start o Ha.out).row ((Hm.out.row.below (((Below.refl _ _).alloc (Nat.le_refl _) _).alloc (by simp) _)).more (Nat.le_succ _)))
    generalize (w.alloc (.cells #[.int .i64 o.kind, .int .i64 o.m] 23)).alloc (.cells #[.int .i64 o.kind, .int .i64 o.m] 23) = w1 at *
    have cm := movesOk_walk moves.length capm Am moves w1 rfl (by omega) ((K.out.rows (Am, actCells moves) (by simp)).acts.more K.out.le)
    rw [hm] at cm
    have CM := Lib.hid cm
    obtain ⟨hc0, hc1⟩ := K.out.c
    clear cm hm hc0 hc1
    obtain ⟨hc0, hc1⟩ := K.out.c
    go_wp2_with fail
    refine CM.out.mono ?_
    rintro e wy ⟨rfl, b⟩
    have K := Lib.hid (K.out.on b)
    clear b hc0 hc1 CM
    obtain ⟨hc0, hc1⟩ := K.out.c
    go_wp2_with fail
    refine (keptWalk m hm K.out Fi.out A acts acts.length cap rfl (by have := L3.out; omega) (by simp) Am moves moves.length capm rfl (by have := M3.out; omega) (by simp) OKM.out).mono ?_
    rintro e wy ⟨A1, c1, rfl, k⟩
    have K := Lib.hid k
    clear k
    obtain ⟨hc0, hc1⟩ := K.out.c
    go_wp2_with fail
    refine (keptGet m hm K.out Fi.out A acts key acts.length cap rfl (by have := L3.out; omega) (by simp)).mono ?_
    rintro e wy ⟨rfl, k⟩
    have K := Lib.hid k
    clear k
    obtain ⟨hc0, hc1⟩ := K.out.c
    go_wp2_with fail
    refine (keptWalk m hm K.out Fi.out A acts acts.length cap rfl (by have := L3.out; omega) (by simp) Am moves moves.length capm rfl (by have := M3.out; omega) (by simp) OKM.out).mono ?_
    rintro e wy ⟨A2, c2, rfl, k⟩
    have K := Lib.hid k
    clear k hc0 hc1
    have CS := Lib.hid (sameSeen_yes (walkFrom (run o acts) 0 moves) wy moves.length c1 c2 A1 A2 _ _ (walkFrom_length _ _ _) (by have := M3.out; omega) (K.out.rows (A1, seenCells (walkFrom (run o acts) 0 moves)) (by simp)) (K.out.rows (A2, seenCells (walkFrom (run o acts) 0 moves)) (by simp)))
    go_wp2_with fail
    refine CS.out.mono ?_
    rintro e wz ⟨rfl, m2, rfl⟩
    go_wp2_with fail
    refine (keptGrows (K.out.drewN m2)).mono ?_
    rintro e wz ⟨rfl, k⟩
    have K := Lib.hid k
    clear k
    go_wp2_with fail
    go_ret
    exact ⟨rfl, K.out.below⟩

end Go.Proofs.Ytpkgmgebhnhhjaa.Bt
