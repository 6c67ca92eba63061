/- For every order, every list of acts and every list of moves: the iterators of all three trees tell the same. No condition. -/
import Derived.Test.YtjjolokeceldmaaGreatAvlWalk
import Derived.Test.YtjjolokeceldmaaGreatRbWalk
import Derived.Test.YtjjolokeceldmaaGreatBtWalk
import Derived.Test.YtjjolokeceldmaaGreatSpecMoves
import Derived.Test.YtjjolokeceldmaaGreatSeenSame
import Derived.Test.YtjjolokeceldmaaGreatSpecFine
import Derived.Deep.RegionHeld3
import Derived.Deep.RegionHeldLaw
import Derived.IntWalk
namespace Go.Proofs.YtjjolokeceldmaaGreat
open Go.RowKit

section
variable {w0 w w' : World} {g B C : Nat} {o : Ord} {rows : List (Option Addr × List Value)} {sts : List (Value × KV)}
theorem keptSameSeen (h : Kept w0 g o rows sts B w) (xs : List (Option (Int × Int))) (n c1 c2 : Nat) (A1 A2 : Option Addr) (hn : xs.length = n) (hn1 : n ≤ 100000) (h1 : (A1, seenCells xs) ∈ rows) (h2 : (A2, seenCells xs) ∈ rows) :
    Calls Tryz.prog 7 #[.slice A1 n c1, .slice A2 n c2] w fun e w' => e = .returned (.bool true) ∧ Kept w0 g o rows sts B w' := by
  refine (sameSeen_yes xs w n c1 c2 A1 A2 _ _ hn hn1 (h.rows _ h1) (h.rows _ h2)).mono ?_
  rintro e w' ⟨rfl, m, rfl⟩
  exact ⟨rfl, h.drewN m⟩
end

set_option maxHeartbeats 4000000 in
set_option maxRecDepth 100000 in
theorem lawAgreeWalk_walk (m : Int) (o : Ord) (cap : Nat) (A : Option Addr) (acts : List Do) (capm : Nat) (Am : Option Addr) (moves : List Do) (w : World) (_hA : A = none → acts.length = 0 ∧ cap = 0) (ha : ActsAt w w.heap.size A acts) (hAm : Am = none → moves.length = 0 ∧ capm = 0) (ham : ActsAt w w.heap.size Am moves) :
    Calls Tryz.prog 3 #[.int .i64 m, .agg #[.int .i64 o.kind, .int .i64 o.m], .slice A acts.length cap, .slice Am moves.length capm] w fun e w' => e = .returned (.bool true) ∧ Below w.heap.size w w' := by
  have Ha := Lib.hid ha
  have Hm := Lib.hid ham
  have HM := Lib.hid hAm
  clear ha ham hAm
  by_cases h0 : 2147483647 < acts.length
  · go_enter Tryz.func3, Tryz.ntmps3
    go_wp2_with fail
    go_ret
    exact ⟨rfl, (Below.refl _ _).alloc (Nat.le_refl _) _⟩
  by_cases h1 : 2147483647 < moves.length
  · go_enter Tryz.func3, Tryz.ntmps3
    go_wp2_with fail
    go_ret
    exact ⟨rfl, (Below.refl _ _).alloc (Nat.le_refl _) _⟩
  by_cases hm1 : m < 3
  · go_enter Tryz.func3, Tryz.ntmps3
    go_wp2_with fail
    go_ret
    exact ⟨rfl, (Below.refl _ _).alloc (Nat.le_refl _) _⟩
  by_cases hm2 : 64 < m
  · have hm1' : ¬ m < 3 := hm1
    go_enter Tryz.func3, Tryz.ntmps3
    go_wp2_with fail
    go_ret
    exact ⟨rfl, (Below.refl _ _).alloc (Nat.le_refl _) _⟩
  have hm : 3 ≤ m ∧ m ≤ 64 := ⟨by omega, by omega⟩
  by_cases hp : ¬ o.fine
  · go_enter Tryz.func3, Tryz.ntmps3
    go_wp2_with fail
    refine (fine_no o hp _).mono ?_
    rintro e w1 ⟨rfl, rfl⟩
    go_wp2_with fail
    go_ret
    exact ⟨rfl, ((Below.refl _ _).alloc (Nat.le_refl _) _).alloc (by simp) _⟩
  replace hp := Classical.not_not.1 hp
  by_cases h3 : 300 < acts.length
  · go_enter Tryz.func3, Tryz.ntmps3
    go_wp2_with fail
    refine (fine_yes o hp _).mono ?_
    rintro e w1 ⟨rfl, rfl⟩
    go_wp2_with fail
    go_ret
    exact ⟨rfl, ((Below.refl _ _).alloc (Nat.le_refl _) _).alloc (by simp) _⟩
  have Fi := Lib.hid (show o.fine from hp)
  have L3 := Lib.hid h3
  have RL := Lib.hid (show (run o acts).length ≤ 1000 by have := run_length_le o acts; omega)
  cases hm : mvOk moves with
  | false =>
    go_enter Tryz.func3, Tryz.ntmps3
    go_wp2_with fail
    refine (fine_yes o hp _).mono ?_
    rintro e w1 ⟨rfl, rfl⟩
    have K := Lib.hid ((Kept.start o Ha.out).row ((Hm.out.row.below (((Below.refl _ _).alloc (Nat.le_refl _) _).alloc (by simp) _)).more (Nat.le_succ _)))
    generalize (w.alloc (.cells #[.int .i64 o.kind, .int .i64 o.m] 23)).alloc (.cells #[.int .i64 o.kind, .int .i64 o.m] 23) = w1 at *
    have cm := movesOk_walk moves.length capm Am moves w1 rfl (by omega) ((K.out.rows (Am, actCells moves) (by simp)).acts.more K.out.le)
    rw [hm] at cm
    have CM := Lib.hid cm
    obtain ⟨hc0, hc1⟩ := K.out.c
    clear cm hm
    go_wp2_with fail
    refine CM.out.mono ?_
    rintro e wy ⟨rfl, b⟩
    have BB := Lib.hid (K.out.below.trans (b.mono K.out.below.size))
    clear b
    go_wp2_with fail
    go_ret
    exact ⟨rfl, BB.out⟩
  | true =>
    obtain ⟨hm300, hmok⟩ := mvOk_yes hm
    have M3 := Lib.hid hm300
    have OKM := Lib.hid hmok
    clear hm300 hmok
    go_enter Tryz.func3, Tryz.ntmps3
    go_wp2_with fail
    refine (fine_yes o hp _).mono ?_
    rintro e w1 ⟨rfl, rfl⟩
    have K := Lib.hid ((Kept.start o Ha.out).row ((Hm.out.row.below (((Below.refl _ _).alloc (Nat.le_refl _) _).alloc (by simp) _)).more (Nat.le_succ _)))
    generalize (w.alloc (.cells #[.int .i64 o.kind, .int .i64 o.m] 23)).alloc (.cells #[.int .i64 o.kind, .int .i64 o.m] 23) = w1 at *
    have cm := movesOk_walk moves.length capm Am moves w1 rfl (by omega) ((K.out.rows (Am, actCells moves) (by simp)).acts.more K.out.le)
    rw [hm] at cm
    have CM := Lib.hid cm
    obtain ⟨hc0, hc1⟩ := K.out.c
    clear cm hm hc0 hc1
    obtain ⟨hc0, hc1⟩ := K.out.c
    go_wp2_with fail
    refine CM.out.mono ?_
    rintro e wy ⟨rfl, b⟩
    have K := Lib.hid (K.out.on b)
    clear b hc0 hc1 CM
    obtain ⟨hc0, hc1⟩ := K.out.c
    go_wp2_with fail
    refine (Rb.keptWalk K.out Fi.out A acts acts.length cap rfl (by have := L3.out; omega) (by simp) Am moves moves.length capm rfl (by have := M3.out; omega) (by simp) OKM.out).mono ?_
    rintro e wy ⟨v1, cv1, rfl, k⟩
    have K := Lib.hid k
    clear k
    obtain ⟨hc0, hc1⟩ := K.out.c
    go_wp2_with fail
    refine (keptWalk K.out Fi.out A acts acts.length cap rfl (by have := L3.out; omega) (by simp) Am moves moves.length capm rfl (by have := M3.out; omega) (by simp) OKM.out).mono ?_
    rintro e wy ⟨v2, cv2, rfl, k⟩
    have K := Lib.hid k
    clear k hc0 hc1
    go_wp2_with fail
    refine (keptSameSeen K.out (walkFrom (run o acts) 0 moves) moves.length cv1 cv2 v1 v2 (walkFrom_length _ _ _) (by have := M3.out; omega) (by simp) (by simp)).mono ?_
    rintro e wy ⟨rfl, k⟩
    have K := Lib.hid k
    clear k
    obtain ⟨hc0, hc1⟩ := K.out.c
    go_wp2_with fail
    refine (Bt.keptWalk m hm K.out Fi.out A acts acts.length cap rfl (by have := L3.out; omega) (by simp) Am moves moves.length capm rfl (by have := M3.out; omega) (by simp) OKM.out).mono ?_
    rintro e wy ⟨v3, cv3, rfl, k⟩
    have K := Lib.hid k
    clear k hc0 hc1
    go_wp2_with fail
    refine (keptSameSeen K.out (walkFrom (run o acts) 0 moves) moves.length cv1 cv3 v1 v3 (walkFrom_length _ _ _) (by have := M3.out; omega) (by simp) (by simp)).mono ?_
    rintro e wy ⟨rfl, k⟩
    have K := Lib.hid k
    clear k
    go_wp2_with fail
    refine (Rb.keptGrows K.out).mono ?_
    rintro e wy ⟨rfl, k⟩
    have K := Lib.hid k
    clear k
    all_goals
      go_wp2_with fail
      go_ret
      exact ⟨rfl, by first | exact K.out.below | exact K.out.drew.below⟩

end Go.Proofs.YtjjolokeceldmaaGreat
