/- For every order, every list of acts and every list of moves: a walk tells what the reference tells. No condition. -/
import Derived.Test.YtpkgmgebhnhhjaaBtKept
import Derived.Test.YtpkgmgebhnhhjaaBtWalk
import Derived.Test.YtpkgmgebhnhhjaaSpecMoves
import Derived.Test.YtpkgmgebhnhhjaaSeenSame
import Derived.Test.YtpkgmgebhnhhjaaKeptSWalk
import Derived.Deep.RegionHeld3
import Derived.Deep.RegionHeldLaw
import Derived.IntWalk
namespace Go.Proofs.Ytpkgmgebhnhhjaa.Bt
open Go.RowKit Go.Proofs.Ytpkgmgebhnhhjaa

set_option maxHeartbeats 4000000 in
set_option maxRecDepth 100000 in
theorem lawExactBTreeWalk_walk (m : Int) (o : Ord) (cap : Nat) (A : Option Addr) (acts : List Do) (capm : Nat) (Am : Option Addr) (moves : List Do) (w : World) (_hA : A = none → acts.length = 0 ∧ cap = 0) (ha : ActsAt w w.heap.size A acts) (hAm : Am = none → moves.length = 0 ∧ capm = 0) (ham : ActsAt w w.heap.size Am moves) :
    Calls Try.prog 25 #[.int .i64 m, .agg #[.int .i64 o.kind, .int .i64 o.m], .slice A acts.length cap, .slice Am moves.length capm] w fun e w' => e = .returned (.bool true) ∧ Below w.heap.size w w' := by
  have Ha := Lib.hid ha
  have Hm := Lib.hid ham
  have HM := Lib.hid hAm
  clear ha ham hAm
  by_cases h0 : 2147483647 < acts.length
  · go_enter Try.func25, Try.ntmps25
    go_wp2_with fail
    go_ret
    exact ⟨rfl, (Below.refl _ _).alloc (Nat.le_refl _) _⟩
  by_cases h1 : 2147483647 < moves.length
  · go_enter Try.func25, Try.ntmps25
    go_wp2_with fail
    go_ret
    exact ⟨rfl, (Below.refl _ _).alloc (Nat.le_refl _) _⟩
  by_cases hm1 : m < 3
  · go_enter Try.func25, Try.ntmps25
    go_wp2_with fail
    go_ret
    exact ⟨rfl, (Below.refl _ _).alloc (Nat.le_refl _) _⟩
  by_cases hm2 : 64 < m
  · have hm1' : ¬ m < 3 := hm1
    go_enter Try.func25, Try.ntmps25
    go_wp2_with fail
    go_ret
    exact ⟨rfl, (Below.refl _ _).alloc (Nat.le_refl _) _⟩
  have hm : 3 ≤ m ∧ m ≤ 64 := ⟨by omega, by omega⟩
  by_cases hp : ¬ o.plain
  · go_enter Try.func25, Try.ntmps25
    go_wp2_with fail
    refine (plain_no o hp _).mono ?_
    rintro e w1 ⟨rfl, rfl⟩
    go_wp2_with fail
    go_ret
    exact ⟨rfl, ((Below.refl _ _).alloc (Nat.le_refl _) _).alloc (by simp) _⟩
  replace hp := Classical.not_not.1 hp
  by_cases h3 : 300 < acts.length
  · go_enter Try.func25, Try.ntmps25
    go_wp2_with fail
    refine (plain_yes o hp _).mono ?_
    rintro e w1 ⟨rfl, rfl⟩
    go_wp2_with fail
    go_ret
    exact ⟨rfl, ((Below.refl _ _).alloc (Nat.le_refl _) _).alloc (by simp) _⟩
  have Fi := Lib.hid (show o.fine from hp.fine)
  have L3 := Lib.hid h3
  have RL := Lib.hid (show (run o acts).length ≤ 1000 by have := run_length_le o acts; omega)
  cases hm : mvOk moves with
  | false =>
    go_enter Try.func25, Try.ntmps25
    go_wp2_with fail
    refine (plain_yes o hp _).mono ?_
    rintro e w1 ⟨rfl, rfl⟩
    have K := Lib.hid ((Kept.start o Ha.out).row ((Hm.out.row.below (((Below.refl _ _).alloc (Nat.le_refl _) _).alloc (by simp) _)).more (Nat.le_succ _)))
    generalize (w.alloc (.cells #[.int .i64 o.kind, .int .i64 o.m] 23)).alloc (.cells #[.int .i64 o.kind, .int .i64 o.m] 23) = w1 at *
    have cm := movesOk_walk moves.length capm Am moves w1 rfl (by omega) ((K.out.rows (Am, actCells moves) (by simp)).acts.more K.out.le)
    rw [hm] at cm
    have CM := Lib.hid cm
    obtain ⟨hc0, hc1⟩ := K.out.c
    clear cm hm
    go_wp2_with fail
    refine CM.out.mono ?_
    rintro e wy ⟨rfl, b⟩
    have BB := Lib.hid (K.out.below.trans (b.mono K.out.below.size))
    clear b
    go_wp2_with fail
    go_ret
    exact ⟨rfl, BB.out⟩
  | true =>
    obtain ⟨hm300, hmok⟩ := mvOk_yes hm
    have M3 := Lib.hid hm300
    have OKM := Lib.hid hmok
    clear hm300 hmok
    go_enter Try.func25, Try.ntmps25
    go_wp2_with fail
    refine (plain_yes o hp _).mono ?_
    rintro e w1 ⟨rfl, rfl⟩
    have K := Lib.hid ((Kept.start o Ha.out).row ((Hm.out.row.below (((Below.refl _ _).alloc (Nat.le_refl _) _).alloc (by simp) _)).more (Nat.le_succ _)))
    generalize (w.alloc (.cells #[.int .i64 o.kind, .int .i64 o.m] 23)).alloc (.cells #[.int .i64 o.kind, .int .i64 o.m] 23) = w1 at *
    have cm := movesOk_walk moves.length capm Am moves w1 rfl (by omega) ((K.out.rows (Am, actCells moves) (by simp)).acts.more K.out.le)
    rw [hm] at cm
    have CM := Lib.hid cm
    obtain ⟨hc0, hc1⟩ := K.out.c
    clear cm hm hc0 hc1
    obtain ⟨hc0, hc1⟩ := K.out.c
    go_wp2_with fail
    refine CM.out.mono ?_
    rintro e wy ⟨rfl, b⟩
    have K := Lib.hid (K.out.on b)
    clear b hc0 hc1 CM
    obtain ⟨hc0, hc1⟩ := K.out.c
    clear hc0 hc1
    obtain ⟨hc0, hc1⟩ := K.out.c
    go_wp2_with fail
    have K := Lib.hid K.out.drew
    go_region_held3 (fun w' => w'.cell? ⟨w.heap.size, 0, none⟩ = some (.int .i64 o.kind) ∧ w'.cell? ⟨w.heap.size, 1, none⟩ = some (.int .i64 o.m)) (exact K.out.c)
      (first
        | (go_at_call 29; refine (keptWalk m hm K.out Fi.out A acts acts.length cap rfl ?_ ?_ Am moves moves.length capm (rfl) ?_ ?_ (OKM.out)).mono ?_; (have := L3.out; omega); (simp); (have := M3.out; omega); (simp); rintro e wy ⟨v1, cv1, rfl, k⟩; have K := Lib.hid k; clear k)
        | (go_at_call 37; refine (keptRun K.out Fi.out A acts acts.length cap rfl ?_ ?_).mono ?_; (have := L3.out; first | omega | (simp; omega)); (simp); rintro e wy ⟨q, cq, rfl, k⟩; have K := Lib.hid k; clear k)
        | (go_at_call 43; refine (keptSWalk K.out (some ⟨q, 0, none⟩) (run o acts) (run o acts).length cq rfl ?_ ?_ Am moves moves.length capm (rfl) ?_ ?_ (OKM.out)).mono ?_; (have := RL.out; omega); (simp); (have := M3.out; omega); (simp); rintro e wy ⟨v2, cv2, rfl, k⟩; have K := Lib.hid k; clear k)
        | (go_at_call 30; refine (keptSameSeen K.out (walkFrom (run o acts) 0 moves) moves.length cv1 cv2 v1 v2 (walkFrom_length _ _ _) ?_ ?_ ?_).mono ?_; (have := M3.out; omega); (simp); (simp); rintro e wy ⟨rfl, k⟩; have K := Lib.hid k; clear k)
        | (go_at_call 31; refine (keptGrows K.out).mono ?_; rintro e wy ⟨rfl, k⟩; have K := Lib.hid k; clear k)
      )
    all_goals
      go_wp2_with fail
      go_ret
      exact ⟨rfl, by first | exact K.out.below | exact K.out.drew.below⟩

end Go.Proofs.Ytpkgmgebhnhhjaa.Bt
