/- For every order, every list of acts, every number and every list of moves: an iterator at a node moves over the pairs from there. No condition. -/
import Derived.Test.YtmgjpppplapgpaaKeptRb
import Derived.Test.YtmgjpppplapgpaaRbWalk
import Derived.Test.YtmgjpppplapgpaaSpecMoves
import Derived.Test.YtmgjpppplapgpaaSeenSame
import Derived.Test.YtmgjpppplapgpaaRbWalkAt
import Derived.Test.YtmgjpppplapgpaaKeptFewRb
import Derived.Deep.RegionHeld3
import Derived.Deep.RegionHeldLaw
import Derived.IntWalk
namespace Go.Proofs.Ytmgjpppplapgpaa.Rb
open Go.RowKit Go.Proofs.Ytmgjpppplapgpaa

set_option maxHeartbeats 4000000 in
set_option maxRecDepth 100000 in
theorem lawExactRedBlackWalkAt_walk (o : Ord) (cap : Nat) (A : Option Addr) (acts : List Do) (key : Int) (capm : Nat) (Am : Option Addr) (moves : List Do) (w : World) (_hA : A = none → acts.length = 0 ∧ cap = 0) (ha : ActsAt w w.heap.size A acts) (hAm : Am = none → moves.length = 0 ∧ capm = 0) (ham : ActsAt w w.heap.size Am moves) :
    Calls Try.prog 23 #[.agg #[.int .i64 o.kind, .int .i64 o.m], .slice A acts.length cap, .int .i64 key, .slice Am moves.length capm] w fun e w' => e = .returned (.bool true) ∧ Below w.heap.size w w' := by
  have Ha := Lib.hid ha
  have Hm := Lib.hid ham
  have HM := Lib.hid hAm
  clear ha ham hAm
  by_cases h0 : 2147483647 < acts.length
  · go_enter Try.func23, Try.ntmps23
    go_wp2_with fail
    go_ret
    exact ⟨rfl, (Below.refl _ _).alloc (Nat.le_refl _) _⟩
  by_cases h1 : 2147483647 < moves.length
  · go_enter Try.func23, Try.ntmps23
    go_wp2_with fail
    go_ret
    exact ⟨rfl, (Below.refl _ _).alloc (Nat.le_refl _) _⟩
  by_cases hp : ¬ o.plain
  · go_enter Try.func23, Try.ntmps23
    go_wp2_with fail
    refine (plain_no o hp _).mono ?_
    rintro e w1 ⟨rfl, rfl⟩
    go_wp2_with fail
    go_ret
    exact ⟨rfl, ((Below.refl _ _).alloc (Nat.le_refl _) _).alloc (by simp) _⟩
  replace hp := Classical.not_not.1 hp
  by_cases h3 : 300 < acts.length
  · go_enter Try.func23, Try.ntmps23
    go_wp2_with fail
    refine (plain_yes o hp _).mono ?_
    rintro e w1 ⟨rfl, rfl⟩
    go_wp2_with fail
    go_ret
    exact ⟨rfl, ((Below.refl _ _).alloc (Nat.le_refl _) _).alloc (by simp) _⟩
  have Fi := Lib.hid (show o.fine from hp.fine)
  have L3 := Lib.hid h3
  have RL := Lib.hid (show (run o acts).length ≤ 1000 by have := run_length_le o acts; omega)
  cases hm : mvOk moves with
  | false =>
    go_enter Try.func23, Try.ntmps23
    go_wp2_with fail
    refine (plain_yes o hp _).mono ?_
    rintro e w1 ⟨rfl, rfl⟩
    have K := Lib.hid ((Kept.start o Ha.out).row ((Hm.out.row.below (((Below.refl _ _).alloc (Nat.le_refl _) _).alloc (by simp) _)).more (Nat.le_succ _)))
    generalize (w.alloc (.cells #[.int .i64 o.kind, .int .i64 o.m] 23)).alloc (.cells #[.int .i64 o.kind, .int .i64 o.m] 23) = w1 at *
    have cm := movesOk_walk moves.length capm Am moves w1 rfl (by omega) ((K.out.rows (Am, actCells moves) (by simp)).acts.more K.out.le)
    rw [hm] at cm
    have CM := Lib.hid cm
    obtain ⟨hc0, hc1⟩ := K.out.c
    clear cm hm
    go_wp2_with fail
    refine CM.out.mono ?_
    rintro e wy ⟨rfl, b⟩
    have BB := Lib.hid (K.out.below.trans (b.mono K.out.below.size))
    clear b
    go_wp2_with fail
    go_ret
    exact ⟨rfl, BB.out⟩
  | true =>
    obtain ⟨hm300, hmok⟩ := mvOk_yes hm
    have M3 := Lib.hid hm300
    have OKM := Lib.hid hmok
    clear hm300 hmok
    go_enter Try.func23, Try.ntmps23
    go_wp2_with fail
    refine (plain_yes o hp _).mono ?_
    rintro e w1 ⟨rfl, rfl⟩
    have K := Lib.hid ((Kept.start o Ha.out).row ((Hm.out.row.below (((Below.refl _ _).alloc (Nat.le_refl _) _).alloc (by simp) _)).more (Nat.le_succ _)))
    generalize (w.alloc (.cells #[.int .i64 o.kind, .int .i64 o.m] 23)).alloc (.cells #[.int .i64 o.kind, .int .i64 o.m] 23) = w1 at *
    have cm := movesOk_walk moves.length capm Am moves w1 rfl (by omega) ((K.out.rows (Am, actCells moves) (by simp)).acts.more K.out.le)
    rw [hm] at cm
    have CM := Lib.hid cm
    obtain ⟨hc0, hc1⟩ := K.out.c
    clear cm hm hc0 hc1
    obtain ⟨hc0, hc1⟩ := K.out.c
    go_wp2_with fail
    refine CM.out.mono ?_
    rintro e wy ⟨rfl, b⟩
    have K := Lib.hid (K.out.on b)
    clear b hc0 hc1 CM
    obtain ⟨hc0, hc1⟩ := K.out.c
    cases hq : hasK o key (run o acts) with
    | false =>
      have HQ := Lib.hid hq
      clear hq
      go_wp2_with fail
      refine (keptRun K.out Fi.out A acts acts.length cap rfl (by have := L3.out; omega) (by simp)).mono ?_
      rintro e wy ⟨q, cq, rfl, k⟩
      have K := Lib.hid k
      clear k
      obtain ⟨hc0, hc1⟩ := K.out.c
      go_wp2_with fail
      refine (keptAt K.out Fi.out (some ⟨q, 0, none⟩) (run o acts) key (run o acts).length cq rfl (by have := RL.out; omega) (by simp)).mono ?_
      rintro e wy ⟨rfl, k⟩
      have K := Lib.hid k
      clear k
      obtain ⟨hc0, hc1⟩ := K.out.c
      go_wp2_with fail
      refine (keptWalkAt0 K.out Fi.out A acts key acts.length cap rfl (by have := L3.out; omega) (by simp) Am moves.length capm HQ.out).mono ?_
      rintro e wy ⟨A1, c1, rfl, k⟩
      have K := Lib.hid k
      clear k
      obtain ⟨hc0, hc1⟩ := K.out.c
      have CH := Lib.hid (keptHas K.out Fi.out (some ⟨q, 0, none⟩) (run o acts) key (run o acts).length cq rfl (by simp))
      rw [HQ.out] at CH
      go_wp2_with fail
      refine CH.out.mono ?_
      rintro e wy ⟨rfl, k, bh⟩
      have K := Lib.hid k
      clear k bh hc0 hc1 CH
      go_wp2_with fail
      refine (keptGrows K.out).mono ?_
      rintro e wy ⟨rfl, k⟩
      have K := Lib.hid k
      clear k
      go_wp2_with fail
      go_ret
      exact ⟨rfl, K.out.below⟩
    | true =>
      have HQ := Lib.hid hq
      obtain ⟨pq, hpq, _⟩ := hasK_some hq
      have HL := Lib.hid (List.getElem?_eq_some_iff.1 hpq).1
      clear hpq hq
      go_wp2_with fail
      refine (keptRun K.out Fi.out A acts acts.length cap rfl (by have := L3.out; omega) (by simp)).mono ?_
      rintro e wy ⟨q, cq, rfl, k⟩
      have K := Lib.hid k
      clear k
      obtain ⟨hc0, hc1⟩ := K.out.c
      go_wp2_with fail
      refine (keptAt K.out Fi.out (some ⟨q, 0, none⟩) (run o acts) key (run o acts).length cq rfl (by have := RL.out; omega) (by simp)).mono ?_
      rintro e wy ⟨rfl, k⟩
      have K := Lib.hid k
      clear k
      obtain ⟨hc0, hc1⟩ := K.out.c
      go_wp2_with fail
      refine (keptWalkAt K.out Fi.out A acts key acts.length cap rfl (by have := L3.out; omega) (by simp) Am moves moves.length capm rfl (by have := M3.out; omega) (by simp) OKM.out HQ.out).mono ?_
      rintro e wy ⟨A1, c1, rfl, k⟩
      have K := Lib.hid k
      clear k
      obtain ⟨hc0, hc1⟩ := K.out.c
      have CH := Lib.hid (keptHas K.out Fi.out (some ⟨q, 0, none⟩) (run o acts) key (run o acts).length cq rfl (by simp))
      rw [HQ.out] at CH
      go_wp2_with fail
      refine CH.out.mono ?_
      rintro e wy ⟨rfl, k, bh⟩
      have K := Lib.hid k
      clear k bh hc0 hc1 CH
      go_wp2_with fail
      refine (keptSWalkAt K.out (some ⟨q, 0, none⟩) (run o acts) (run o acts).length cq rfl (by have := RL.out; omega) (by simp) (plc o key (run o acts)) HL.out Am moves moves.length capm rfl (by have := M3.out; omega) (by simp) OKM.out).mono ?_
      rintro e wy ⟨A2, c2, rfl, k⟩
      have K := Lib.hid k
      clear k
      go_wp2_with fail
      refine (keptSameSeen K.out (walkFrom (run o acts) (plc o key (run o acts) + 1) moves) moves.length c1 c2 A1 A2 (walkFrom_length _ _ _) (by have := M3.out; omega) (by simp) (by simp)).mono ?_
      rintro e wy ⟨rfl, k⟩
      have K := Lib.hid k
      clear k
      go_wp2_with fail
      refine (keptGrows K.out).mono ?_
      rintro e wy ⟨rfl, k⟩
      have K := Lib.hid k
      clear k
      go_wp2_with fail
      go_ret
      exact ⟨rfl, K.out.below⟩

end Go.Proofs.Ytmgjpppplapgpaa.Rb
