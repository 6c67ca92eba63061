/- For every order, every list of acts and every number: an iterator at a node goes on from it. No condition. -/
import Derived.Test.YtmgjpppplapgpaaKeptRb
import Derived.Test.YtmgjpppplapgpaaRbWalkAt
import Derived.Test.YtmgjpppplapgpaaKeptFewRb
import Derived.Deep.RegionHeld3
import Derived.IntWalk
namespace Go.Proofs.Ytmgjpppplapgpaa.Rb
open Go.RowKit Go.Proofs.Ytmgjpppplapgpaa

set_option maxHeartbeats 4000000 in
set_option maxRecDepth 100000 in
theorem lawRedBlackWalkAt_walk (o : Ord) (cap : Nat) (A : Option Addr) (acts : List Do) (key : Int) (w : World) (hA : A = none → acts.length = 0 ∧ cap = 0) (ha : ActsAt w w.heap.size A acts) :
    Calls Try.prog 24 #[.agg #[.int .i64 o.kind, .int .i64 o.m], .slice A acts.length cap, .int .i64 key] w fun e w' => e = .returned (.bool true) ∧ Below w.heap.size w w' := by
  have Ha := Lib.hid ha
  have HA := Lib.hid hA
  clear ha hA
  by_cases h0 : 2147483647 < acts.length
  · go_enter Try.func24, Try.ntmps24
    go_wp2_with fail
    go_ret
    exact ⟨rfl, (Below.refl _ _).alloc (Nat.le_refl _) _⟩
  by_cases hp : ¬ o.plain
  · go_enter Try.func24, Try.ntmps24
    go_wp2_with fail
    refine (plain_no o hp _).mono ?_
    rintro e w1 ⟨rfl, rfl⟩
    go_wp2_with fail
    go_ret
    exact ⟨rfl, ((Below.refl _ _).alloc (Nat.le_refl _) _).alloc (by simp) _⟩
  replace hp := Classical.not_not.1 hp
  by_cases h3 : 300 < acts.length
  · go_enter Try.func24, Try.ntmps24
    go_wp2_with fail
    refine (plain_yes o hp _).mono ?_
    rintro e w1 ⟨rfl, rfl⟩
    go_wp2_with fail
    go_ret
    exact ⟨rfl, ((Below.refl _ _).alloc (Nat.le_refl _) _).alloc (by simp) _⟩
  have Fi := Lib.hid (show o.fine from hp.fine)
  have L3 := Lib.hid h3
  have q0 := run_length_le o acts
  have RL := Lib.hid (show (run o acts).length ≤ 1000 by omega)
  clear q0
  go_enter Try.func24, Try.ntmps24
  go_wp2_with fail
  refine (plain_yes o hp _).mono ?_
  rintro e w1 ⟨rfl, rfl⟩
  have K := Lib.hid (Kept.start o Ha.out)
  generalize (w.alloc (.cells #[.int .i64 o.kind, .int .i64 o.m] 23)).alloc (.cells #[.int .i64 o.kind, .int .i64 o.m] 23) = w1 at *
  cases hq : hasK o key (run o acts) with
  | false =>
    have HQ := Lib.hid hq
    clear hq
    obtain ⟨hc0, hc1⟩ := K.out.c
    go_wp2_with fail
    refine (keptRun K.out Fi.out A acts acts.length cap rfl (by have := L3.out; omega) (by simp)).mono ?_
    rintro e wy ⟨q, cq, rfl, k⟩
    have K := Lib.hid k
    clear k
    obtain ⟨hc0, hc1⟩ := K.out.c
    go_wp2_with fail
    refine (keptAt K.out Fi.out (some ⟨q, 0, none⟩) (run o acts) key (run o acts).length cq rfl (by have := RL.out; omega) (by simp)).mono ?_
    rintro e wy ⟨rfl, k⟩
    have K := Lib.hid k
    clear k
    obtain ⟨hc0, hc1⟩ := K.out.c
    have KM := Lib.hid ((K.out.alloc (.cells (actCells [⟨1, 0, 0⟩]).toArray 62)).up (Nat.le_trans K.out.le (by simp)) (Nat.le_refl _))
    have K := Lib.hid (KM.out.row (RowAt.of_blk (cs := (actCells [⟨1, 0, 0⟩]).toArray) (Blk.new wy 62 (actCells [⟨1, 0, 0⟩]).toArray)))
    clear KM
    obtain ⟨hc0, hc1⟩ := K.out.c
    go_wp2_with fail
    refine (keptWalkAt0 K.out Fi.out A acts key acts.length cap rfl (by have := L3.out; omega) (by simp) (some ⟨wy.heap.size, 0, none⟩) 1 1 HQ.out).mono ?_
    rintro e wy ⟨A1, cA1, rfl, k⟩
    have K := Lib.hid k
    clear k hc0 hc1
    obtain ⟨hc0, hc1⟩ := K.out.c
    have KM := Lib.hid ((K.out.alloc (.cells (actCells [⟨2, 0, 0⟩]).toArray 62)).up (Nat.le_trans K.out.le (by simp)) (Nat.le_refl _))
    have K := Lib.hid (KM.out.row (RowAt.of_blk (cs := (actCells [⟨2, 0, 0⟩]).toArray) (Blk.new wy 62 (actCells [⟨2, 0, 0⟩]).toArray)))
    clear KM
    obtain ⟨hc0, hc1⟩ := K.out.c
    go_wp2_with fail
    refine (keptWalkAt0 K.out Fi.out A acts key acts.length cap rfl (by have := L3.out; omega) (by simp) (some ⟨wy.heap.size, 0, none⟩) 1 1 HQ.out).mono ?_
    rintro e wy ⟨A2, cA2, rfl, k⟩
    have K := Lib.hid k
    clear k hc0 hc1
    obtain ⟨hc0, hc1⟩ := K.out.c
    have CH := Lib.hid (keptHas K.out Fi.out (some ⟨q, 0, none⟩) (run o acts) key (run o acts).length cq rfl (by simp))
    rw [HQ.out] at CH
    go_wp2_with fail
    refine CH.out.mono ?_
    rintro e wy ⟨rfl, k, bh⟩
    have K := Lib.hid k
    clear k bh hc0 hc1 CH
    go_wp2_with fail
    refine (keptGrows K.out).mono ?_
    rintro e wy ⟨rfl, k⟩
    have K := Lib.hid k
    clear k
    go_wp2_with fail
    go_ret
    exact ⟨rfl, K.out.below⟩
  | true =>
    have HQ := Lib.hid hq
    obtain ⟨pq, hpq, _⟩ := hasK_some hq
    have HL := Lib.hid (List.getElem?_eq_some_iff.1 hpq).1
    clear hpq hq
    obtain ⟨hc0, hc1⟩ := K.out.c
    go_wp2_with fail
    refine (keptRun K.out Fi.out A acts acts.length cap rfl (by have := L3.out; omega) (by simp)).mono ?_
    rintro e wy ⟨q, cq, rfl, k⟩
    have K := Lib.hid k
    clear k
    obtain ⟨hc0, hc1⟩ := K.out.c
    go_wp2_with fail
    refine (keptAt K.out Fi.out (some ⟨q, 0, none⟩) (run o acts) key (run o acts).length cq rfl (by have := RL.out; omega) (by simp)).mono ?_
    rintro e wy ⟨rfl, k⟩
    have K := Lib.hid k
    clear k
    obtain ⟨hc0, hc1⟩ := K.out.c
    have OK1 := Lib.hid (show ∀ d ∈ ([⟨1, 0, 0⟩] : List Do), (d.op = 7 ∨ d.op = 8) → 1 ≤ d.key ∧ d.key ≤ 1000 by intro d hd h78; simp at hd; subst hd; simp at h78)
    have OK2 := Lib.hid (show ∀ d ∈ ([⟨2, 0, 0⟩] : List Do), (d.op = 7 ∨ d.op = 8) → 1 ≤ d.key ∧ d.key ≤ 1000 by intro d hd h78; simp at hd; subst hd; simp at h78)
    have KM := Lib.hid ((K.out.alloc (.cells (actCells [⟨1, 0, 0⟩]).toArray 62)).up (Nat.le_trans K.out.le (by simp)) (Nat.le_refl _))
    have K := Lib.hid (KM.out.row (RowAt.of_blk (cs := (actCells [⟨1, 0, 0⟩]).toArray) (Blk.new wy 62 (actCells [⟨1, 0, 0⟩]).toArray)))
    clear KM
    obtain ⟨hc0, hc1⟩ := K.out.c
    go_wp2_with fail
    refine (keptWalkAt K.out Fi.out A acts key acts.length cap rfl (by have := L3.out; omega) (by simp) (some ⟨wy.heap.size, 0, none⟩) [⟨1, 0, 0⟩] 1 1 rfl (by omega) (by simp) OK1.out HQ.out).mono ?_
    rintro e wy ⟨A1, cA1, rfl, k⟩
    have K := Lib.hid k
    clear k hc0 hc1
    obtain ⟨hc0, hc1⟩ := K.out.c
    have KM := Lib.hid ((K.out.alloc (.cells (actCells [⟨2, 0, 0⟩]).toArray 62)).up (Nat.le_trans K.out.le (by simp)) (Nat.le_refl _))
    have K := Lib.hid (KM.out.row (RowAt.of_blk (cs := (actCells [⟨2, 0, 0⟩]).toArray) (Blk.new wy 62 (actCells [⟨2, 0, 0⟩]).toArray)))
    clear KM
    obtain ⟨hc0, hc1⟩ := K.out.c
    go_wp2_with fail
    refine (keptWalkAt K.out Fi.out A acts key acts.length cap rfl (by have := L3.out; omega) (by simp) (some ⟨wy.heap.size, 0, none⟩) [⟨2, 0, 0⟩] 1 1 rfl (by omega) (by simp) OK2.out HQ.out).mono ?_
    rintro e wy ⟨A2, cA2, rfl, k⟩
    have K := Lib.hid k
    clear k hc0 hc1
    obtain ⟨hc0, hc1⟩ := K.out.c
    have CH := Lib.hid (keptHas K.out Fi.out (some ⟨q, 0, none⟩) (run o acts) key (run o acts).length cq rfl (by simp))
    rw [HQ.out] at CH
    go_wp2_with fail
    refine CH.out.mono ?_
    rintro e wy ⟨rfl, k, bh⟩
    have K := Lib.hid k
    clear k bh hc0 hc1 CH
    have KM := Lib.hid ((K.out.alloc (.cells (actCells [⟨1, 0, 0⟩]).toArray 62)).up (Nat.le_trans K.out.le (by simp)) (Nat.le_refl _))
    have K := Lib.hid (KM.out.row (RowAt.of_blk (cs := (actCells [⟨1, 0, 0⟩]).toArray) (Blk.new wy 62 (actCells [⟨1, 0, 0⟩]).toArray)))
    clear KM
    go_wp2_with fail
    refine (keptSWalkAt K.out (some ⟨q, 0, none⟩) (run o acts) (run o acts).length cq rfl (by have := RL.out; omega) (by simp) (plc o key (run o acts)) HL.out (some ⟨wy.heap.size, 0, none⟩) [⟨1, 0, 0⟩] 1 1 rfl (by omega) (by simp) OK1.out).mono ?_
    rintro e wy ⟨A3, cA3, rfl, k⟩
    have K := Lib.hid k
    clear k
    go_wp2_with fail
    refine (keptSameSeen K.out (walkFrom (run o acts) (plc o key (run o acts) + 1) [⟨1, 0, 0⟩]) 1 cA1 cA3 A1 A3 (walkFrom_length _ _ _) (by omega) (by simp) (by simp)).mono ?_
    rintro e wy ⟨rfl, k⟩
    have K := Lib.hid k
    clear k
    have KM := Lib.hid ((K.out.alloc (.cells (actCells [⟨2, 0, 0⟩]).toArray 62)).up (Nat.le_trans K.out.le (by simp)) (Nat.le_refl _))
    have K := Lib.hid (KM.out.row (RowAt.of_blk (cs := (actCells [⟨2, 0, 0⟩]).toArray) (Blk.new wy 62 (actCells [⟨2, 0, 0⟩]).toArray)))
    clear KM
    go_wp2_with fail
    refine (keptSWalkAt K.out (some ⟨q, 0, none⟩) (run o acts) (run o acts).length cq rfl (by have := RL.out; omega) (by simp) (plc o key (run o acts)) HL.out (some ⟨wy.heap.size, 0, none⟩) [⟨2, 0, 0⟩] 1 1 rfl (by omega) (by simp) OK2.out).mono ?_
    rintro e wy ⟨A4, cA4, rfl, k⟩
    have K := Lib.hid k
    clear k
    go_wp2_with fail
    refine (keptSameSeen K.out (walkFrom (run o acts) (plc o key (run o acts) + 1) [⟨2, 0, 0⟩]) 1 cA2 cA4 A2 A4 (walkFrom_length _ _ _) (by omega) (by simp) (by simp)).mono ?_
    rintro e wy ⟨rfl, k⟩
    have K := Lib.hid k
    clear k
    go_wp2_with fail
    go_ret
    exact ⟨rfl, K.out.below⟩

end Go.Proofs.Ytmgjpppplapgpaa.Rb
