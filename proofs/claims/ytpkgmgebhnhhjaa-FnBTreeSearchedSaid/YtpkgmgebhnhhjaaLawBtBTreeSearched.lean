/- For every order, every list of acts and all numbers: the search from before the first and from behind the last. No condition. -/
import Derived.Test.YtpkgmgebhnhhjaaBtKept
import Derived.Test.YtpkgmgebhnhhjaaBtWalk
import Derived.Test.YtpkgmgebhnhhjaaKeptSWalk
import Derived.Deep.RegionHeld3
import Derived.IntWalk
namespace Go.Proofs.Ytpkgmgebhnhhjaa.Bt
open Go.RowKit Go.Proofs.Ytpkgmgebhnhhjaa

set_option maxHeartbeats 4000000 in
set_option maxRecDepth 100000 in
theorem lawBTreeSearched_walk (m : Int) (o : Ord) (cap : Nat) (A : Option Addr) (acts : List Do) (bb rest : Int) (w : World) (hA : A = none → acts.length = 0 ∧ cap = 0) (ha : ActsAt w w.heap.size A acts) :
    Calls Try.prog 24 #[.int .i64 m, .agg #[.int .i64 o.kind, .int .i64 o.m], .slice A acts.length cap, .int .i64 bb, .int .i64 rest] w fun e w' => e = .returned (.bool true) ∧ Below w.heap.size w w' := by
  have Ha := Lib.hid ha
  have HA := Lib.hid hA
  clear ha hA
  by_cases h0 : 2147483647 < acts.length
  · go_enter Try.func24, Try.ntmps24
    go_wp2_with fail
    go_ret
    exact ⟨rfl, (Below.refl _ _).alloc (Nat.le_refl _) _⟩
  by_cases hm1 : m < 3
  · go_enter Try.func24, Try.ntmps24
    go_wp2_with fail
    go_ret
    exact ⟨rfl, (Below.refl _ _).alloc (Nat.le_refl _) _⟩
  by_cases hm2 : 64 < m
  · have hm1' : ¬ m < 3 := hm1
    go_enter Try.func24, Try.ntmps24
    go_wp2_with fail
    go_ret
    exact ⟨rfl, (Below.refl _ _).alloc (Nat.le_refl _) _⟩
  have hm : 3 ≤ m ∧ m ≤ 64 := ⟨by omega, by omega⟩
  by_cases hp : ¬ o.plain
  · go_enter Try.func24, Try.ntmps24
    go_wp2_with fail
    refine (plain_no o hp _).mono ?_
    rintro e w1 ⟨rfl, rfl⟩
    go_wp2_with fail
    go_ret
    exact ⟨rfl, ((Below.refl _ _).alloc (Nat.le_refl _) _).alloc (by simp) _⟩
  replace hp := Classical.not_not.1 hp
  by_cases h3 : 300 < acts.length
  · go_enter Try.func24, Try.ntmps24
    go_wp2_with fail
    refine (plain_yes o hp _).mono ?_
    rintro e w1 ⟨rfl, rfl⟩
    go_wp2_with fail
    go_ret
    exact ⟨rfl, ((Below.refl _ _).alloc (Nat.le_refl _) _).alloc (by simp) _⟩
  have Fi := Lib.hid (show o.fine from hp.fine)
  have L3 := Lib.hid h3
  have q0 := run_length_le o acts
  have RL := Lib.hid (show (run o acts).length ≤ 1000 by omega)
  clear q0
  by_cases hb1 : bb < 1
  · go_enter Try.func24, Try.ntmps24
    go_wp2_with fail
    refine (plain_yes o hp _).mono ?_
    rintro e w1 ⟨rfl, rfl⟩
    go_wp2_with fail
    go_ret
    exact ⟨rfl, ((Below.refl _ _).alloc (Nat.le_refl _) _).alloc (by simp) _⟩
  by_cases hb2 : 1000 < bb
  · go_enter Try.func24, Try.ntmps24
    go_wp2_with fail
    refine (plain_yes o hp _).mono ?_
    rintro e w1 ⟨rfl, rfl⟩
    go_wp2_with fail
    go_ret
    exact ⟨rfl, ((Below.refl _ _).alloc (Nat.le_refl _) _).alloc (by simp) _⟩
  go_enter Try.func24, Try.ntmps24
  go_wp2_with fail
  refine (plain_yes o hp _).mono ?_
  rintro e w1 ⟨rfl, rfl⟩
  have K := Lib.hid (Kept.start o Ha.out)
  generalize (w.alloc (.cells #[.int .i64 o.kind, .int .i64 o.m] 23)).alloc (.cells #[.int .i64 o.kind, .int .i64 o.m] 23) = w1 at *
  go_wp2_with fail
  have KM := Lib.hid ((K.out.alloc (.cells (actCells [⟨7, bb, rest⟩, ⟨6, 0, 0⟩, ⟨8, bb, rest⟩]).toArray 65)).up (by have := K.out.le; simp; omega) (Nat.le_refl _))
  have K := Lib.hid (KM.out.row (RowAt.of_blk (cs := (actCells [⟨7, bb, rest⟩, ⟨6, 0, 0⟩, ⟨8, bb, rest⟩]).toArray) (Blk.new w1 65 (actCells [⟨7, bb, rest⟩, ⟨6, 0, 0⟩, ⟨8, bb, rest⟩]).toArray)))
  have MS := Lib.hid (show (some ⟨w1.heap.size, 0, none⟩, actCells [⟨7, bb, rest⟩, ⟨6, 0, 0⟩, ⟨8, bb, rest⟩]) ∈ (some (⟨w1.heap.size, 0, none⟩ : Addr), actCells [⟨7, bb, rest⟩, ⟨6, 0, 0⟩, ⟨8, bb, rest⟩]) :: [(A, actCells acts)] by simp)
  clear KM
  have OK3 := Lib.hid (show ∀ d ∈ ([⟨7, bb, rest⟩, ⟨6, 0, 0⟩, ⟨8, bb, rest⟩] : List Do), (d.op = 7 ∨ d.op = 8) → 1 ≤ d.key ∧ d.key ≤ 1000 by intro d hd h78; simp at hd; rcases hd with rfl | rfl | rfl <;> first | (exact ⟨by omega, by omega⟩) | simp at h78)
  obtain ⟨hc0, hc1⟩ := K.out.c
  go_wp2_with fail
  have K := Lib.hid K.out.drew
  go_region_held3 (fun w' => w'.cell? ⟨w.heap.size, 0, none⟩ = some (.int .i64 o.kind) ∧ w'.cell? ⟨w.heap.size, 1, none⟩ = some (.int .i64 o.m)) (exact K.out.c)
    (first
      | (go_at_call 29; refine (keptWalk m hm K.out Fi.out A acts acts.length cap rfl ?_ ?_ (some ⟨w1.heap.size, 0, none⟩) [⟨7, bb, rest⟩, ⟨6, 0, 0⟩, ⟨8, bb, rest⟩] 3 3 rfl ?_ ?_ OK3.out).mono ?_; (have := L3.out; omega); (simp); (omega); (simp); rintro e wy ⟨A3, c3, rfl, k⟩; have K := Lib.hid k; clear k)
      | (go_at_call 37; refine (keptRun K.out Fi.out A acts acts.length cap rfl ?_ ?_).mono ?_; (have := L3.out; first | omega | (simp; omega)); (simp); rintro e wy ⟨q, cq, rfl, k⟩; have K := Lib.hid k; clear k)
      | (go_at_call 43; refine (keptSWalk K.out (some ⟨q, 0, none⟩) (run o acts) (run o acts).length cq rfl ?_ ?_ (some ⟨w1.heap.size, 0, none⟩) [⟨7, bb, rest⟩, ⟨6, 0, 0⟩, ⟨8, bb, rest⟩] 3 3 rfl ?_ ?_ OK3.out).mono ?_; (have := RL.out; omega); (simp); (omega); (simp); rintro e wy ⟨A4, c4, rfl, k⟩; have K := Lib.hid k; clear k)
      | (go_at_call 30; refine (keptSameSeen K.out (walkFrom (run o acts) 0 [⟨7, bb, rest⟩, ⟨6, 0, 0⟩, ⟨8, bb, rest⟩]) 3 _ _ A3 A4 (walkFrom_length _ _ _) ?_ ?_ ?_).mono ?_; (omega); (simp); (simp); rintro e wy ⟨rfl, k⟩; have K := Lib.hid k; clear k)
      | (go_at_call 31; refine (keptGrows K.out).mono ?_; rintro e wy ⟨rfl, k⟩; have K := Lib.hid k; clear k)
    )
  all_goals
    go_wp2_with fail
    go_ret
    exact ⟨rfl, by first | exact K.out.below | exact K.out.drew.below⟩

end Go.Proofs.Ytpkgmgebhnhhjaa.Bt
