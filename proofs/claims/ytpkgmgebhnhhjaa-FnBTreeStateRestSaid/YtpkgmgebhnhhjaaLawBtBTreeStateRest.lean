/- For every order and every list of acts: by rests, a number that is put in takes the place, key and value, of the one that is the same in the order. No condition. -/
import Derived.Test.YtpkgmgebhnhhjaaBtKept
import Derived.Deep.RegionHeld3
import Derived.Deep.RegionHeldLaw
import Derived.IntWalk
namespace Go.Proofs.Ytpkgmgebhnhhjaa.Bt
open Go.RowKit Go.Proofs.Ytpkgmgebhnhhjaa

set_option maxHeartbeats 4000000 in
set_option maxRecDepth 100000 in
theorem lawBTreeStateRest_walk (m : Int) (o : Ord) (cap : Nat) (A : Option Addr) (acts : List Do) (w : World) (_hA : A = none → acts.length = 0 ∧ cap = 0) (ha : ActsAt w w.heap.size A acts) :
    Calls Try.prog 9 #[.int .i64 m, .agg #[.int .i64 o.kind, .int .i64 o.m], .slice A acts.length cap] w fun e w' => e = .returned (.bool true) ∧ Below w.heap.size w w' := by
  have Ha := Lib.hid ha
  clear ha
  by_cases h0 : 2147483647 < acts.length
  · go_enter Try.func9, Try.ntmps9
    go_wp2_with fail
    go_ret
    exact ⟨rfl, (Below.refl _ _).alloc (Nat.le_refl _) _⟩
  by_cases hm1 : m < 3
  · go_enter Try.func9, Try.ntmps9
    go_wp2_with fail
    refine (growsBTree_walk _).mono ?_
    rintro e wz ⟨rfl, bz⟩
    have Bz := Lib.hid bz
    clear bz
    go_wp2_with fail
    go_ret
    exact ⟨rfl, ((Below.refl _ _).alloc (Nat.le_refl _) _).trans (Bz.out.mono (by first | (simp; done) | (simp; omega) | omega))⟩
  by_cases hm2 : 64 < m
  · have hm1' : ¬ m < 3 := hm1
    go_enter Try.func9, Try.ntmps9
    go_wp2_with fail
    refine (growsBTree_walk _).mono ?_
    rintro e wz ⟨rfl, bz⟩
    have Bz := Lib.hid bz
    clear bz
    go_wp2_with fail
    go_ret
    exact ⟨rfl, ((Below.refl _ _).alloc (Nat.le_refl _) _).trans (Bz.out.mono (by first | (simp; done) | (simp; omega) | omega))⟩
  have hm : 3 ≤ m ∧ m ≤ 64 := ⟨by omega, by omega⟩
  by_cases hp : ¬ o.fine
  · go_enter Try.func9, Try.ntmps9
    go_wp2_with fail
    refine (fine_no o hp _).mono ?_
    rintro e w1 ⟨rfl, rfl⟩
    go_wp2_with fail
    refine (growsBTree_walk _).mono ?_
    rintro e wz ⟨rfl, bz⟩
    have Bz := Lib.hid bz
    clear bz
    go_wp2_with fail
    go_ret
    exact ⟨rfl, (((Below.refl _ _).alloc (Nat.le_refl _) _).alloc (by simp) _).trans (Bz.out.mono (by first | (simp; done) | (simp; omega) | omega))⟩
  replace hp := Classical.not_not.1 hp
  by_cases h3 : 300 < acts.length
  · go_enter Try.func9, Try.ntmps9
    go_wp2_with fail
    refine (fine_yes o hp _).mono ?_
    rintro e w1 ⟨rfl, rfl⟩
    go_wp2_with fail
    refine (growsBTree_walk _).mono ?_
    rintro e wz ⟨rfl, bz⟩
    have Bz := Lib.hid bz
    clear bz
    go_wp2_with fail
    go_ret
    exact ⟨rfl, (((Below.refl _ _).alloc (Nat.le_refl _) _).alloc (by simp) _).trans (Bz.out.mono (by first | (simp; done) | (simp; omega) | omega))⟩
  by_cases hk : ¬ o.kind = 2
  · have hk1 : (o.kind != 2) = true := by simpa using hk
    have hk2 : (o.kind == 2) = false := by simpa using hk
    go_enter Try.func9, Try.ntmps9
    go_wp2_with fail
    refine (fine_yes o hp _).mono ?_
    rintro e w1 ⟨rfl, rfl⟩
    go_wp2_with fail
    refine (growsBTree_walk _).mono ?_
    rintro e wz ⟨rfl, bz⟩
    have Bz := Lib.hid bz
    clear bz
    go_wp2_with fail
    go_ret
    exact ⟨rfl, (((Below.refl _ _).alloc (Nat.le_refl _) _).alloc (by simp) _).trans (Bz.out.mono (by first | (simp; done) | (simp; omega) | omega))⟩
  replace hk := Classical.not_not.1 hk
  have hk1 : (o.kind != 2) = false := by simp [hk]
  have hk2 : (o.kind == 2) = true := by simp [hk]
  have Fi := Lib.hid (show o.fine from hp)
  have L3 := Lib.hid h3
  have q0 := run_length_le o acts
  have RL := Lib.hid (show (run o acts).length ≤ 1000 by omega)
  have HK := Lib.hid hk
  clear q0 hk
  go_enter Try.func9, Try.ntmps9
  go_wp2_with fail
  refine (fine_yes o hp _).mono ?_
  rintro e w1 ⟨rfl, rfl⟩
  have K := Lib.hid (Kept.start o Ha.out)
  generalize (w.alloc (.cells #[.int .i64 o.kind, .int .i64 o.m] 23)).alloc (.cells #[.int .i64 o.kind, .int .i64 o.m] 23) = w1 at *
  obtain ⟨hc0, hc1⟩ := K.out.c
  go_wp2_with fail
  have K := Lib.hid K.out.drew
  go_region_held3 (fun w' => w'.cell? ⟨w.heap.size, 0, none⟩ = some (.int .i64 o.kind) ∧ w'.cell? ⟨w.heap.size, 1, none⟩ = some (.int .i64 o.m)) (exact K.out.c)
    (first
      | (go_at_call_of 34 (A : Option Addr); refine (keptState m hm K.out Fi.out A acts acts.length cap ?_ ?_ ?_).mono ?_; (simp); (have := L3.out; first | omega | (simp; omega)); (simp); rintro e wy ⟨v1, rfl, k⟩; have K := Lib.hid k; clear k)
      | (go_at_call 37; refine (keptRun K.out Fi.out A acts acts.length cap rfl ?_ ?_).mono ?_; (have := L3.out; first | omega | (simp; omega)); (simp); rintro e wy ⟨q, cq, rfl, k⟩; have K := Lib.hid k; clear k)
      | (go_at_call 36; refine (keptSState K.out (some ⟨q, 0, none⟩) (run o acts) (run o acts).length cq rfl ?_ ?_).mono ?_; (have := RL.out; omega); (simp); rintro e wy ⟨vs, rfl, k⟩; have K := Lib.hid k; clear k)
      | (go_at_call 33; refine (keptSame K.out v1 vs (run o acts) (by have := RL.out; omega) ?_ ?_).mono ?_; (simp); (simp); rintro e wy ⟨rfl, k⟩; have K := Lib.hid k; clear k)
      | (go_at_call 31; refine (keptGrows K.out).mono ?_; rintro e wy ⟨rfl, k⟩; have K := Lib.hid k; clear k)
    )
  all_goals
    go_wp2_with fail
    go_ret
    exact ⟨rfl, by first | exact K.out.below | exact K.out.drew.below⟩

end Go.Proofs.Ytpkgmgebhnhhjaa.Bt
