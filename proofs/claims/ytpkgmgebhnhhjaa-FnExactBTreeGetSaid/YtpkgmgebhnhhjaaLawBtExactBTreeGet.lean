/- For every order, every list of acts and every number: Get returns the value of a number, and whether there is one. No condition. -/
import Derived.Test.YtpkgmgebhnhhjaaBtKept
import Derived.Deep.RegionHeld3
import Derived.IntWalk
namespace Go.Proofs.Ytpkgmgebhnhhjaa.Bt
open Go.RowKit Go.Proofs.Ytpkgmgebhnhhjaa

set_option maxHeartbeats 4000000 in
set_option maxRecDepth 100000 in
theorem lawExactBTreeGet_walk (m : Int) (o : Ord) (cap : Nat) (A : Option Addr) (acts : List Do) (key : Int) (w : World) (hA : A = none → acts.length = 0 ∧ cap = 0) (ha : ActsAt w w.heap.size A acts) :
    Calls Try.prog 15 #[.int .i64 m, .agg #[.int .i64 o.kind, .int .i64 o.m], .slice A acts.length cap, .int .i64 key] w fun e w' => e = .returned (.bool true) ∧ Below w.heap.size w w' := by
  have Ha := Lib.hid ha
  have HA := Lib.hid hA
  clear ha hA
  by_cases h0 : 2147483647 < acts.length
  · go_enter Try.func15, Try.ntmps15
    go_wp2_with fail
    go_ret
    exact ⟨rfl, (Below.refl _ _).alloc (Nat.le_refl _) _⟩
  by_cases hm1 : m < 3
  · go_enter Try.func15, Try.ntmps15
    go_wp2_with fail
    go_ret
    exact ⟨rfl, (Below.refl _ _).alloc (Nat.le_refl _) _⟩
  by_cases hm2 : 64 < m
  · have hm1' : ¬ m < 3 := hm1
    go_enter Try.func15, Try.ntmps15
    go_wp2_with fail
    go_ret
    exact ⟨rfl, (Below.refl _ _).alloc (Nat.le_refl _) _⟩
  have hm : 3 ≤ m ∧ m ≤ 64 := ⟨by omega, by omega⟩
  by_cases hp : ¬ o.fine
  · go_enter Try.func15, Try.ntmps15
    go_wp2_with fail
    refine (fine_no o hp _).mono ?_
    rintro e w1 ⟨rfl, rfl⟩
    go_wp2_with fail
    go_ret
    exact ⟨rfl, ((Below.refl _ _).alloc (Nat.le_refl _) _).alloc (by simp) _⟩
  replace hp := Classical.not_not.1 hp
  by_cases h3 : 300 < acts.length
  · go_enter Try.func15, Try.ntmps15
    go_wp2_with fail
    refine (fine_yes o hp _).mono ?_
    rintro e w1 ⟨rfl, rfl⟩
    go_wp2_with fail
    go_ret
    exact ⟨rfl, ((Below.refl _ _).alloc (Nat.le_refl _) _).alloc (by simp) _⟩
  have Fi := Lib.hid (show o.fine from hp)
  have L3 := Lib.hid h3
  have q0 := run_length_le o acts
  have RL := Lib.hid (show (run o acts).length ≤ 1000 by omega)
  clear q0
  go_enter Try.func15, Try.ntmps15
  go_wp2_with fail
  refine (fine_yes o hp _).mono ?_
  rintro e w1 ⟨rfl, rfl⟩
  have K := Lib.hid (Kept.start o Ha.out)
  generalize (w.alloc (.cells #[.int .i64 o.kind, .int .i64 o.m] 23)).alloc (.cells #[.int .i64 o.kind, .int .i64 o.m] 23) = w1 at *
  have C1 := Lib.hid (fun (rows : List (Option Addr × List Value)) (sts : List (Value × KV)) (B : Nat) (wx : World) (K : Kept w w.heap.size o rows sts B wx) (hmm : (A, actCells acts) ∈ rows) => keptGet m hm K Fi.out A acts key acts.length cap rfl (by have := L3.out; omega) hmm)
  have C2 := Lib.hid (fun (rows : List (Option Addr × List Value)) (sts : List (Value × KV)) (B : Nat) (wx : World) (A2 : Option Addr) (cap2 : Nat) (K : Kept w w.heap.size o rows sts B wx) (hmm : (A2, prCells (run o acts)) ∈ rows) => keptFind K Fi.out A2 (run o acts) key (run o acts).length cap2 rfl (by have := RL.out; omega) hmm)
  have C3 := Lib.hid (fun (rows : List (Option Addr × List Value)) (sts : List (Value × KV)) (B : Nat) (wx : World) (A2 : Option Addr) (cap2 : Nat) (K : Kept w w.heap.size o rows sts B wx) (hmm : (A2, prCells (run o acts)) ∈ rows) => keptFindB (K.alloc (.cells #[.int .i64 0, .int .i64 0] 54)) (Blk.new _ _ _) Fi.out A2 (run o acts) key (run o acts).length cap2 rfl (by have := RL.out; omega) hmm)
  have C4 := Lib.hid (fun (rows : List (Option Addr × List Value)) (sts : List (Value × KV)) (B : Nat) (wx : World) (A2 : Option Addr) (cap2 : Nat) (pb : Nat) (t : TypeId) (cs : Array Value) (K : Kept w w.heap.size o rows sts B wx) (hb : Blk wx pb t cs) (hmm : (A2, prCells (run o acts)) ∈ rows) => keptFindB K hb Fi.out A2 (run o acts) key (run o acts).length cap2 rfl (by have := RL.out; omega) hmm)
  cases hq : look o key (run o acts) with
  | some p =>
    rw [hq] at C1 C2 C3 C4
    simp only [gotV, pairV] at C1 C2 C3 C4
    clear hq
    obtain ⟨hc0, hc1⟩ := K.out.c
    go_wp2_with fail
    refine (C1.out _ _ _ _ K.out (by simp)).mono ?_
    rintro e wy ⟨rfl, k⟩
    have K := Lib.hid k
    clear k
    obtain ⟨hc0, hc1⟩ := K.out.c
    obtain ⟨hc0, hc1⟩ := K.out.c
    go_wp2_with fail
    have K := Lib.hid K.out.drew
    go_region_held3 (fun w' => w'.cell? ⟨w.heap.size, 0, none⟩ = some (.int .i64 o.kind) ∧ w'.cell? ⟨w.heap.size, 1, none⟩ = some (.int .i64 o.m)) (first | exact K.out.c | exact (K.out.alloc _).c | (have kk := K.out.c; simp [kk.1, kk.2, World.cell?_alloc_some]; done) | (have kk := K.out.c; simp [kk.1, kk.2, World.cell?_setCell_far, hgn]; done) | (have kk := K.out.c; simp [kk.1, kk.2, World.cell?_alloc_some, World.cell?_setCell_far, (K.out.new_ne (Nat.le_refl _))]; done))
      (first
        | (go_at_call 37; refine (keptRun K.out Fi.out A acts acts.length cap rfl (by have := L3.out; omega) ?_).mono ?_; (simp); rintro e wy ⟨q, cq, rfl, k⟩; have K := Lib.hid k; clear k)
        | (go_at_call 37; refine (keptRunB (K.out.alloc _) (show Blk _ wy.heap.size _ _ from Blk.new _ _ _) Fi.out A acts acts.length cap rfl (by have := L3.out; omega) ?_).mono ?_; (simp); have PG := Lib.hid (show w.heap.size ≤ wy.heap.size from K.out.new_ge (Nat.le_refl _)); have hgn := (show wy.heap.size ≠ w.heap.size from K.out.new_ne (Nat.le_refl _)); rintro e wy ⟨q, cq, rfl, k, pb⟩; have K := Lib.hid k; clear k; have PB := Lib.hid pb; clear pb; obtain ⟨hr0, hr1⟩ := (show _ = some (Value.int .i64 0) ∧ _ = some (Value.int .i64 0) from ⟨PB.out.cell 0, PB.out.cell 1⟩); have hrf := PB.out.frozen)
        | (go_at_call 38; refine (C4.out _ _ _ _ (some ⟨q, 0, none⟩) cq _ _ _ K.out PB.out ?_).mono ?_; (simp); rintro e wy ⟨rfl, k, pb⟩; have K := Lib.hid k; clear k; have PB := Lib.hid pb; clear pb; obtain ⟨hr0, hr1⟩ := (show _ = some (Value.int .i64 0) ∧ _ = some (Value.int .i64 0) from ⟨PB.out.cell 0, PB.out.cell 1⟩); have hrf := PB.out.frozen)
        | (go_at_call 38; refine (C2.out _ _ _ _ (some ⟨q, 0, none⟩) cq K.out ?_).mono ?_; (simp); rintro e wy ⟨rfl, k⟩; have K := Lib.hid k; clear k)
        | (go_at_call 38; refine (C3.out _ _ _ _ (some ⟨q, 0, none⟩) cq K.out ?_).mono ?_; (simp); have PG := Lib.hid (show w.heap.size ≤ wy.heap.size from K.out.new_ge (Nat.le_refl _)); have hgn := (show wy.heap.size ≠ w.heap.size from K.out.new_ne (Nat.le_refl _)); rintro e wy ⟨rfl, k, pb⟩; have K := Lib.hid k; clear k; have PB := Lib.hid pb; clear pb; obtain ⟨hr0, hr1⟩ := (show _ = some (Value.int .i64 0) ∧ _ = some (Value.int .i64 0) from ⟨PB.out.cell 0, PB.out.cell 1⟩); have hrf := PB.out.frozen)
      )
    all_goals
      clear C1 C2 C3 C4
      go_wp2_with fail
      refine (growsBTree_walk _).mono ?_
      rintro e wz ⟨rfl, bz⟩
      have BZ := Lib.hid bz
      clear bz
      go_wp2_with fail
      go_ret
      first
      | exact ⟨rfl, (K.out.below.alloc K.out.below.size _).trans (BZ.out.mono (K.out.below.alloc K.out.below.size _).size)⟩
      | exact ⟨rfl, ((K.out.below.setCell (p := ⟨_, 0, none⟩) PG.out _).setCell (p := ⟨_, 1, none⟩) PG.out _).trans (BZ.out.mono ((K.out.below.setCell (p := ⟨_, 0, none⟩) PG.out _).setCell (p := ⟨_, 1, none⟩) PG.out _).size)⟩
  | none =>
    rw [hq] at C1 C2 C3 C4
    simp only [gotV, pairV] at C1 C2 C3 C4
    clear hq
    obtain ⟨hc0, hc1⟩ := K.out.c
    go_wp2_with fail
    refine (C1.out _ _ _ _ K.out (by simp)).mono ?_
    rintro e wy ⟨rfl, k⟩
    have K := Lib.hid k
    clear k
    obtain ⟨hc0, hc1⟩ := K.out.c
    obtain ⟨hc0, hc1⟩ := K.out.c
    go_wp2_with fail
    have K := Lib.hid K.out.drew
    go_region_held3 (fun w' => w'.cell? ⟨w.heap.size, 0, none⟩ = some (.int .i64 o.kind) ∧ w'.cell? ⟨w.heap.size, 1, none⟩ = some (.int .i64 o.m)) (first | exact K.out.c | exact (K.out.alloc _).c | (have kk := K.out.c; simp [kk.1, kk.2, World.cell?_alloc_some]; done) | (have kk := K.out.c; simp [kk.1, kk.2, World.cell?_setCell_far, hgn]; done) | (have kk := K.out.c; simp [kk.1, kk.2, World.cell?_alloc_some, World.cell?_setCell_far, (K.out.new_ne (Nat.le_refl _))]; done))
      (first
        | (go_at_call 37; refine (keptRun K.out Fi.out A acts acts.length cap rfl (by have := L3.out; omega) ?_).mono ?_; (simp); rintro e wy ⟨q, cq, rfl, k⟩; have K := Lib.hid k; clear k)
        | (go_at_call 37; refine (keptRunB (K.out.alloc _) (show Blk _ wy.heap.size _ _ from Blk.new _ _ _) Fi.out A acts acts.length cap rfl (by have := L3.out; omega) ?_).mono ?_; (simp); have PG := Lib.hid (show w.heap.size ≤ wy.heap.size from K.out.new_ge (Nat.le_refl _)); have hgn := (show wy.heap.size ≠ w.heap.size from K.out.new_ne (Nat.le_refl _)); rintro e wy ⟨q, cq, rfl, k, pb⟩; have K := Lib.hid k; clear k; have PB := Lib.hid pb; clear pb; obtain ⟨hr0, hr1⟩ := (show _ = some (Value.int .i64 0) ∧ _ = some (Value.int .i64 0) from ⟨PB.out.cell 0, PB.out.cell 1⟩); have hrf := PB.out.frozen)
        | (go_at_call 38; refine (C4.out _ _ _ _ (some ⟨q, 0, none⟩) cq _ _ _ K.out PB.out ?_).mono ?_; (simp); rintro e wy ⟨rfl, k, pb⟩; have K := Lib.hid k; clear k; have PB := Lib.hid pb; clear pb; obtain ⟨hr0, hr1⟩ := (show _ = some (Value.int .i64 0) ∧ _ = some (Value.int .i64 0) from ⟨PB.out.cell 0, PB.out.cell 1⟩); have hrf := PB.out.frozen)
        | (go_at_call 38; refine (C2.out _ _ _ _ (some ⟨q, 0, none⟩) cq K.out ?_).mono ?_; (simp); rintro e wy ⟨rfl, k⟩; have K := Lib.hid k; clear k)
        | (go_at_call 38; refine (C3.out _ _ _ _ (some ⟨q, 0, none⟩) cq K.out ?_).mono ?_; (simp); have PG := Lib.hid (show w.heap.size ≤ wy.heap.size from K.out.new_ge (Nat.le_refl _)); have hgn := (show wy.heap.size ≠ w.heap.size from K.out.new_ne (Nat.le_refl _)); rintro e wy ⟨rfl, k, pb⟩; have K := Lib.hid k; clear k; have PB := Lib.hid pb; clear pb; obtain ⟨hr0, hr1⟩ := (show _ = some (Value.int .i64 0) ∧ _ = some (Value.int .i64 0) from ⟨PB.out.cell 0, PB.out.cell 1⟩); have hrf := PB.out.frozen)
      )
    all_goals
      clear C1 C2 C3 C4
      go_wp2_with fail
      refine (growsBTree_walk _).mono ?_
      rintro e wz ⟨rfl, bz⟩
      have BZ := Lib.hid bz
      clear bz
      go_wp2_with fail
      go_ret
      first
      | exact ⟨rfl, (K.out.below.alloc K.out.below.size _).trans (BZ.out.mono (K.out.below.alloc K.out.below.size _).size)⟩
      | exact ⟨rfl, ((K.out.below.setCell (p := ⟨_, 0, none⟩) PG.out _).setCell (p := ⟨_, 1, none⟩) PG.out _).trans (BZ.out.mono ((K.out.below.setCell (p := ⟨_, 0, none⟩) PG.out _).setCell (p := ⟨_, 1, none⟩) PG.out _).size)⟩

end Go.Proofs.Ytpkgmgebhnhhjaa.Bt
