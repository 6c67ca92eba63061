/- For every order, every list of acts and every number: GetNode returns a node that has the number, just if there is one. No condition. -/
import Derived.Test.YtpkgmgebhnhhjaaBtKept
import Derived.Test.YtpkgmgebhnhhjaaKeptFewBt
import Derived.Deep.RegionHeld3
import Derived.IntWalk
namespace Go.Proofs.Ytpkgmgebhnhhjaa.Bt
open Go.RowKit Go.Proofs.Ytpkgmgebhnhhjaa

/-- What lies in a row of numbers. -/
def CellsOf (w : World) (A : Option Addr) (xs : List Int) : Prop := ∀ (j : Nat) (x : Int), xs[j]? = some x → ∃ a, A = some a ∧ w.cell? (a.add j) = some (.int .i64 x)

set_option maxHeartbeats 4000000 in
set_option maxRecDepth 100000 in
theorem lawExactBTreeNode_walk (m : Int) (o : Ord) (cap : Nat) (A : Option Addr) (acts : List Do) (key : Int) (w : World) (hA : A = none → acts.length = 0 ∧ cap = 0) (ha : ActsAt w w.heap.size A acts) :
    Calls Try.prog 16 #[.int .i64 m, .agg #[.int .i64 o.kind, .int .i64 o.m], .slice A acts.length cap, .int .i64 key] w fun e w' => e = .returned (.bool true) ∧ Below w.heap.size w w' := by
  have Ha := Lib.hid ha
  have HA := Lib.hid hA
  clear ha hA
  by_cases h0 : 2147483647 < acts.length
  · go_enter Try.func16, Try.ntmps16
    go_wp2_with fail
    go_ret
    exact ⟨rfl, (Below.refl _ _).alloc (Nat.le_refl _) _⟩
  by_cases hm1 : m < 3
  · go_enter Try.func16, Try.ntmps16
    go_wp2_with fail
    go_ret
    exact ⟨rfl, (Below.refl _ _).alloc (Nat.le_refl _) _⟩
  by_cases hm2 : 64 < m
  · have hm1' : ¬ m < 3 := hm1
    go_enter Try.func16, Try.ntmps16
    go_wp2_with fail
    go_ret
    exact ⟨rfl, (Below.refl _ _).alloc (Nat.le_refl _) _⟩
  have hm : 3 ≤ m ∧ m ≤ 64 := ⟨by omega, by omega⟩
  by_cases hp : ¬ o.plain
  · go_enter Try.func16, Try.ntmps16
    go_wp2_with fail
    refine (plain_no o hp _).mono ?_
    rintro e w1 ⟨rfl, rfl⟩
    go_wp2_with fail
    go_ret
    exact ⟨rfl, ((Below.refl _ _).alloc (Nat.le_refl _) _).alloc (by simp) _⟩
  replace hp := Classical.not_not.1 hp
  by_cases h3 : 300 < acts.length
  · go_enter Try.func16, Try.ntmps16
    go_wp2_with fail
    refine (plain_yes o hp _).mono ?_
    rintro e w1 ⟨rfl, rfl⟩
    go_wp2_with fail
    go_ret
    exact ⟨rfl, ((Below.refl _ _).alloc (Nat.le_refl _) _).alloc (by simp) _⟩
  have Fi := Lib.hid (show o.fine from hp.fine)
  have L3 := Lib.hid h3
  have q0 := run_length_le o acts
  have RL := Lib.hid (show (run o acts).length ≤ 1000 by omega)
  clear q0
  have PL := Lib.hid hp
  go_enter Try.func16, Try.ntmps16
  go_wp2_with fail
  refine (plain_yes o hp _).mono ?_
  rintro e w1 ⟨rfl, rfl⟩
  have K := Lib.hid (Kept.start o Ha.out)
  generalize (w.alloc (.cells #[.int .i64 o.kind, .int .i64 o.m] 23)).alloc (.cells #[.int .i64 o.kind, .int .i64 o.m] 23) = w1 at *
  have C2 := Lib.hid (fun (rows : List (Option Addr × List Value)) (sts : List (Value × KV)) (B : Nat) (wx : World) (A2 : Option Addr) (cap2 : Nat) (K : Kept w w.heap.size o rows sts B wx) (hmm : (A2, prCells (run o acts)) ∈ rows) => keptFind K Fi.out A2 (run o acts) key (run o acts).length cap2 rfl (by have := RL.out; omega) hmm)
  have C3 := Lib.hid (fun (rows : List (Option Addr × List Value)) (sts : List (Value × KV)) (B : Nat) (wx : World) (A2 : Option Addr) (cap2 : Nat) (K : Kept w w.heap.size o rows sts B wx) (hmm : (A2, prCells (run o acts)) ∈ rows) => keptFindB (K.alloc (.cells #[.int .i64 0, .int .i64 0] 54)) (Blk.new _ _ _) Fi.out A2 (run o acts) key (run o acts).length cap2 rfl (by have := RL.out; omega) hmm)
  have C4 := Lib.hid (fun (rows : List (Option Addr × List Value)) (sts : List (Value × KV)) (B : Nat) (wx : World) (A2 : Option Addr) (cap2 : Nat) (pb : Nat) (t : TypeId) (cs : Array Value) (K : Kept w w.heap.size o rows sts B wx) (hb : Blk wx pb t cs) (hmm : (A2, prCells (run o acts)) ∈ rows) => keptFindB K hb Fi.out A2 (run o acts) key (run o acts).length cap2 rfl (by have := RL.out; omega) hmm)
  cases hq : look o key (run o acts) with
  | some p =>
    rw [hq] at C2 C3 C4
    simp only [pairV] at C2 C3 C4
    have HQ := Lib.hid hq
    clear hq
    obtain ⟨hc0, hc1⟩ := K.out.c
    go_wp2_with fail
    refine (keptNodeB m hm K.out Fi.out A acts key acts.length cap rfl (by have := L3.out; omega) (by simp)).mono ?_
    rintro e wy ⟨A', cap', xs, b, rfl, hk, k⟩
    have K := Lib.hid k
    have hin : key ∈ xs ∧ b = true := by
      rcases hk.is with ⟨h1, _⟩ | ⟨p', h1, h2, h3⟩
      · rw [HQ.out] at h1; cases h1
      · rw [HQ.out] at h1; injection h1 with h1; subst h1
        have := rk_inj PL.out (look_rk HQ.out)
        exact ⟨by rw [← this]; exact h2, h3⟩
    obtain ⟨hin, rfl⟩ := hin
    have HFD := Lib.hid (show decide (key ∈ xs) = true from decide_eq_true hin)
    have HXL := Lib.hid hk.len
    generalize hnx : xs.length = nx at *
    have NX := Lib.hid hnx
    clear k hk hin hc0 hc1 hnx
    obtain ⟨hc0, hc1⟩ := K.out.c
    obtain ⟨hc0, hc1⟩ := K.out.c
    go_wp2_with fail
    have K := Lib.hid K.out.drew
    go_region_held3 (fun w' => w'.cell? ⟨w.heap.size, 0, none⟩ = some (.int .i64 o.kind) ∧ w'.cell? ⟨w.heap.size, 1, none⟩ = some (.int .i64 o.m)) (first | exact K.out.c | exact (K.out.alloc _).c | (have kk := K.out.c; simp [kk.1, kk.2, World.cell?_alloc_some]; done) | (have kk := K.out.c; simp [kk.1, kk.2, World.cell?_setCell_far, hgn]; done) | (have kk := K.out.c; simp [kk.1, kk.2, World.cell?_alloc_some, World.cell?_setCell_far, (K.out.new_ne (Nat.le_refl _))]; done))
      (first
        | (go_at_call 37; refine (keptRun K.out Fi.out A acts acts.length cap rfl (by have := L3.out; omega) ?_).mono ?_; (simp); rintro e wy ⟨q, cq, rfl, k⟩; have K := Lib.hid k; clear k)
        | (go_at_call 37; refine (keptRunB (K.out.alloc _) (show Blk _ wy.heap.size _ _ from Blk.new _ _ _) Fi.out A acts acts.length cap rfl (by have := L3.out; omega) ?_).mono ?_; (simp); have PG := Lib.hid (show w.heap.size ≤ wy.heap.size from K.out.new_ge (Nat.le_refl _)); have PR := Lib.hid (And.intro (K.out.rows (A', intRow xs) (by simp)) K.out.le); have hgn := (show wy.heap.size ≠ w.heap.size from K.out.new_ne (Nat.le_refl _)); rintro e wy ⟨q, cq, rfl, k, pb⟩; have K := Lib.hid k; clear k; have PB := Lib.hid pb; clear pb; obtain ⟨hr0, hr1⟩ := (show _ = some (Value.int .i64 0) ∧ _ = some (Value.int .i64 0) from ⟨PB.out.cell 0, PB.out.cell 1⟩); have hrf := PB.out.frozen)
        | (go_at_call 38; refine (C4.out _ _ _ _ (some ⟨q, 0, none⟩) cq _ _ _ K.out PB.out ?_).mono ?_; (simp); rintro e wy ⟨rfl, k, pb⟩; have K := Lib.hid k; clear k; have PB := Lib.hid pb; clear pb; obtain ⟨hr0, hr1⟩ := (show _ = some (Value.int .i64 0) ∧ _ = some (Value.int .i64 0) from ⟨PB.out.cell 0, PB.out.cell 1⟩); have hrf := PB.out.frozen)
        | (go_at_call 38; refine (C2.out _ _ _ _ (some ⟨q, 0, none⟩) cq K.out ?_).mono ?_; (simp); rintro e wy ⟨rfl, k⟩; have K := Lib.hid k; clear k)
        | (go_at_call 38; refine (C3.out _ _ _ _ (some ⟨q, 0, none⟩) cq K.out ?_).mono ?_; (simp); have PG := Lib.hid (show w.heap.size ≤ wy.heap.size from K.out.new_ge (Nat.le_refl _)); have PR := Lib.hid (And.intro (K.out.rows (A', intRow xs) (by simp)) K.out.le); have hgn := (show wy.heap.size ≠ w.heap.size from K.out.new_ne (Nat.le_refl _)); rintro e wy ⟨rfl, k, pb⟩; have K := Lib.hid k; clear k; have PB := Lib.hid pb; clear pb; obtain ⟨hr0, hr1⟩ := (show _ = some (Value.int .i64 0) ∧ _ = some (Value.int .i64 0) from ⟨PB.out.cell 0, PB.out.cell 1⟩); have hrf := PB.out.frozen)
      )
    all_goals
      clear C2 C3 C4
      go_wp2_with fail
      go_loopw [13, 54] (fun f i wr => ∃ k : Nat, k ≤ nx ∧ i = .int .i64 k ∧ f = .bool (decide (key ∈ xs.take k)) ∧ CellsOf wr A' xs ∧ Below w.heap.size w wr) (fun _ i _ => nx - (intOf i).toNat)
      case atStart =>
        refine ⟨0, Nat.zero_le _, rfl, by simp, ?_, ?_⟩
        · intro j x hx
          obtain ⟨a, ha, _, hc⟩ := (K.out.rows (A', intRow xs) (by simp)).get (intRow_get hx)
          have ha : A' = some a := ha
          refine ⟨a, ha, ?_⟩
          first
          | exact hc
          | (simp [World.cell?_alloc_some, hc]; done)
          | (obtain ⟨a', ha', hlt, _⟩ := PR.out.1.get (intRow_get hx)
             have ha' : A' = some a' := ha'
             rw [ha] at ha'; injection ha' with ha'; subst ha'
             have h1 := Nat.ne_of_lt (Nat.lt_of_lt_of_le hlt PR.out.2)
             have h2 : (a.add j).block = a.block := by first | rfl | (simp [Addr.add]; done) | (unfold Addr.add; split <;> rfl)
             exact ((World.cell?_setCell_far _ _ _ _ (by rw [h2]; exact h1.symm)).trans (World.cell?_setCell_far _ _ _ _ (by rw [h2]; exact h1.symm))).trans hc)
        · first
          | exact K.out.below
          | exact K.out.below.alloc K.out.below.size _
          | exact (K.out.below.setCell (p := ⟨_, 0, none⟩) PG.out _).setCell (p := ⟨_, 1, none⟩) PG.out _
      case round =>
        clear hc0 hc1
        obtain ⟨k, hk, rfl, rfl, hcs, hw⟩ := hrel
        by_cases hlt : k < nx
        · obtain ⟨x, hx⟩ : ∃ x, xs[k]? = some x := ⟨_, List.getElem?_eq_getElem (by rw [NX.out]; exact hlt)⟩
          obtain ⟨a, rfl, hc⟩ := hcs k x hx
          have hnext : decide (key ∈ xs.take (k + 1)) = (decide (key ∈ xs.take k) || (x == key)) := by
            rw [List.take_add_one, hx]
            by_cases h2 : x = key
            · subst h2; simp
            · have h3 : ¬ key = x := fun h => h2 h.symm
              simp [h2, h3]
          have F := Lib.hid (And.intro hnext (And.intro hcs hw))
          have hin : (k : Int) < (nx : Int) := by omega
          have hi0 : (0 : Int) ≤ (k : Int) := by omega
          have hi1 : (nx : Int) ≤ 1000 := by have := HXL.out; have := NX.out; omega
          clear hcs hw hnext hx
          generalize decide (key ∈ xs.take k) = fb at *
          by_cases hxk : x = key
          · have hb : (x == key) = true := by simpa using hxk
            clear hxk
            cases fb with
            | true =>
              go_wp2_with fail
              go_roundw
              case rel => exact ⟨k + 1, by omega, by go_num, by rw [F.out.1]; rfl, F.out.2⟩
              case measure => simp [intOf]; omega
            | false =>
              go_wp2_with fail
              go_roundw
              case rel => exact ⟨k + 1, by omega, by go_num, by rw [F.out.1, hb]; rfl, F.out.2⟩
              case measure => simp [intOf]; omega
          · have hb : (x == key) = false := by simpa using hxk
            clear hxk
            cases fb with
            | true =>
              go_wp2_with fail
              go_roundw
              case rel => exact ⟨k + 1, by omega, by go_num, by rw [F.out.1]; rfl, F.out.2⟩
              case measure => simp [intOf]; omega
            | false =>
              go_wp2_with fail
              go_roundw
              case rel => exact ⟨k + 1, by omega, by go_num, by rw [F.out.1, hb]; rfl, F.out.2⟩
              case measure => simp [intOf]; omega
        · have HW := Lib.hid hw
          rw [List.take_of_length_le (by rw [NX.out]; omega), HFD.out]
          clear hcs hw
          go_wp2_with fail
          refine (growsBTree_walk _).mono ?_
          rintro e wz ⟨rfl, bz⟩
          have BZ := Lib.hid bz
          clear bz
          go_wp2_with fail
          go_ret
          exact ⟨rfl, HW.out.trans (BZ.out.mono HW.out.size)⟩
  | none =>
    rw [hq] at C2 C3 C4
    simp only [pairV] at C2 C3 C4
    have HQ := Lib.hid hq
    clear hq
    obtain ⟨hc0, hc1⟩ := K.out.c
    go_wp2_with fail
    refine (keptNodeB m hm K.out Fi.out A acts key acts.length cap rfl (by have := L3.out; omega) (by simp)).mono ?_
    rintro e wy ⟨A', cap', xs, b, rfl, hk, k⟩
    have K := Lib.hid k
    have hin : xs = [] ∧ b = false := by
      rcases hk.is with ⟨_, h1, h2⟩ | ⟨p', h1, _⟩
      · exact ⟨h1, h2⟩
      · rw [HQ.out] at h1; cases h1
    obtain ⟨hxs, rfl⟩ := hin
    have HFD := Lib.hid (show decide (key ∈ xs) = false by rw [hxs]; rfl)
    clear hxs
    have HXL := Lib.hid hk.len
    generalize hnx : xs.length = nx at *
    have NX := Lib.hid hnx
    clear k hk hc0 hc1 hnx
    obtain ⟨hc0, hc1⟩ := K.out.c
    obtain ⟨hc0, hc1⟩ := K.out.c
    go_wp2_with fail
    have K := Lib.hid K.out.drew
    go_region_held3 (fun w' => w'.cell? ⟨w.heap.size, 0, none⟩ = some (.int .i64 o.kind) ∧ w'.cell? ⟨w.heap.size, 1, none⟩ = some (.int .i64 o.m)) (first | exact K.out.c | exact (K.out.alloc _).c | (have kk := K.out.c; simp [kk.1, kk.2, World.cell?_alloc_some]; done) | (have kk := K.out.c; simp [kk.1, kk.2, World.cell?_setCell_far, hgn]; done) | (have kk := K.out.c; simp [kk.1, kk.2, World.cell?_alloc_some, World.cell?_setCell_far, (K.out.new_ne (Nat.le_refl _))]; done))
      (first
        | (go_at_call 37; refine (keptRun K.out Fi.out A acts acts.length cap rfl (by have := L3.out; omega) ?_).mono ?_; (simp); rintro e wy ⟨q, cq, rfl, k⟩; have K := Lib.hid k; clear k)
        | (go_at_call 37; refine (keptRunB (K.out.alloc _) (show Blk _ wy.heap.size _ _ from Blk.new _ _ _) Fi.out A acts acts.length cap rfl (by have := L3.out; omega) ?_).mono ?_; (simp); have PG := Lib.hid (show w.heap.size ≤ wy.heap.size from K.out.new_ge (Nat.le_refl _)); have PR := Lib.hid (And.intro (K.out.rows (A', intRow xs) (by simp)) K.out.le); have hgn := (show wy.heap.size ≠ w.heap.size from K.out.new_ne (Nat.le_refl _)); rintro e wy ⟨q, cq, rfl, k, pb⟩; have K := Lib.hid k; clear k; have PB := Lib.hid pb; clear pb; obtain ⟨hr0, hr1⟩ := (show _ = some (Value.int .i64 0) ∧ _ = some (Value.int .i64 0) from ⟨PB.out.cell 0, PB.out.cell 1⟩); have hrf := PB.out.frozen)
        | (go_at_call 38; refine (C4.out _ _ _ _ (some ⟨q, 0, none⟩) cq _ _ _ K.out PB.out ?_).mono ?_; (simp); rintro e wy ⟨rfl, k, pb⟩; have K := Lib.hid k; clear k; have PB := Lib.hid pb; clear pb; obtain ⟨hr0, hr1⟩ := (show _ = some (Value.int .i64 0) ∧ _ = some (Value.int .i64 0) from ⟨PB.out.cell 0, PB.out.cell 1⟩); have hrf := PB.out.frozen)
        | (go_at_call 38; refine (C2.out _ _ _ _ (some ⟨q, 0, none⟩) cq K.out ?_).mono ?_; (simp); rintro e wy ⟨rfl, k⟩; have K := Lib.hid k; clear k)
        | (go_at_call 38; refine (C3.out _ _ _ _ (some ⟨q, 0, none⟩) cq K.out ?_).mono ?_; (simp); have PG := Lib.hid (show w.heap.size ≤ wy.heap.size from K.out.new_ge (Nat.le_refl _)); have PR := Lib.hid (And.intro (K.out.rows (A', intRow xs) (by simp)) K.out.le); have hgn := (show wy.heap.size ≠ w.heap.size from K.out.new_ne (Nat.le_refl _)); rintro e wy ⟨rfl, k, pb⟩; have K := Lib.hid k; clear k; have PB := Lib.hid pb; clear pb; obtain ⟨hr0, hr1⟩ := (show _ = some (Value.int .i64 0) ∧ _ = some (Value.int .i64 0) from ⟨PB.out.cell 0, PB.out.cell 1⟩); have hrf := PB.out.frozen)
      )
    all_goals
      clear C2 C3 C4
      go_wp2_with fail
      go_loopw [13, 54] (fun f i wr => ∃ k : Nat, k ≤ nx ∧ i = .int .i64 k ∧ f = .bool (decide (key ∈ xs.take k)) ∧ CellsOf wr A' xs ∧ Below w.heap.size w wr) (fun _ i _ => nx - (intOf i).toNat)
      case atStart =>
        refine ⟨0, Nat.zero_le _, rfl, by simp, ?_, ?_⟩
        · intro j x hx
          obtain ⟨a, ha, _, hc⟩ := (K.out.rows (A', intRow xs) (by simp)).get (intRow_get hx)
          have ha : A' = some a := ha
          refine ⟨a, ha, ?_⟩
          first
          | exact hc
          | (simp [World.cell?_alloc_some, hc]; done)
          | (obtain ⟨a', ha', hlt, _⟩ := PR.out.1.get (intRow_get hx)
             have ha' : A' = some a' := ha'
             rw [ha] at ha'; injection ha' with ha'; subst ha'
             have h1 := Nat.ne_of_lt (Nat.lt_of_lt_of_le hlt PR.out.2)
             have h2 : (a.add j).block = a.block := by first | rfl | (simp [Addr.add]; done) | (unfold Addr.add; split <;> rfl)
             exact ((World.cell?_setCell_far _ _ _ _ (by rw [h2]; exact h1.symm)).trans (World.cell?_setCell_far _ _ _ _ (by rw [h2]; exact h1.symm))).trans hc)
        · first
          | exact K.out.below
          | exact K.out.below.alloc K.out.below.size _
          | exact (K.out.below.setCell (p := ⟨_, 0, none⟩) PG.out _).setCell (p := ⟨_, 1, none⟩) PG.out _
      case round =>
        clear hc0 hc1
        obtain ⟨k, hk, rfl, rfl, hcs, hw⟩ := hrel
        by_cases hlt : k < nx
        · obtain ⟨x, hx⟩ : ∃ x, xs[k]? = some x := ⟨_, List.getElem?_eq_getElem (by rw [NX.out]; exact hlt)⟩
          obtain ⟨a, rfl, hc⟩ := hcs k x hx
          have hnext : decide (key ∈ xs.take (k + 1)) = (decide (key ∈ xs.take k) || (x == key)) := by
            rw [List.take_add_one, hx]
            by_cases h2 : x = key
            · subst h2; simp
            · have h3 : ¬ key = x := fun h => h2 h.symm
              simp [h2, h3]
          have F := Lib.hid (And.intro hnext (And.intro hcs hw))
          have hin : (k : Int) < (nx : Int) := by omega
          have hi0 : (0 : Int) ≤ (k : Int) := by omega
          have hi1 : (nx : Int) ≤ 1000 := by have := HXL.out; have := NX.out; omega
          clear hcs hw hnext hx
          generalize decide (key ∈ xs.take k) = fb at *
          by_cases hxk : x = key
          · have hb : (x == key) = true := by simpa using hxk
            clear hxk
            cases fb with
            | true =>
              go_wp2_with fail
              go_roundw
              case rel => exact ⟨k + 1, by omega, by go_num, by rw [F.out.1]; rfl, F.out.2⟩
              case measure => simp [intOf]; omega
            | false =>
              go_wp2_with fail
              go_roundw
              case rel => exact ⟨k + 1, by omega, by go_num, by rw [F.out.1, hb]; rfl, F.out.2⟩
              case measure => simp [intOf]; omega
          · have hb : (x == key) = false := by simpa using hxk
            clear hxk
            cases fb with
            | true =>
              go_wp2_with fail
              go_roundw
              case rel => exact ⟨k + 1, by omega, by go_num, by rw [F.out.1]; rfl, F.out.2⟩
              case measure => simp [intOf]; omega
            | false =>
              go_wp2_with fail
              go_roundw
              case rel => exact ⟨k + 1, by omega, by go_num, by rw [F.out.1, hb]; rfl, F.out.2⟩
              case measure => simp [intOf]; omega
        · have HW := Lib.hid hw
          rw [List.take_of_length_le (by rw [NX.out]; omega), HFD.out]
          clear hcs hw
          go_wp2_with fail
          refine (growsBTree_walk _).mono ?_
          rintro e wz ⟨rfl, bz⟩
          have BZ := Lib.hid bz
          clear bz
          go_wp2_with fail
          go_ret
          exact ⟨rfl, HW.out.trans (BZ.out.mono HW.out.size)⟩

end Go.Proofs.Ytpkgmgebhnhhjaa.Bt
