/- For every order, every list of acts and every list of moves: to before the first and to behind the last it goes from anywhere. No condition. -/
import Derived.Test.YtpkgmgebhnhhjaaBtKept
import Derived.Test.YtpkgmgebhnhhjaaBtWalk
import Derived.Test.YtpkgmgebhnhhjaaSpecMoves
import Derived.Test.YtpkgmgebhnhhjaaSeenSame
import Derived.Test.YtpkgmgebhnhhjaaKeptSWalk
import Derived.Test.YtpkgmgebhnhhjaaBtWalkC
import Derived.Deep.RegionHeld3
import Derived.Deep.RegionHeldLaw
import Derived.IntWalk
namespace Go.Proofs.Ytpkgmgebhnhhjaa.Bt
open Go.RowKit Go.Proofs.Ytpkgmgebhnhhjaa

set_option maxHeartbeats 4000000 in
set_option maxRecDepth 100000 in
theorem lawBTreeBegun_walk (m : Int) (o : Ord) (cap : Nat) (A : Option Addr) (acts : List Do) (capm : Nat) (Am : Option Addr) (moves : List Do) (w : World) (_hA : A = none → acts.length = 0 ∧ cap = 0) (ha : ActsAt w w.heap.size A acts) (hAm : Am = none → moves.length = 0 ∧ capm = 0) (ham : ActsAt w w.heap.size Am moves) :
    Calls Try.prog 21 #[.int .i64 m, .agg #[.int .i64 o.kind, .int .i64 o.m], .slice A acts.length cap, .slice Am moves.length capm] w fun e w' => e = .returned (.bool true) ∧ Below w.heap.size w w' := by
  have Ha := Lib.hid ha
  have Hm := Lib.hid ham
  have HM := Lib.hid hAm
  clear ha ham hAm
  by_cases h0 : 2147483647 < acts.length
  · go_enter Try.func21, Try.ntmps21
    go_wp2_with fail
    go_ret
    exact ⟨rfl, (Below.refl _ _).alloc (Nat.le_refl _) _⟩
  by_cases h1 : 2147483647 < moves.length
  · go_enter Try.func21, Try.ntmps21
    go_wp2_with fail
    go_ret
    exact ⟨rfl, (Below.refl _ _).alloc (Nat.le_refl _) _⟩
  by_cases hm1 : m < 3
  · go_enter Try.func21, Try.ntmps21
    go_wp2_with fail
    go_ret
    exact ⟨rfl, (Below.refl _ _).alloc (Nat.le_refl _) _⟩
  by_cases hm2 : 64 < m
  · have hm1' : ¬ m < 3 := hm1
    go_enter Try.func21, Try.ntmps21
    go_wp2_with fail
    go_ret
    exact ⟨rfl, (Below.refl _ _).alloc (Nat.le_refl _) _⟩
  have hm : 3 ≤ m ∧ m ≤ 64 := ⟨by omega, by omega⟩
  by_cases hp : ¬ o.plain
  · go_enter Try.func21, Try.ntmps21
    go_wp2_with fail
    refine (plain_no o hp _).mono ?_
    rintro e w1 ⟨rfl, rfl⟩
    go_wp2_with fail
    go_ret
    exact ⟨rfl, ((Below.refl _ _).alloc (Nat.le_refl _) _).alloc (by simp) _⟩
  replace hp := Classical.not_not.1 hp
  by_cases h3 : 300 < acts.length
  · go_enter Try.func21, Try.ntmps21
    go_wp2_with fail
    refine (plain_yes o hp _).mono ?_
    rintro e w1 ⟨rfl, rfl⟩
    go_wp2_with fail
    go_ret
    exact ⟨rfl, ((Below.refl _ _).alloc (Nat.le_refl _) _).alloc (by simp) _⟩
  have Fi := Lib.hid (show o.fine from hp.fine)
  have L3 := Lib.hid h3
  have RL := Lib.hid (show (run o acts).length ≤ 1000 by have := run_length_le o acts; omega)
  cases hm : mvOk moves with
  | false =>
    go_enter Try.func21, Try.ntmps21
    go_wp2_with fail
    refine (plain_yes o hp _).mono ?_
    rintro e w1 ⟨rfl, rfl⟩
    have K := Lib.hid ((Kept.start o Ha.out).row ((Hm.out.row.below (((Below.refl _ _).alloc (Nat.le_refl _) _).alloc (by simp) _)).more (Nat.le_succ _)))
    generalize (w.alloc (.cells #[.int .i64 o.kind, .int .i64 o.m] 23)).alloc (.cells #[.int .i64 o.kind, .int .i64 o.m] 23) = w1 at *
    have cm := movesOk_walk moves.length capm Am moves w1 rfl (by omega) ((K.out.rows (Am, actCells moves) (by simp)).acts.more K.out.le)
    rw [hm] at cm
    have CM := Lib.hid cm
    obtain ⟨hc0, hc1⟩ := K.out.c
    clear cm hm
    go_wp2_with fail
    refine CM.out.mono ?_
    rintro e wy ⟨rfl, b⟩
    have BB := Lib.hid (K.out.below.trans (b.mono K.out.below.size))
    clear b
    go_wp2_with fail
    go_ret
    exact ⟨rfl, BB.out⟩
  | true =>
    obtain ⟨hm300, hmok⟩ := mvOk_yes hm
    have M3 := Lib.hid hm300
    have OKM := Lib.hid hmok
    clear hm300 hmok
    go_enter Try.func21, Try.ntmps21
    go_wp2_with fail
    refine (plain_yes o hp _).mono ?_
    rintro e w1 ⟨rfl, rfl⟩
    have K := Lib.hid ((Kept.start o Ha.out).row ((Hm.out.row.below (((Below.refl _ _).alloc (Nat.le_refl _) _).alloc (by simp) _)).more (Nat.le_succ _)))
    generalize (w.alloc (.cells #[.int .i64 o.kind, .int .i64 o.m] 23)).alloc (.cells #[.int .i64 o.kind, .int .i64 o.m] 23) = w1 at *
    have cm := movesOk_walk moves.length capm Am moves w1 rfl (by omega) ((K.out.rows (Am, actCells moves) (by simp)).acts.more K.out.le)
    rw [hm] at cm
    have CM := Lib.hid cm
    obtain ⟨hc0, hc1⟩ := K.out.c
    clear cm hm hc0 hc1
    obtain ⟨hc0, hc1⟩ := K.out.c
    go_wp2_with fail
    refine CM.out.mono ?_
    rintro e wy ⟨rfl, b⟩
    have K := Lib.hid (K.out.on b)
    clear b hc0 hc1 CM
    obtain ⟨hc0, hc1⟩ := K.out.c
    clear hc0 hc1
    go_wp2_with (at_builtin; refine Hid.out ?_)
    delta Hid
    have OW0 := Lib.hid (own_empty (e := 65) (size := 3) (Blk.new wy 65 #[]) (Nat.le_refl _))
    have KA := Lib.hid (K.out.alloc (.cells #[] 65))
    refine wpList_appT Try.underlying31 move_info rfl (by omega) rfl _ _ rfl wy.heap.size (.slice (some ⟨wy.heap.size, 0, none⟩) 0 0) 0 [] rfl OW0.out Am moves.length capm (actCells moves) rfl ((KA.out.rows (Am, actCells moves) (by simp)).src (actCells_length _) HM.out) (actCells_one _) (by have := M3.out; omega) (by have := M3.out; omega) (by simp) ?_
    intro v1 wa own1 gr1 _
    have k1 := KA.out.grown OW0.out K.out.le (by simp) gr1
    have hKle := Lib.hid K.out.le
    have hsz := Lib.hid (show wy.heap.size + 1 ≤ wa.heap.size by have := gr1.size; simp at this; omega)
    rw [Nat.zero_add, List.nil_append] at own1
    obtain ⟨Aa, capa, rfl, _, _⟩ := own_slice own1
    have OW1 := Lib.hid own1
    have K := Lib.hid k1
    clear own1 gr1 k1 KA OW0
    go_wp2_with (at_builtin; refine Hid.out ?_)
    delta Hid
    have KA := Lib.hid (K.out.alloc (.cells (actCells [⟨5, 0, 0⟩, ⟨1, 0, 0⟩, ⟨6, 0, 0⟩, ⟨2, 0, 0⟩]).toArray 65))
    have OW2 := Lib.hid (own_below OW1.out ((Below.refl wa.heap.size wa).alloc (Nat.le_refl _) (.cells (actCells [⟨5, 0, 0⟩, ⟨1, 0, 0⟩, ⟨6, 0, 0⟩, ⟨2, 0, 0⟩]).toArray 65)))
    refine wpList_appT Try.underlying31 move_info rfl (by omega) rfl _ _ rfl wy.heap.size (.slice Aa moves.length capa) moves.length (actCells moves) rfl OW2.out (some ⟨wa.heap.size, 0, none⟩) 4 4 (actCells [⟨5, 0, 0⟩, ⟨1, 0, 0⟩, ⟨6, 0, 0⟩, ⟨2, 0, 0⟩]) rfl (src_blk (Blk.new _ _ _) rfl) (actCells_one _) (by have := M3.out; omega) (by have := M3.out; omega) (by have := hsz.out; simp; omega) ?_
    intro v2 wb own2 gr2 _
    rw [← actCells_append] at own2
    have k2 := KA.out.grown OW2.out hKle.out (by have := hsz.out; simp; omega) gr2
    have hsy := Lib.hid (show wa.heap.size + 1 ≤ wb.heap.size by have := gr2.size; simp at this; omega)
    obtain ⟨A1, cap1, rfl, _, _⟩ := own_slice own2
    have hcap1 := own_cap own2
    have cc1 : ¬ cap1 = moves.length := by omega
    have CC1 := Lib.hid hcap1
    clear hcap1
    have k3 := (k2.up (by have := hKle.out; have := hsz.out; have := hsy.out; omega) (Nat.le_refl _)).row (RowAt.of_own own2)
    have K := Lib.hid k3
    clear own2 gr2 k2 k3 KA OW1 OW2
    obtain ⟨hc0, hc1⟩ := K.out.c
    have OK2 := Lib.hid (show ∀ d ∈ moves ++ [⟨5, 0, 0⟩, ⟨1, 0, 0⟩, ⟨6, 0, 0⟩, ⟨2, 0, 0⟩], (d.op = 7 ∨ d.op = 8) → 1 ≤ d.key ∧ d.key ≤ 1000 by
      intro d hd h78
      rcases List.mem_append.1 hd with hd | hd
      · exact OKM.out d hd h78
      · simp at hd; rcases hd with rfl | rfl | rfl | rfl <;> simp at h78)
    go_wp2_with fail
    refine (keptWalkC m hm K.out Fi.out A acts acts.length cap rfl (by have := L3.out; omega) (by simp) A1 (moves ++ [⟨5, 0, 0⟩, ⟨1, 0, 0⟩, ⟨6, 0, 0⟩, ⟨2, 0, 0⟩]) (moves.length + 4) cap1 (by simp) (by have := M3.out; omega) (by simp) OK2.out).mono ?_
    rintro e wy2 ⟨A3, c3, hc3, rfl, k⟩
    have cc3 : ¬ c3 = moves.length := by omega
    have CC3 := Lib.hid hc3
    clear hc3
    have RS := Lib.hid (k.rows (A3, seenCells (walkFrom (run o acts) 0 (moves ++ [⟨5, 0, 0⟩, ⟨1, 0, 0⟩, ⟨6, 0, 0⟩, ⟨2, 0, 0⟩]))) (by simp))
    have RM := Lib.hid (k.rows (A1, actCells (moves ++ [⟨5, 0, 0⟩, ⟨1, 0, 0⟩, ⟨6, 0, 0⟩, ⟨2, 0, 0⟩])) (by simp))
    obtain ⟨asx, hAs⟩ := RS.out.some_of (by rw [seenCells_length, walkFrom_length]; simp)
    obtain ⟨am, hAm1⟩ := RM.out.some_of (by rw [actCells_length]; simp)
    subst hAs hAm1
    have rs := RS.out
    rw [walkFrom_append, seenCells_append] at rs
    have rs := rs.tail (k := moves.length * 3) (by rw [seenCells_length, walkFrom_length])
    have rm := RM.out
    rw [actCells_append] at rm
    have rm := rm.tail (k := moves.length * 3) (actCells_length _)
    rw [walk_begun _ _ 0] at rs
    have K := Lib.hid ((k.row rs).row rm)
    clear k rs rm RS RM hc0 hc1
    have OK3 := Lib.hid (show ∀ d ∈ ([⟨5, 0, 0⟩, ⟨1, 0, 0⟩, ⟨6, 0, 0⟩, ⟨2, 0, 0⟩] : List Do), (d.op = 7 ∨ d.op = 8) → 1 ≤ d.key ∧ d.key ≤ 1000 by intro d hd h78; simp at hd; rcases hd with rfl | rfl | rfl | rfl <;> simp at h78)
    have sl0 : (0 : Int) ≤ (moves.length : Int) := by omega
    have sl1 : (moves.length : Int) ≤ ((moves.length + 4 : Nat) : Int) := by omega
    have sl2 : (moves.length : Int) ≤ (moves.length : Int) + 4 := by omega
    have sl3 : ((moves.length : Int)).toNat = moves.length := by omega
    have sl4 : (((moves.length + 4 : Nat) : Int)).toNat = moves.length + 4 := by omega
    have sl5 : moves.length + 4 - moves.length = 4 := by omega
    have sl6 : ¬ cap1 - moves.length = 0 := by have := CC1.out; omega
    have sl7 : ¬ c3 - moves.length = 0 := by have := CC3.out; omega
    have sl8 : moves.length ≤ cap1 := by have := CC1.out; omega
    have sl9 : moves.length ≤ c3 := by have := CC3.out; omega
    have sla : moves.length + 4 ≤ cap1 := by have := CC1.out; omega
    have slb : moves.length + 4 ≤ c3 := by have := CC3.out; omega
    obtain ⟨hc0, hc1⟩ := K.out.c
    go_wp2_with fail
    have K := Lib.hid K.out.drew
    go_region_held3 (fun w' => w'.cell? ⟨w.heap.size, 0, none⟩ = some (.int .i64 o.kind) ∧ w'.cell? ⟨w.heap.size, 1, none⟩ = some (.int .i64 o.m)) (exact K.out.c)
      (first
        | (go_at_call 37; refine (keptRun K.out Fi.out A acts acts.length cap rfl ?_ ?_).mono ?_; (have := L3.out; first | omega | (simp; omega)); (simp); rintro e wy ⟨q, cq, rfl, k⟩; have K := Lib.hid k; clear k)
        | (go_at_call 43; refine (keptSWalk K.out (some ⟨q, 0, none⟩) (run o acts) (run o acts).length cq rfl ?_ ?_ (some (am.add (moves.length * 3))) [⟨5, 0, 0⟩, ⟨1, 0, 0⟩, ⟨6, 0, 0⟩, ⟨2, 0, 0⟩] 4 _ rfl ?_ ?_ OK3.out).mono ?_; (have := RL.out; omega); (simp); (omega); (simp); rintro e wy ⟨A4, c4, rfl, k⟩; have K := Lib.hid k; clear k)
        | (go_at_call 30; refine (keptSameSeen K.out (walkFrom (run o acts) 0 [⟨5, 0, 0⟩, ⟨1, 0, 0⟩, ⟨6, 0, 0⟩, ⟨2, 0, 0⟩]) 4 _ _ (some (asx.add (moves.length * 3))) A4 (walkFrom_length _ _ _) ?_ ?_ ?_).mono ?_; (omega); (simp); (simp); rintro e wy ⟨rfl, k⟩; have K := Lib.hid k; clear k)
        | (go_at_call 31; refine (keptGrows K.out).mono ?_; rintro e wy ⟨rfl, k⟩; have K := Lib.hid k; clear k)
      )
    all_goals
      go_wp2_with fail
      go_ret
      exact ⟨rfl, by first | exact K.out.below | exact K.out.drew.below⟩

end Go.Proofs.Ytpkgmgebhnhhjaa.Bt
