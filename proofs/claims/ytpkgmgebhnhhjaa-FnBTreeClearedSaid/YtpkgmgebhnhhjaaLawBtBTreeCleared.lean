/- For every order and all lists of acts: what was cleared is as new. No condition. -/
import Derived.Test.YtpkgmgebhnhhjaaBtKept
import Derived.Deep.RegionHeld3
import Derived.Deep.RegionHeldLaw
import Derived.IntWalk
namespace Go.Proofs.Ytpkgmgebhnhhjaa.Bt
open Go.RowKit Go.Proofs.Ytpkgmgebhnhhjaa

set_option maxHeartbeats 4000000 in
set_option maxRecDepth 100000 in
theorem lawBTreeCleared_walk (m : Int) (o : Ord) (cap : Nat) (A : Option Addr) (acts : List Do) (capm : Nat) (Am : Option Addr) (more : List Do) (w : World) (hA : A = none → acts.length = 0 ∧ cap = 0) (ha : ActsAt w w.heap.size A acts) (hAm : Am = none → more.length = 0 ∧ capm = 0) (ham : ActsAt w w.heap.size Am more) :
    Calls Try.prog 5 #[.int .i64 m, .agg #[.int .i64 o.kind, .int .i64 o.m], .slice A acts.length cap, .slice Am more.length capm] w fun e w' => e = .returned (.bool true) ∧ Below w.heap.size w w' := by
  have Ha := Lib.hid ha
  have HA := Lib.hid hA
  have Hm := Lib.hid ham
  have HM := Lib.hid hAm
  clear ha hA ham hAm
  by_cases h0 : 2147483647 < acts.length
  · go_enter Try.func5, Try.ntmps5
    go_wp2_with fail
    go_ret
    exact ⟨rfl, (Below.refl _ _).alloc (Nat.le_refl _) _⟩
  by_cases h1 : 2147483647 < more.length
  · go_enter Try.func5, Try.ntmps5
    go_wp2_with fail
    go_ret
    exact ⟨rfl, (Below.refl _ _).alloc (Nat.le_refl _) _⟩
  by_cases hm1 : m < 3
  · go_enter Try.func5, Try.ntmps5
    go_wp2_with fail
    go_ret
    exact ⟨rfl, (Below.refl _ _).alloc (Nat.le_refl _) _⟩
  by_cases hm2 : 64 < m
  · have hm1' : ¬ m < 3 := hm1
    go_enter Try.func5, Try.ntmps5
    go_wp2_with fail
    go_ret
    exact ⟨rfl, (Below.refl _ _).alloc (Nat.le_refl _) _⟩
  have hm : 3 ≤ m ∧ m ≤ 64 := ⟨by omega, by omega⟩
  by_cases hp : ¬ o.fine
  · go_enter Try.func5, Try.ntmps5
    go_wp2_with fail
    refine (fine_no o hp _).mono ?_
    rintro e w1 ⟨rfl, rfl⟩
    go_wp2_with fail
    go_ret
    exact ⟨rfl, ((Below.refl _ _).alloc (Nat.le_refl _) _).alloc (by simp) _⟩
  replace hp := Classical.not_not.1 hp
  by_cases h3 : 300 < acts.length
  · go_enter Try.func5, Try.ntmps5
    go_wp2_with fail
    refine (fine_yes o hp _).mono ?_
    rintro e w1 ⟨rfl, rfl⟩
    go_wp2_with fail
    go_ret
    exact ⟨rfl, ((Below.refl _ _).alloc (Nat.le_refl _) _).alloc (by simp) _⟩
  by_cases h4 : 300 < more.length
  · go_enter Try.func5, Try.ntmps5
    go_wp2_with fail
    refine (fine_yes o hp _).mono ?_
    rintro e w1 ⟨rfl, rfl⟩
    go_wp2_with fail
    go_ret
    exact ⟨rfl, ((Below.refl _ _).alloc (Nat.le_refl _) _).alloc (by simp) _⟩
  have Fi := Lib.hid hp
  have L3 := Lib.hid h3
  have L4 := Lib.hid h4
  have RL := Lib.hid (show (run o more).length ≤ 1000 by have := run_length_le o more; omega)
  have Q1 := Lib.hid (run_cleared o acts more 0 0)
  go_enter Try.func5, Try.ntmps5
  go_wp2_with fail
  refine (fine_yes o hp _).mono ?_
  rintro e w1 ⟨rfl, rfl⟩
  have K := Lib.hid ((Kept.start o Ha.out).row ((Hm.out.row.below (((Below.refl _ _).alloc (Nat.le_refl _) _).alloc (by simp) _)).more (Nat.le_succ _)))
  generalize (w.alloc (.cells #[.int .i64 o.kind, .int .i64 o.m] 23)).alloc (.cells #[.int .i64 o.kind, .int .i64 o.m] 23) = w1 at *
  go_wp2_with (at_builtin; refine Hid.out ?_)
  delta Hid
  have OW0 := Lib.hid (own_empty (e := 27) (size := 3) (Blk.new w1 27 #[]) (Nat.le_refl _))
  have KA := Lib.hid (K.out.alloc (.cells #[] 27))
  refine wpList_app_act rfl _ _ rfl w1.heap.size (.slice (some ⟨w1.heap.size, 0, none⟩) 0 0) [] rfl OW0.out A acts.length cap acts rfl ((KA.out.rows (A, actCells acts) (by simp)).src (actCells_length _) HA.out) rfl (by simp; omega) (by simp) ?_
  intro v1 wa1 own1 gr1 _
  have k1 := KA.out.grown OW0.out K.out.le (by simp) gr1
  have hKle1 := Lib.hid K.out.le
  have hsz1 := Lib.hid (show w1.heap.size + 1 ≤ wa1.heap.size by have := gr1.size; simp at this; omega)
  rw [List.nil_append] at own1
  obtain ⟨Aa1, capa1, rfl, _, _⟩ := own_slice own1
  have OW1 := Lib.hid own1
  have K := Lib.hid k1
  clear own1 gr1 k1 KA OW0
  go_wp2_with (at_builtin; refine Hid.out ?_)
  delta Hid
  have KA := Lib.hid (K.out.alloc (.cells (actCells [(⟨3, 0, 0⟩ : Do)]).toArray 27))
  have OW2 := Lib.hid (own_below OW1.out ((Below.refl wa1.heap.size wa1).alloc (Nat.le_refl _) (.cells (actCells [(⟨3, 0, 0⟩ : Do)]).toArray 27)))
  refine wpList_app_act rfl _ _ rfl w1.heap.size (.slice Aa1 acts.length capa1) acts rfl OW2.out (some ⟨wa1.heap.size, 0, none⟩) 1 1 [(⟨3, 0, 0⟩ : Do)] rfl (src_block (Blk.new _ _ _)) rfl (by simp; omega) (by have := hsz1.out; simp; omega) ?_
  intro v1 wb1 own2 gr2 _
  have k2 := KA.out.grown OW2.out hKle1.out (by have := hsz1.out; simp; omega) gr2
  have hsy1 := Lib.hid (show wa1.heap.size + 1 ≤ wb1.heap.size by have := gr2.size; simp at this; omega)
  obtain ⟨Ab1, capb1, rfl, _, _⟩ := own_slice own2
  have OW3 := Lib.hid own2
  have K := Lib.hid k2
  clear own2 gr2 k2 KA OW1 OW2
  go_wp2_with (at_builtin; refine Hid.out ?_)
  delta Hid
  refine wpList_app_act rfl _ _ rfl w1.heap.size (.slice Ab1 (acts.length + 1) capb1) (acts ++ [(⟨3, 0, 0⟩ : Do)]) rfl (by have := OW3.out; simpa using this) Am more.length capm more rfl ((K.out.rows (Am, actCells more) (by simp)).src (actCells_length _) HM.out) rfl (by simp; omega) (by have := hsz1.out; have := hsy1.out; omega) ?_
  intro v3 wc1 own3 gr3 _
  have k4 := K.out.grown (show wb1.ownsRow w1.heap.size 27 3 (.slice Ab1 (acts.length + 1) capb1) (acts ++ [(⟨3, 0, 0⟩ : Do)]).length (actCells (acts ++ [(⟨3, 0, 0⟩ : Do)])) by have := OW3.out; simpa using this) hKle1.out (by have := hsz1.out; have := hsy1.out; omega) gr3
  have hsw1 := Lib.hid (show wb1.heap.size ≤ wc1.heap.size from gr3.size)
  obtain ⟨A1, cap1, rfl, _, _⟩ := own_slice own3
  have k5 := (k4.up (by have := hKle1.out; have := hsz1.out; have := hsy1.out; have := hsw1.out; omega) (Nat.le_refl _)).row ((ActsAt.of_own own3).row)
  have K := Lib.hid k5
  clear own3 gr3 k4 k5 OW3
  obtain ⟨hc0, hc1⟩ := K.out.c
  go_wp2_with fail
  have K := Lib.hid K.out.drew
  go_region_held3 (fun w' => w'.cell? ⟨w.heap.size, 0, none⟩ = some (.int .i64 o.kind) ∧ w'.cell? ⟨w.heap.size, 1, none⟩ = some (.int .i64 o.m)) (exact K.out.c)
    (first
      | (go_at_call_of 34 (A1 : Option Addr); refine (keptState m hm K.out Fi.out A1 ((acts ++ [(⟨3, 0, 0⟩ : Do)]) ++ more) _ _ ?_ ?_ ?_).mono ?_; (simp); (have := L3.out; have := L4.out; first | omega | (simp; omega)); (simp); rintro e wy ⟨v1, rfl, k⟩; rw [Q1.out] at k; have K := Lib.hid k; clear k)
      | (go_at_call_of 34 (Am : Option Addr); refine (keptState m hm K.out Fi.out Am more _ _ ?_ ?_ ?_).mono ?_; (simp); (have := L3.out; have := L4.out; first | omega | (simp; omega)); (simp); rintro e wy ⟨v2, rfl, k⟩; have K := Lib.hid k; clear k)
      | (go_at_call 33; refine (keptSame K.out v1 v2 (run o more) (by have := RL.out; omega) ?_ ?_).mono ?_; (simp); (simp); rintro e wy ⟨rfl, k⟩; have K := Lib.hid k; clear k)
      | (go_at_call 31; refine (keptGrows K.out).mono ?_; rintro e wy ⟨rfl, k⟩; have K := Lib.hid k; clear k)
    )
  all_goals
    go_wp2_with fail
    go_ret
    exact ⟨rfl, by first | exact K.out.below | exact K.out.drew.below⟩

end Go.Proofs.Ytpkgmgebhnhhjaa.Bt
