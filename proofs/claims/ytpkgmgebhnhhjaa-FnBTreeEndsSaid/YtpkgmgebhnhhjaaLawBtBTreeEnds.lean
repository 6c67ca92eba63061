/- For every order and every list of acts: Left and Right are nodes that have the first and the last key; none if it is empty. No condition. -/
import Derived.Test.YtpkgmgebhnhhjaaBtKept
import Derived.Test.YtpkgmgebhnhhjaaKeptFewBt
import Derived.Deep.RegionHeld3
import Derived.IntWalk
namespace Go.Proofs.Ytpkgmgebhnhhjaa.Bt
open Go.RowKit Go.Proofs.Ytpkgmgebhnhhjaa

set_option maxHeartbeats 4000000 in
set_option maxRecDepth 100000 in
theorem lawBTreeEnds_walk (m : Int) (o : Ord) (cap : Nat) (A : Option Addr) (acts : List Do) (w : World) (hA : A = none → acts.length = 0 ∧ cap = 0) (ha : ActsAt w w.heap.size A acts) :
    Calls Try.prog 17 #[.int .i64 m, .agg #[.int .i64 o.kind, .int .i64 o.m], .slice A acts.length cap] w fun e w' => e = .returned (.bool true) ∧ Below w.heap.size w w' := by
  have Ha := Lib.hid ha
  have HA := Lib.hid hA
  clear ha hA
  by_cases h0 : 2147483647 < acts.length
  · go_enter Try.func17, Try.ntmps17
    go_wp2_with fail
    go_ret
    exact ⟨rfl, (Below.refl _ _).alloc (Nat.le_refl _) _⟩
  by_cases hm1 : m < 3
  · go_enter Try.func17, Try.ntmps17
    go_wp2_with fail
    go_ret
    exact ⟨rfl, (Below.refl _ _).alloc (Nat.le_refl _) _⟩
  by_cases hm2 : 64 < m
  · have hm1' : ¬ m < 3 := hm1
    go_enter Try.func17, Try.ntmps17
    go_wp2_with fail
    go_ret
    exact ⟨rfl, (Below.refl _ _).alloc (Nat.le_refl _) _⟩
  have hm : 3 ≤ m ∧ m ≤ 64 := ⟨by omega, by omega⟩
  by_cases hp : ¬ o.plain
  · go_enter Try.func17, Try.ntmps17
    go_wp2_with fail
    refine (plain_no o hp _).mono ?_
    rintro e w1 ⟨rfl, rfl⟩
    go_wp2_with fail
    go_ret
    exact ⟨rfl, ((Below.refl _ _).alloc (Nat.le_refl _) _).alloc (by simp) _⟩
  replace hp := Classical.not_not.1 hp
  by_cases h3 : 300 < acts.length
  · go_enter Try.func17, Try.ntmps17
    go_wp2_with fail
    refine (plain_yes o hp _).mono ?_
    rintro e w1 ⟨rfl, rfl⟩
    go_wp2_with fail
    go_ret
    exact ⟨rfl, ((Below.refl _ _).alloc (Nat.le_refl _) _).alloc (by simp) _⟩
  have Fi := Lib.hid (show o.fine from hp.fine)
  have L3 := Lib.hid h3
  have q0 := run_length_le o acts
  have RL := Lib.hid (show (run o acts).length ≤ 1000 by omega)
  clear q0
  go_enter Try.func17, Try.ntmps17
  go_wp2_with fail
  refine (plain_yes o hp _).mono ?_
  rintro e w1 ⟨rfl, rfl⟩
  have K := Lib.hid (Kept.start o Ha.out)
  generalize (w.alloc (.cells #[.int .i64 o.kind, .int .i64 o.m] 23)).alloc (.cells #[.int .i64 o.kind, .int .i64 o.m] 23) = w1 at *
  rcases Nat.eq_zero_or_pos (run o acts).length with h0 | h0
  · have H0 := Lib.hid h0
    clear h0
    obtain ⟨hc0, hc1⟩ := K.out.c
    go_wp2_with fail
    refine (keptEnds m hm K.out Fi.out A acts acts.length cap rfl (by have := L3.out; omega) (by simp)).mono ?_
    rintro e wy ⟨A1, c1, xs, A2, c2, ys, rfl, he, k⟩
    have K := Lib.hid k
    have HE := Lib.hid he
    clear k he
    obtain ⟨hc0, hc1⟩ := K.out.c
    obtain ⟨rfl, rfl⟩ := HE.out.none (List.length_eq_zero_iff.1 H0.out)
    simp only [List.length_nil]
    go_wp2_with fail
    refine (keptRun K.out Fi.out A acts acts.length cap rfl (by have := L3.out; omega) (by simp)).mono ?_
    rintro e wy ⟨q, cq, rfl, k⟩
    have K := Lib.hid k
    clear k hc0 hc1
    rw [H0.out]
    go_wp2_with fail
    refine (keptGrows K.out).mono ?_
    rintro e wy ⟨rfl, k⟩
    have K := Lib.hid k
    clear k
    go_wp2_with fail
    go_ret
    exact ⟨rfl, K.out.below⟩
  · obtain ⟨p, hp⟩ : ∃ p, (run o acts)[0]? = some p := ⟨_, List.getElem?_eq_getElem (by omega)⟩
    obtain ⟨r, hr⟩ : ∃ r, (run o acts)[(run o acts).length - 1]? = some r := ⟨_, List.getElem?_eq_getElem (by omega)⟩
    have HP := Lib.hid hp
    have HQ := Lib.hid hr
    obtain ⟨n1, hn1⟩ : ∃ n1, (run o acts).length = n1 + 1 := ⟨(run o acts).length - 1, by omega⟩
    have HN1 := Lib.hid hn1
    clear hp hr h0 hn1
    obtain ⟨hc0, hc1⟩ := K.out.c
    go_wp2_with fail
    refine (keptEnds m hm K.out Fi.out A acts acts.length cap rfl (by have := L3.out; omega) (by simp)).mono ?_
    rintro e wy ⟨A1, c1, xs, A2, c2, ys, rfl, he, k⟩
    have K := Lib.hid k
    have HE := Lib.hid he
    clear k he
    obtain ⟨hc0, hc1⟩ := K.out.c
    obtain ⟨n2, hn2⟩ : ∃ n2, xs.length = n2 + 1 := ⟨xs.length - 1, by
      have h1 := (List.getElem?_eq_some_iff.1 (HE.out.fst _ HP.out)).1
      omega⟩
    obtain ⟨n3, hn3⟩ : ∃ n3, ys.length = n3 + 1 := ⟨ys.length - 1, by
      have h1 := (List.getElem?_eq_some_iff.1 (HE.out.lst _ HQ.out)).1
      omega⟩
    have hx0 := HE.out.fst _ HP.out
    have hy0 := HE.out.lst _ HQ.out
    rw [hn3, Nat.add_sub_cancel] at hy0
    have HX0 := Lib.hid hx0
    have HY0 := Lib.hid hy0
    have hle3 : n3 ≤ 1000 := by have := HE.out.len.2; omega
    rw [hn2, hn3]
    clear hx0 hy0
    go_wp2_with fail
    refine (keptRun K.out Fi.out A acts acts.length cap rfl (by have := L3.out; omega) (by simp)).mono ?_
    rintro e wy ⟨q, cq, rfl, k⟩
    have K := Lib.hid k
    clear k hc0 hc1
    obtain ⟨a, ha, _, hp0, hp1⟩ := (K.out.rows (some ⟨q, 0, none⟩, prCells (run o acts)) (by simp)).pair HP.out
    obtain ⟨a', ha', _, hq0, hq1⟩ := (K.out.rows (some ⟨q, 0, none⟩, prCells (run o acts)) (by simp)).pair HQ.out
    injection ha with ha
    injection ha' with ha'
    subst ha ha'
    obtain ⟨b1, hb1, _, hx0⟩ := (K.out.rows (A1, intRow xs) (by simp)).get (intRow_get HX0.out)
    obtain ⟨b2, hb2, _, hy0⟩ := (K.out.rows (A2, intRow ys) (by simp)).get (intRow_get HY0.out)
    have hb1 : A1 = some b1 := hb1
    have hb2 : A2 = some b2 := hb2
    subst hb1 hb2
    rw [HN1.out]
    have hp0 : wy.cell? ⟨q, 0, none⟩ = some (.int .i64 p.1) := by simpa [Addr.add] using hp0
    have hx0 : wy.cell? b1 = some (.int .i64 p.1) := by simpa [Addr.add] using hx0
    have hle : (n1 : Int) ≤ 1000 := by have := RL.out; have := HN1.out; omega
    have hge : (0 : Int) ≤ (n1 : Int) := by omega
    have hge3 : (0 : Int) ≤ (n3 : Int) := by omega
    rw [HN1.out, Nat.add_sub_cancel, add_at] at hq0
    have hw1 : IntKind.i64.wrap ((n1 : Int) + 1 - 1) = (n1 : Int) := by rw [Int.add_sub_cancel]; exact IntWalk.i64_in _ (by omega)
    have hw3 : IntKind.i64.wrap ((n3 : Int) + 1 - 1) = (n3 : Int) := by rw [Int.add_sub_cancel]; exact IntWalk.i64_in _ (by omega)
    have hlt3 : (n3 : Int) < ((n3 + 1 : Nat) : Int) := by omega
    have hlt4 : (n3 : Int) < (n3 : Int) + 1 := by omega
    have hlt1 : (n1 : Int) < ((n1 + 1 : Nat) : Int) := by omega
    have hlt2 : (n1 : Int) < (n1 : Int) + 1 := by omega
    clear hp1 hq1
    go_wp2_with fail
    go_quiet (fail)
    go_wp2_with fail
    go_ret
    exact ⟨rfl, Below.drewN' K.out.below _⟩

end Go.Proofs.Ytpkgmgebhnhhjaa.Bt
