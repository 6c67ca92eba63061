/- For every order and every list of acts: Right tells the last key and its value, if there is one. No condition. -/
import Derived.Test.YtpkgmgebhnhhjaaBtKept
import Derived.Test.YtpkgmgebhnhhjaaKeptFewBt
import Derived.Deep.RegionHeld3
import Derived.IntWalk
namespace Go.Proofs.Ytpkgmgebhnhhjaa.Bt
open Go.RowKit Go.Proofs.Ytpkgmgebhnhhjaa

set_option maxHeartbeats 4000000 in
set_option maxRecDepth 100000 in
theorem lawExactBTreeRight_walk (m : Int) (o : Ord) (cap : Nat) (A : Option Addr) (acts : List Do) (w : World) (hA : A = none → acts.length = 0 ∧ cap = 0) (ha : ActsAt w w.heap.size A acts) :
    Calls Try.prog 19 #[.int .i64 m, .agg #[.int .i64 o.kind, .int .i64 o.m], .slice A acts.length cap] w fun e w' => e = .returned (.bool true) ∧ Below w.heap.size w w' := by
  have Ha := Lib.hid ha
  have HA := Lib.hid hA
  clear ha hA
  by_cases h0 : 2147483647 < acts.length
  · go_enter Try.func19, Try.ntmps19
    go_wp2_with fail
    go_ret
    exact ⟨rfl, (Below.refl _ _).alloc (Nat.le_refl _) _⟩
  by_cases hm1 : m < 3
  · go_enter Try.func19, Try.ntmps19
    go_wp2_with fail
    go_ret
    exact ⟨rfl, (Below.refl _ _).alloc (Nat.le_refl _) _⟩
  by_cases hm2 : 64 < m
  · have hm1' : ¬ m < 3 := hm1
    go_enter Try.func19, Try.ntmps19
    go_wp2_with fail
    go_ret
    exact ⟨rfl, (Below.refl _ _).alloc (Nat.le_refl _) _⟩
  have hm : 3 ≤ m ∧ m ≤ 64 := ⟨by omega, by omega⟩
  by_cases hp : ¬ o.plain
  · go_enter Try.func19, Try.ntmps19
    go_wp2_with fail
    refine (plain_no o hp _).mono ?_
    rintro e w1 ⟨rfl, rfl⟩
    go_wp2_with fail
    go_ret
    exact ⟨rfl, ((Below.refl _ _).alloc (Nat.le_refl _) _).alloc (by simp) _⟩
  replace hp := Classical.not_not.1 hp
  by_cases h3 : 300 < acts.length
  · go_enter Try.func19, Try.ntmps19
    go_wp2_with fail
    refine (plain_yes o hp _).mono ?_
    rintro e w1 ⟨rfl, rfl⟩
    go_wp2_with fail
    go_ret
    exact ⟨rfl, ((Below.refl _ _).alloc (Nat.le_refl _) _).alloc (by simp) _⟩
  have Fi := Lib.hid (show o.fine from hp.fine)
  have L3 := Lib.hid h3
  have q0 := run_length_le o acts
  have RL := Lib.hid (show (run o acts).length ≤ 1000 by omega)
  clear q0
  go_enter Try.func19, Try.ntmps19
  go_wp2_with fail
  refine (plain_yes o hp _).mono ?_
  rintro e w1 ⟨rfl, rfl⟩
  have K := Lib.hid (Kept.start o Ha.out)
  generalize (w.alloc (.cells #[.int .i64 o.kind, .int .i64 o.m] 23)).alloc (.cells #[.int .i64 o.kind, .int .i64 o.m] 23) = w1 at *
  have C1 := Lib.hid (fun (rows : List (Option Addr × List Value)) (sts : List (Value × KV)) (B : Nat) (wx : World) (K : Kept w w.heap.size o rows sts B wx) (hmm : (A, actCells acts) ∈ rows) => keptRight m hm K Fi.out A acts acts.length cap rfl (by have := L3.out; omega) hmm)
  rcases Nat.eq_zero_or_pos (run o acts).length with h0 | h0
  · have e1 : (run o acts)[(run o acts).length - 1]? = none := List.getElem?_eq_none (by omega)
    rw [e1] at C1
    simp only [tripV] at C1
    have H0 := Lib.hid h0
    clear e1 h0
    obtain ⟨hc0, hc1⟩ := K.out.c
    go_wp2_with fail
    refine (C1.out _ _ _ _ K.out (by simp)).mono ?_
    rintro e wy ⟨rfl, k⟩
    have K := Lib.hid k
    clear k
    obtain ⟨hc0, hc1⟩ := K.out.c
    go_wp2_with fail
    refine (keptRun K.out Fi.out A acts acts.length cap rfl (by have := L3.out; omega) (by simp)).mono ?_
    rintro e wy ⟨q, cq, rfl, k⟩
    have K := Lib.hid k
    clear k hc0 hc1
    rw [H0.out]
    go_wp2_with fail
    refine (keptGrows K.out).mono ?_
    rintro e wy ⟨rfl, k⟩
    have K := Lib.hid k
    clear k
    go_wp2_with fail
    go_ret
    exact ⟨rfl, K.out.below⟩
  · obtain ⟨p, hp⟩ : ∃ p, (run o acts)[(run o acts).length - 1]? = some p := ⟨_, List.getElem?_eq_getElem (by omega)⟩
    rw [hp] at C1
    simp only [tripV] at C1
    have HP := Lib.hid hp
    obtain ⟨n1, hn1⟩ : ∃ n1, (run o acts).length = n1 + 1 := ⟨(run o acts).length - 1, by omega⟩
    have HN1 := Lib.hid hn1
    clear hp h0 hn1
    obtain ⟨hc0, hc1⟩ := K.out.c
    go_wp2_with fail
    refine (C1.out _ _ _ _ K.out (by simp)).mono ?_
    rintro e wy ⟨rfl, k⟩
    have K := Lib.hid k
    clear k
    obtain ⟨hc0, hc1⟩ := K.out.c
    go_wp2_with fail
    refine (keptRun K.out Fi.out A acts acts.length cap rfl (by have := L3.out; omega) (by simp)).mono ?_
    rintro e wy ⟨q, cq, rfl, k⟩
    have K := Lib.hid k
    clear k hc0 hc1
    obtain ⟨a, ha, _, hp0, hp1⟩ := (K.out.rows (some ⟨q, 0, none⟩, prCells (run o acts)) (by simp)).pair HP.out
    injection ha with ha
    subst ha
    rw [HN1.out]
    have RL2 := Lib.hid (show n1 + 1 ≤ 1000 by have := RL.out; have := HN1.out; omega)
    have hle : (n1 : Int) ≤ 1000 := by have := RL2.out; omega
    have hge : (0 : Int) ≤ (n1 : Int) := by omega
    rw [HN1.out, Nat.add_sub_cancel, add_at] at hp0 hp1
    simp only [] at hp1
    have hw1 : IntKind.i64.wrap ((n1 : Int) + 1 - 1) = (n1 : Int) := by rw [Int.add_sub_cancel]; exact IntWalk.i64_in _ (by omega)
    go_wp2_with fail
    refine (keptGrows K.out).mono ?_
    rintro e wy ⟨rfl, k⟩
    have K := Lib.hid k
    clear k
    go_wp2_with fail
    go_ret
    exact ⟨rfl, K.out.below⟩

end Go.Proofs.Ytpkgmgebhnhhjaa.Bt
