/- For every order, every list of acts and all numbers: what was taken out is not found, and all other numbers are as they were. No condition. -/
import Derived.Test.YtpkgmgebhnhhjaaBtKept
import Derived.Deep.RegionHeld3
import Derived.IntWalk
namespace Go.Proofs.Ytpkgmgebhnhhjaa.Bt
open Go.RowKit Go.Proofs.Ytpkgmgebhnhhjaa

set_option maxHeartbeats 4000000 in
set_option maxRecDepth 100000 in
theorem lawBTreeRemoveGet_walk (m : Int) (o : Ord) (cap : Nat) (A : Option Addr) (acts : List Do) (key other : Int) (w : World) (hA : A = none → acts.length = 0 ∧ cap = 0) (ha : ActsAt w w.heap.size A acts) :
    Calls Try.prog 13 #[.int .i64 m, .agg #[.int .i64 o.kind, .int .i64 o.m], .slice A acts.length cap, .int .i64 key, .int .i64 other] w fun e w' => e = .returned (.bool true) ∧ Below w.heap.size w w' := by
  have Ha := Lib.hid ha
  have HA := Lib.hid hA
  clear ha hA
  by_cases h0 : 2147483647 < acts.length
  · go_enter Try.func13, Try.ntmps13
    go_wp2_with fail
    go_ret
    exact ⟨rfl, (Below.refl _ _).alloc (Nat.le_refl _) _⟩
  by_cases hm1 : m < 3
  · go_enter Try.func13, Try.ntmps13
    go_wp2_with fail
    go_ret
    exact ⟨rfl, (Below.refl _ _).alloc (Nat.le_refl _) _⟩
  by_cases hm2 : 64 < m
  · have hm1' : ¬ m < 3 := hm1
    go_enter Try.func13, Try.ntmps13
    go_wp2_with fail
    go_ret
    exact ⟨rfl, (Below.refl _ _).alloc (Nat.le_refl _) _⟩
  have hm : 3 ≤ m ∧ m ≤ 64 := ⟨by omega, by omega⟩
  by_cases hp : ¬ o.plain
  · go_enter Try.func13, Try.ntmps13
    go_wp2_with fail
    refine (plain_no o hp _).mono ?_
    rintro e w1 ⟨rfl, rfl⟩
    go_wp2_with fail
    go_ret
    exact ⟨rfl, ((Below.refl _ _).alloc (Nat.le_refl _) _).alloc (by simp) _⟩
  replace hp := Classical.not_not.1 hp
  by_cases h3 : 300 < acts.length
  · go_enter Try.func13, Try.ntmps13
    go_wp2_with fail
    refine (plain_yes o hp _).mono ?_
    rintro e w1 ⟨rfl, rfl⟩
    go_wp2_with fail
    go_ret
    exact ⟨rfl, ((Below.refl _ _).alloc (Nat.le_refl _) _).alloc (by simp) _⟩
  have Fi := Lib.hid (show o.fine from hp.fine)
  have L3 := Lib.hid h3
  have q0 := run_length_le o acts
  have RL := Lib.hid (show (run o acts).length ≤ 1000 by omega)
  clear q0
  have q1 : look o key (run o (acts ++ [⟨2, key, 0⟩])) = none := by rw [run_snoc, step_rem]; exact look_del_same (Asc.run o acts)
  have q3 : other ≠ key → look o other (run o (acts ++ [⟨2, key, 0⟩])) = look o other (run o acts) := fun h => by
    rw [run_snoc, step_rem]; exact look_del_other (Asc.run o acts) (fun e => h (rk_inj hp e))
  have Q1 := Lib.hid q1
  have Q3 := Lib.hid q3
  clear q1 q3
  go_enter Try.func13, Try.ntmps13
  go_wp2_with fail
  refine (plain_yes o hp _).mono ?_
  rintro e w1 ⟨rfl, rfl⟩
  have K := Lib.hid (Kept.start o Ha.out)
  generalize (w.alloc (.cells #[.int .i64 o.kind, .int .i64 o.m] 23)).alloc (.cells #[.int .i64 o.kind, .int .i64 o.m] 23) = w1 at *
  go_wp2_with (at_builtin; refine Hid.out ?_)
  delta Hid
  have OW0 := Lib.hid (own_empty (e := 27) (size := 3) (Blk.new w1 27 #[]) (Nat.le_refl _))
  have KA := Lib.hid (K.out.alloc (.cells #[] 27))
  refine wpList_app_act rfl _ _ rfl w1.heap.size (.slice (some ⟨w1.heap.size, 0, none⟩) 0 0) [] rfl OW0.out A acts.length cap acts rfl ((KA.out.rows (A, actCells acts) (by simp)).src (actCells_length _) HA.out) rfl (by simp; omega) (by simp) ?_
  intro v1 wa1 own1 gr1 _
  have k1 := KA.out.grown OW0.out K.out.le (by simp) gr1
  have hKle1 := Lib.hid K.out.le
  have hsz1 := Lib.hid (show w1.heap.size + 1 ≤ wa1.heap.size by have := gr1.size; simp at this; omega)
  rw [List.nil_append] at own1
  obtain ⟨Aa1, capa1, rfl, _, _⟩ := own_slice own1
  have OW1 := Lib.hid own1
  have K := Lib.hid k1
  clear own1 gr1 k1 KA OW0
  go_wp2_with (at_builtin; refine Hid.out ?_)
  delta Hid
  have KA := Lib.hid (K.out.alloc (.cells (actCells [⟨2, key, 0⟩]).toArray 27))
  have OW2 := Lib.hid (own_below OW1.out ((Below.refl wa1.heap.size wa1).alloc (Nat.le_refl _) (.cells (actCells [⟨2, key, 0⟩]).toArray 27)))
  refine wpList_app_act rfl _ _ rfl w1.heap.size (.slice Aa1 acts.length capa1) acts rfl OW2.out (some ⟨wa1.heap.size, 0, none⟩) 1 1 [⟨2, key, 0⟩] rfl (src_block (Blk.new _ _ _)) rfl (by simp; omega) (by have := hsz1.out; simp; omega) ?_
  intro v1 wb1 own2 gr2 _
  have k2 := KA.out.grown OW2.out hKle1.out (by have := hsz1.out; simp; omega) gr2
  have hsy1 := Lib.hid (show wa1.heap.size + 1 ≤ wb1.heap.size by have := gr2.size; simp at this; omega)
  obtain ⟨A1, cap1, rfl, _, _⟩ := own_slice own2
  have k3 := (k2.up (by have := hKle1.out; have := hsz1.out; have := hsy1.out; omega) (Nat.le_refl _)).row ((ActsAt.of_own own2).row)
  have K := Lib.hid k3
  clear own2 gr2 k2 k3 KA OW1 OW2
  have C1 := Lib.hid (fun (rows : List (Option Addr × List Value)) (sts : List (Value × KV)) (B : Nat) (wx : World) (K : Kept w w.heap.size o rows sts B wx) (hmm : (A1, actCells (acts ++ [⟨2, key, 0⟩])) ∈ rows) => keptGet m hm K Fi.out A1 (acts ++ [⟨2, key, 0⟩]) key (acts.length + 1) cap1 (by simp) (by have := L3.out; omega) hmm)
  have C2 := Lib.hid (fun (rows : List (Option Addr × List Value)) (sts : List (Value × KV)) (B : Nat) (wx : World) (K : Kept w w.heap.size o rows sts B wx) (hmm : (A, actCells acts) ∈ rows) => keptGet m hm K Fi.out A acts other acts.length cap (by simp) (by have := L3.out; omega) hmm)
  have C3 := Lib.hid (fun (rows : List (Option Addr × List Value)) (sts : List (Value × KV)) (B : Nat) (wx : World) (K : Kept w w.heap.size o rows sts B wx) (hmm : (A1, actCells (acts ++ [⟨2, key, 0⟩])) ∈ rows) => keptGet m hm K Fi.out A1 (acts ++ [⟨2, key, 0⟩]) other (acts.length + 1) cap1 (by simp) (by have := L3.out; omega) hmm)
  rw [Q1.out] at C1
  simp only [gotV] at C1
  by_cases hk : other = key
  · subst hk
    clear Q3
    rw [Q1.out] at C3
    simp only [gotV] at C3
    clear Q1
    cases hq : look o other (run o acts) <;>
      (rw [hq] at C2
       simp only [gotV] at C2
       clear hq
       obtain ⟨hc0, hc1⟩ := K.out.c
       go_wp2_with fail
       refine (C1.out _ _ _ _ K.out (by simp)).mono ?_
       rintro e wy ⟨rfl, k⟩
       have K := Lib.hid k
       clear k
       obtain ⟨hc0, hc1⟩ := K.out.c
       go_wp2_with fail
       refine (C2.out _ _ _ _ K.out (by simp)).mono ?_
       rintro e wy ⟨rfl, k⟩
       have K := Lib.hid k
       clear k
       obtain ⟨hc0, hc1⟩ := K.out.c
       go_wp2_with fail
       refine (C3.out _ _ _ _ K.out (by simp)).mono ?_
       rintro e wy ⟨rfl, k⟩
       have K := Lib.hid k
       clear k
       obtain ⟨hc0, hc1⟩ := K.out.c
       clear hc0 hc1
       go_wp2_with fail
       refine (keptGrows K.out).mono ?_
       rintro e wy ⟨rfl, k⟩
       have K := Lib.hid k
       clear k
       go_wp2_with fail
       go_ret
       exact ⟨rfl, K.out.below⟩)
  · have hke : (other == key) = false := by simpa using hk
    rw [Q3.out hk] at C3
    clear Q1 Q3 hk
    cases hq : look o other (run o acts) <;>
      (rw [hq] at C2 C3
       simp only [gotV] at C2 C3
       clear hq
       obtain ⟨hc0, hc1⟩ := K.out.c
       go_wp2_with fail
       refine (C1.out _ _ _ _ K.out (by simp)).mono ?_
       rintro e wy ⟨rfl, k⟩
       have K := Lib.hid k
       clear k
       obtain ⟨hc0, hc1⟩ := K.out.c
       go_wp2_with fail
       refine (C2.out _ _ _ _ K.out (by simp)).mono ?_
       rintro e wy ⟨rfl, k⟩
       have K := Lib.hid k
       clear k
       obtain ⟨hc0, hc1⟩ := K.out.c
       go_wp2_with fail
       refine (C3.out _ _ _ _ K.out (by simp)).mono ?_
       rintro e wy ⟨rfl, k⟩
       have K := Lib.hid k
       clear k
       obtain ⟨hc0, hc1⟩ := K.out.c
       clear hc0 hc1
       go_wp2_with fail
       refine (keptGrows K.out).mono ?_
       rintro e wy ⟨rfl, k⟩
       have K := Lib.hid k
       clear k
       go_wp2_with fail
       go_ret
       exact ⟨rfl, K.out.below⟩)

end Go.Proofs.Ytpkgmgebhnhhjaa.Bt
