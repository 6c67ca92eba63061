/- For every order, every list of acts and every number: Prev of a node is the node ahead of it in order, if there is one. No condition. -/
import Derived.Test.YtpmikeeeocnfnaaKeptAvl
import Derived.Test.YtpmikeeeocnfnaaKeptFewAvl
import Derived.Deep.RegionHeld3
import Derived.IntWalk
namespace Go.Proofs.Ytpmikeeeocnfnaa
open Go.RowKit

set_option maxHeartbeats 4000000 in
set_option maxRecDepth 100000 in
theorem lawAVLPrev_walk (o : Ord) (cap : Nat) (A : Option Addr) (acts : List Do) (key : Int) (w : World) (hA : A = none → acts.length = 0 ∧ cap = 0) (ha : ActsAt w w.heap.size A acts) :
    Calls Try.prog 20 #[.agg #[.int .i64 o.kind, .int .i64 o.m], .slice A acts.length cap, .int .i64 key] w fun e w' => e = .returned (.bool true) ∧ Below w.heap.size w w' := by
  have Ha := Lib.hid ha
  have HA := Lib.hid hA
  clear ha hA
  by_cases h0 : 2147483647 < acts.length
  · go_enter Try.func20, Try.ntmps20
    go_wp2_with fail
    go_ret
    exact ⟨rfl, (Below.refl _ _).alloc (Nat.le_refl _) _⟩
  by_cases hp : ¬ o.plain
  · go_enter Try.func20, Try.ntmps20
    go_wp2_with fail
    refine (plain_no o hp _).mono ?_
    rintro e w1 ⟨rfl, rfl⟩
    go_wp2_with fail
    go_ret
    exact ⟨rfl, ((Below.refl _ _).alloc (Nat.le_refl _) _).alloc (by simp) _⟩
  replace hp := Classical.not_not.1 hp
  by_cases h3 : 300 < acts.length
  · go_enter Try.func20, Try.ntmps20
    go_wp2_with fail
    refine (plain_yes o hp _).mono ?_
    rintro e w1 ⟨rfl, rfl⟩
    go_wp2_with fail
    go_ret
    exact ⟨rfl, ((Below.refl _ _).alloc (Nat.le_refl _) _).alloc (by simp) _⟩
  have Fi := Lib.hid (show o.fine from hp.fine)
  have L3 := Lib.hid h3
  have q0 := run_length_le o acts
  have RL := Lib.hid (show (run o acts).length ≤ 1000 by omega)
  clear q0
  go_enter Try.func20, Try.ntmps20
  go_wp2_with fail
  refine (plain_yes o hp _).mono ?_
  rintro e w1 ⟨rfl, rfl⟩
  have K := Lib.hid (Kept.start o Ha.out)
  generalize (w.alloc (.cells #[.int .i64 o.kind, .int .i64 o.m] 23)).alloc (.cells #[.int .i64 o.kind, .int .i64 o.m] 23) = w1 at *
  have C1 := Lib.hid (fun (rows : List (Option Addr × List Value)) (sts : List (Value × KV)) (B : Nat) (wx : World) (K : Kept w w.heap.size o rows sts B wx) (hmm : (A, actCells acts) ∈ rows) => keptPrev K Fi.out A acts key acts.length cap rfl (by have := L3.out; omega) hmm)
  cases hq : hasK o key (run o acts) with
  | false =>
    have HQ := Lib.hid hq
    have e1 : prevP o key (run o acts) = none := by unfold prevP; rw [hq]; rfl
    rw [e1] at C1
    simp only [tripV] at C1
    clear e1 hq
    obtain ⟨hc0, hc1⟩ := K.out.c
    go_wp2_with fail
    refine (keptRun K.out Fi.out A acts acts.length cap rfl (by have := L3.out; omega) (by simp)).mono ?_
    rintro e wy ⟨q, cq, rfl, k⟩
    have K := Lib.hid k
    clear k
    obtain ⟨hc0, hc1⟩ := K.out.c
    go_wp2_with fail
    refine (keptAt K.out Fi.out (some ⟨q, 0, none⟩) (run o acts) key (run o acts).length cq rfl (by have := RL.out; omega) (by simp)).mono ?_
    rintro e wy ⟨rfl, k⟩
    have K := Lib.hid k
    clear k
    obtain ⟨hc0, hc1⟩ := K.out.c
    go_wp2_with fail
    refine (C1.out _ _ _ _ K.out (by simp)).mono ?_
    rintro e wy ⟨rfl, k⟩
    have K := Lib.hid k
    clear k
    obtain ⟨hc0, hc1⟩ := K.out.c
    have HH := Lib.hid (show hasK o key (run o acts) = false from HQ.out)
    have CH := Lib.hid (keptHas K.out Fi.out (some ⟨q, 0, none⟩) (run o acts) key (run o acts).length cq rfl (by simp))
    rw [HH.out] at CH
    have hpl := plc_le o key (run o acts)
    have JN := Lib.hid hpl
    have NN := Lib.hid RL.out
    clear hpl C1 HQ HH
    go_wp2_with fail
    refine CH.out.mono ?_
    rintro e wy ⟨rfl, k, bh⟩
    have K := Lib.hid k
    clear k bh hc0 hc1 CH
    go_wp2_with fail
    refine (keptGrows K.out).mono ?_
    rintro e wy ⟨rfl, k⟩
    have K := Lib.hid k
    clear k
    go_wp2_with fail
    go_ret
    exact ⟨rfl, K.out.below⟩
  | true =>
    have HQ := Lib.hid hq
    obtain ⟨pq, hpq, _⟩ := hasK_some hq
    have hpl := (List.getElem?_eq_some_iff.1 hpq).1
    clear hpq
    by_cases hx : 0 < plc o key (run o acts)
    · obtain ⟨p, hp⟩ : ∃ p, (run o acts)[plc o key (run o acts) - 1]? = some p := ⟨_, List.getElem?_eq_getElem (by omega)⟩
      have e1 : prevP o key (run o acts) = some p := by unfold prevP; rw [hq]; rw [if_pos rfl, if_neg (by omega)]; exact hp
      rw [e1] at C1
      simp only [tripV] at C1
      have HP := Lib.hid hp
      have HX := Lib.hid hx
      have HL := Lib.hid hpl
      clear e1 hq hp hx hpl
      obtain ⟨hc0, hc1⟩ := K.out.c
      go_wp2_with fail
      refine (keptRun K.out Fi.out A acts acts.length cap rfl (by have := L3.out; omega) (by simp)).mono ?_
      rintro e wy ⟨q, cq, rfl, k⟩
      have K := Lib.hid k
      clear k
      obtain ⟨hc0, hc1⟩ := K.out.c
      go_wp2_with fail
      refine (keptAt K.out Fi.out (some ⟨q, 0, none⟩) (run o acts) key (run o acts).length cq rfl (by have := RL.out; omega) (by simp)).mono ?_
      rintro e wy ⟨rfl, k⟩
      have K := Lib.hid k
      clear k
      obtain ⟨hc0, hc1⟩ := K.out.c
      go_wp2_with fail
      refine (C1.out _ _ _ _ K.out (by simp)).mono ?_
      rintro e wy ⟨rfl, k⟩
      have K := Lib.hid k
      clear k
      obtain ⟨hc0, hc1⟩ := K.out.c
      have HH := Lib.hid (show hasK o key (run o acts) = true from HQ.out)
      have CH := Lib.hid (keptHas K.out Fi.out (some ⟨q, 0, none⟩) (run o acts) key (run o acts).length cq rfl (by simp))
      rw [HH.out] at CH
      clear C1 HQ HH
      obtain ⟨a, ha, _, hp0, hp1⟩ := (K.out.rows (some ⟨q, 0, none⟩, prCells (run o acts)) (by simp)).pair HP.out
      injection ha with ha
      subst ha
      rw [add_at] at hp0 hp1
      simp only [] at hp1
      have NN := Lib.hid RL.out
      clear HP
      generalize plc o key (run o acts) = j at *
      generalize (run o acts).length = n at *
      have hj0 : (0 : Int) ≤ (j : Int) := by omega
      have hjn : (j : Int) < (n : Int) := by have := HL.out; omega
      have hnn : (n : Int) ≤ 1000 := by have := NN.out; omega
      have hj1 : (1 : Int) ≤ (j : Int) := by have := HX.out; omega
      have hw1 : IntKind.i64.wrap ((j : Int) - 1) = (j : Int) - 1 := IntWalk.i64_in _ (by omega)
      have hw2 : ((j : Int) - 1).toNat = j - 1 := by omega
      have hw3 : (0 : Int) ≤ (j : Int) - 1 := by omega
      have hw4 : (j : Int) - 1 < (n : Int) := by omega
      go_wp2_with fail
      refine CH.out.mono ?_
      rintro e wh ⟨rfl, k, bh⟩
      have K2 := Lib.hid k
      have hd0 := (bh.cell (World.block_lt_of_cell? _ _ hp0)).trans hp0
      have hd1 := (bh.cell (World.block_lt_of_cell? _ _ hp1)).trans hp1
      clear k bh hc0 hc1 CH hp0 hp1
      go_wp2_with fail
      go_ret
      exact ⟨rfl, K2.out.below⟩
    · have e1 : prevP o key (run o acts) = none := by unfold prevP; rw [hq]; rw [if_pos rfl, if_pos (by omega)]
      rw [e1] at C1
      simp only [tripV] at C1
      have HX := Lib.hid hx
      have HL := Lib.hid hpl
      clear e1 hq hx hpl
      obtain ⟨hc0, hc1⟩ := K.out.c
      go_wp2_with fail
      refine (keptRun K.out Fi.out A acts acts.length cap rfl (by have := L3.out; omega) (by simp)).mono ?_
      rintro e wy ⟨q, cq, rfl, k⟩
      have K := Lib.hid k
      clear k
      obtain ⟨hc0, hc1⟩ := K.out.c
      go_wp2_with fail
      refine (keptAt K.out Fi.out (some ⟨q, 0, none⟩) (run o acts) key (run o acts).length cq rfl (by have := RL.out; omega) (by simp)).mono ?_
      rintro e wy ⟨rfl, k⟩
      have K := Lib.hid k
      clear k
      obtain ⟨hc0, hc1⟩ := K.out.c
      go_wp2_with fail
      refine (C1.out _ _ _ _ K.out (by simp)).mono ?_
      rintro e wy ⟨rfl, k⟩
      have K := Lib.hid k
      clear k
      obtain ⟨hc0, hc1⟩ := K.out.c
      have HH := Lib.hid (show hasK o key (run o acts) = true from HQ.out)
      have CH := Lib.hid (keptHas K.out Fi.out (some ⟨q, 0, none⟩) (run o acts) key (run o acts).length cq rfl (by simp))
      rw [HH.out] at CH
      clear C1 HQ HH
      have NN := Lib.hid RL.out
      generalize plc o key (run o acts) = j at *
      generalize (run o acts).length = n at *
      have hj0 : (0 : Int) ≤ (j : Int) := by omega
      have hjn : (j : Int) < (n : Int) := by have := HL.out; omega
      have hnn : (n : Int) ≤ 1000 := by have := NN.out; omega
      have hj1 : j = 0 := by have := HX.out; omega
      subst hj1
      go_wp2_with fail
      refine CH.out.mono ?_
      rintro e wy ⟨rfl, k, bh⟩
      have K := Lib.hid k
      clear k bh hc0 hc1 CH
      go_wp2_with fail
      refine (keptGrows K.out).mono ?_
      rintro e wy ⟨rfl, k⟩
      have K := Lib.hid k
      clear k
      go_wp2_with fail
      go_ret
      exact ⟨rfl, K.out.below⟩

end Go.Proofs.Ytpmikeeeocnfnaa
