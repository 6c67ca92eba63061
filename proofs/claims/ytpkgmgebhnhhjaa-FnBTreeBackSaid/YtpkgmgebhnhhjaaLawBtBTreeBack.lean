/- For every order and every list of acts: from its end on, Prev tells all pairs from the last one on, and then none. No condition. -/
import Derived.Test.YtpkgmgebhnhhjaaBtStates
import Derived.Test.YtpkgmgebhnhhjaaBtWalkC
import Derived.Test.YtpkgmgebhnhhjaaMvRow
import Derived.Deep.RegionHeld3
import Derived.IntWalk
namespace Go.Proofs.Ytpkgmgebhnhhjaa.Bt
open Go.RowKit Go.Proofs.Ytpkgmgebhnhhjaa

set_option maxHeartbeats 4000000 in
set_option maxRecDepth 100000 in
theorem lawBTreeBack_walk (m : Int) (o : Ord) (cap : Nat) (A : Option Addr) (acts : List Do) (w : World) (hA : A = none → acts.length = 0 ∧ cap = 0) (ha : ActsAt w w.heap.size A acts) :
    Calls Try.prog 20 #[.int .i64 m, .agg #[.int .i64 o.kind, .int .i64 o.m], .slice A acts.length cap] w fun e w' => e = .returned (.bool true) ∧ Below w.heap.size w w' := by
  have Ha := Lib.hid ha
  have HA := Lib.hid hA
  clear ha hA
  by_cases h0 : 2147483647 < acts.length
  · go_enter Try.func20, Try.ntmps20
    go_wp2_with fail
    go_ret
    exact ⟨rfl, (Below.refl _ _).alloc (Nat.le_refl _) _⟩
  by_cases hm1 : m < 3
  · go_enter Try.func20, Try.ntmps20
    go_wp2_with fail
    go_ret
    exact ⟨rfl, (Below.refl _ _).alloc (Nat.le_refl _) _⟩
  by_cases hm2 : 64 < m
  · have hm1' : ¬ m < 3 := hm1
    go_enter Try.func20, Try.ntmps20
    go_wp2_with fail
    go_ret
    exact ⟨rfl, (Below.refl _ _).alloc (Nat.le_refl _) _⟩
  have hm : 3 ≤ m ∧ m ≤ 64 := ⟨by omega, by omega⟩
  by_cases hp : ¬ o.plain
  · go_enter Try.func20, Try.ntmps20
    go_wp2_with fail
    refine (plain_no o hp _).mono ?_
    rintro e w1 ⟨rfl, rfl⟩
    go_wp2_with fail
    go_ret
    exact ⟨rfl, ((Below.refl _ _).alloc (Nat.le_refl _) _).alloc (by simp) _⟩
  replace hp := Classical.not_not.1 hp
  by_cases h3 : 300 < acts.length
  · go_enter Try.func20, Try.ntmps20
    go_wp2_with fail
    refine (plain_yes o hp _).mono ?_
    rintro e w1 ⟨rfl, rfl⟩
    go_wp2_with fail
    go_ret
    exact ⟨rfl, ((Below.refl _ _).alloc (Nat.le_refl _) _).alloc (by simp) _⟩
  have Fi := Lib.hid (show o.fine from hp.fine)
  have L3 := Lib.hid h3
  have q0 := run_length_le o acts
  have RL := Lib.hid (show (run o acts).length ≤ 1000 by omega)
  clear q0
  go_enter Try.func20, Try.ntmps20
  go_wp2_with fail
  refine (plain_yes o hp _).mono ?_
  rintro e w1 ⟨rfl, rfl⟩
  have K := Lib.hid (Kept.start o Ha.out)
  generalize (w.alloc (.cells #[.int .i64 o.kind, .int .i64 o.m] 23)).alloc (.cells #[.int .i64 o.kind, .int .i64 o.m] 23) = w1 at *
  obtain ⟨hc0, hc1⟩ := K.out.c
  go_wp2_with fail
  refine (keptState m hm K.out Fi.out A acts acts.length cap rfl (by have := L3.out; omega) (by simp)).mono ?_
  rintro e w2 ⟨v, rfl, k⟩
  obtain ⟨A1, c1, A2, c2, hv, r1, r2⟩ := k.sts (v, run o acts) (by simp)
  have hlen : (run o acts).length ≤ 300 := by have h8 := run_length_le o acts; have h9 := L3.out; omega
  have FS := Lib.hid (fun (k : Nat) (p : Int × Int) => bck_seen (run o acts) (k := k) (p := p))
  have FL := Lib.hid (bck_last (run o acts))
  have k9 := (k.row r2).row r1
  have KK := Lib.hid (show Kept w w.heap.size o [(A1, intRow ((run o acts).map Prod.fst)), (A2, intRow ((run o acts).map Prod.snd)), (A, actCells acts)] [] w2.heap.size w2 from ⟨k9.below, k9.ord, k9.lt, k9.le, k9.ge, k9.rows, fun r hr => by simp at hr⟩)
  simp only at hv
  subst hv
  clear k k9 r1 r2 K hc0 hc1
  generalize hl : run o acts = l at *
  have HL := Lib.hid hl
  clear hl
  generalize hn : l.length = n at *
  have HN := Lib.hid hn
  clear hn
  have hmk : ∀ w, (Instr.makeSlice 31 (.int .i64 ((n : Int) + 2)) (.int .i64 ((n : Int) + 2))).run Try.prog w = .ok (.slice (some ⟨w.heap.size, 0, none⟩) (n + 2) (n + 2)) (w.alloc (.cells (actCells (mvRow 2 (n + 2) 0)).toArray 65)) := fun w => by
    have := makeM_run w (n + 2) (by omega)
    rw [← mvRow_zero 2] at this
    rw [show ((n + 2 : Nat) : Int) = (n : Int) + 2 by omega] at this
    exact this
  have hw0 : IntKind.i64.wrap ((n : Int) + 2) = (n : Int) + 2 := IntWalk.i64_in _ (by omega)
  have NN := Lib.hid hlen
  have K4 := Lib.hid (show Kept w w.heap.size o [(A1, intRow (l.map Prod.fst)), (A2, intRow (l.map Prod.snd)), (A, actCells acts)] [] w2.heap.size ((w2.alloc (.cells #[.slice A1 n c1, .slice A2 n c2, .int .i64 (n : Int), .bool ((n : Int) == 0)] 41)).alloc (.cells (actCells (mvRow 2 (n + 2) 0)).toArray 65)) from (KK.out.alloc _).next (C := w2.heap.size) ((Below.refl _ _).alloc (by simp) _) (Nat.le_refl _))
  have S4 := Lib.hid (show Blk ((w2.alloc (.cells #[.slice A1 n c1, .slice A2 n c2, .int .i64 (n : Int), .bool ((n : Int) == 0)] 41)).alloc (.cells (actCells (mvRow 2 (n + 2) 0)).toArray 65)) w2.heap.size 41 #[.slice A1 n c1, .slice A2 n c2, .int .i64 (n : Int), .bool ((n : Int) == 0)] from Blk.alloc (Blk.new _ _ _) _)
  have M4 := Lib.hid (show Blk ((w2.alloc (.cells #[.slice A1 n c1, .slice A2 n c2, .int .i64 (n : Int), .bool ((n : Int) == 0)] 41)).alloc (.cells (actCells (mvRow 2 (n + 2) 0)).toArray 65)) (w2.heap.size + 1) 65 (actCells (mvRow 2 (n + 2) 0)).toArray from Blk.newAt (by simp) _ _)
  have Z4 := Lib.hid (show w2.heap.size + 2 ≤ ((w2.alloc (.cells #[.slice A1 n c1, .slice A2 n c2, .int .i64 (n : Int), .bool ((n : Int) == 0)] 41)).alloc (.cells (actCells (mvRow 2 (n + 2) 0)).toArray 65)).heap.size by simp)
  clear hlen KK
  go_wp2_with fail
  generalize (w2.alloc (.cells #[.slice A1 n c1, .slice A2 n c2, .int .i64 (n : Int), .bool ((n : Int) == 0)] 41)).alloc (.cells (actCells (mvRow 2 (n + 2) 0)).toArray 65) = w4 at *
  clear hmk hw0
  go_loopw [43] (fun i wr => ∃ k : Nat, k ≤ n + 2 ∧ i = .int .i64 k ∧ Kept w w.heap.size o [(A1, intRow (l.map Prod.fst)), (A2, intRow (l.map Prod.snd)), (A, actCells acts)] [] w2.heap.size wr ∧ Blk wr w2.heap.size 41 #[.slice A1 n c1, .slice A2 n c2, .int .i64 (n : Int), .bool ((n : Int) == 0)] ∧ Blk wr (w2.heap.size + 1) 65 (actCells (mvRow 2 (n + 2) k)).toArray ∧ w4.heap.size ≤ wr.heap.size) (fun i _ => n + 2 - (intOf i).toNat)
  case atStart => exact ⟨0, Nat.zero_le _, rfl, K4.out, S4.out, M4.out, Nat.le_refl _⟩
  case round =>
    obtain ⟨k, hk, rfl, kk, hs, hm, hz⟩ := hrel
    have K5 := Lib.hid kk
    have S5 := Lib.hid hs
    have M5 := Lib.hid hm
    have Z5 := Lib.hid hz
    have hnm := NN.out
    by_cases hlt : k < n + 2
    · obtain ⟨x, hx⟩ := mvRow_cell (op := 2) hlt
      have hc : wr.cell? ⟨w2.heap.size + 1, k * 3, none⟩ = some (.int .i64 x) := (hm.cell _).trans (by simpa using hx)
      have hf := hm.frozen
      have b1 := Blk.set_ hm (k * 3) (.int .i64 2)
      rw [mvRow_set hlt] at b1
      have F := Lib.hid (show Kept w w.heap.size o [(A1, intRow (l.map Prod.fst)), (A2, intRow (l.map Prod.snd)), (A, actCells acts)] [] w2.heap.size (wr.setCell ⟨w2.heap.size + 1, k * 3, none⟩ (.int .i64 2)) ∧ Blk (wr.setCell ⟨w2.heap.size + 1, k * 3, none⟩ (.int .i64 2)) w2.heap.size 41 #[.slice A1 n c1, .slice A2 n c2, .int .i64 (n : Int), .bool ((n : Int) == 0)] ∧ Blk (wr.setCell ⟨w2.heap.size + 1, k * 3, none⟩ (.int .i64 2)) (w2.heap.size + 1) 65 (actCells (mvRow 2 (n + 2) (k + 1))).toArray ∧ w4.heap.size ≤ (wr.setCell ⟨w2.heap.size + 1, k * 3, none⟩ (.int .i64 2)).heap.size from
        ⟨K5.out.next (C := w2.heap.size) ((Below.refl _ _).setCell (by simp) _) (Nat.le_refl _), Blk.far S5.out (by simp) _, b1, by simpa using Z5.out⟩)
      have hki : (k : Int) < (n : Int) + 2 := by omega
      clear kk hs hm hz b1 K5 S5 M5 hx
      go_wp2_with fail
      go_roundw
      case rel => exact ⟨k + 1, by omega, by go_num, F.out⟩
      case measure => simp [intOf]; omega
    · obtain rfl : k = n + 2 := by omega
      rw [mvRow_all] at hm
      have hki : decide (((n + 2 : Nat) : Int) < (n : Int) + 2) = false := decide_eq_false (by omega)
      have hbb := hm
      clear kk hs hm hz M5
      have hfx := hbb.frozen
      have hcx : wr.cell? ⟨w2.heap.size + 1, 0, none⟩ = some (.int .i64 2) := hbb.cell 0
      have hmf := Blk.set_ hbb 0 (.int .i64 6)
      rw [show n + 2 = (n + 1) + 1 from rfl, mvRow_first] at hmf
      have K5' := Lib.hid (K5.out.next (C := w2.heap.size) ((Below.refl _ wr).setCell (p := ⟨w2.heap.size + 1, 0, none⟩) (by simp) (.int .i64 6)) (Nat.le_refl _))
      have S5' := Lib.hid (Blk.far S5.out (p := ⟨w2.heap.size + 1, 0, none⟩) (by simp) (.int .i64 6))
      have M5' := Lib.hid hmf
      have Z5' := Lib.hid (show w4.heap.size ≤ (wr.setCell ⟨w2.heap.size + 1, 0, none⟩ (.int .i64 6)).heap.size by simpa using Z5.out)
      clear hbb hmf
      obtain ⟨hc0, hc1⟩ := K5'.out.c
      go_wp2_with fail
      generalize wr.setCell ⟨w2.heap.size + 1, 0, none⟩ (.int .i64 6) = wm at *
      have KW := Lib.hid ((K5'.out.up (C := wm.heap.size) (by have := Z4.out; have := Z5'.out; omega) (Nat.le_refl _)).row (A := some ⟨w2.heap.size + 1, 0, none⟩) (cs := actCells (⟨6, 0, 0⟩ :: List.replicate (n + 1) ⟨2, 0, 0⟩ : List Do)) (RowAt.of_blk (cs := (actCells (⟨6, 0, 0⟩ :: List.replicate (n + 1) ⟨2, 0, 0⟩ : List Do)).toArray) M5'.out))
      have OKM := Lib.hid (show ∀ m ∈ (⟨6, 0, 0⟩ :: List.replicate (n + 1) ⟨2, 0, 0⟩ : List Do), (m.op = 7 ∨ m.op = 8) → 1 ≤ m.key ∧ m.key ≤ 1000 by
        intro m hm h78
        simp only [List.mem_cons, List.mem_replicate] at hm
        rcases hm with rfl | ⟨_, rfl⟩ <;> simp at h78)
      have CW := Lib.hid (implBTreeWalk_walk m hm o Fi.out acts.length cap A acts (n + 2) (n + 2) (some ⟨w2.heap.size + 1, 0, none⟩) (⟨6, 0, 0⟩ :: List.replicate (n + 1) ⟨2, 0, 0⟩ : List Do) wm rfl (by have := L3.out; omega) ((KW.out.rows (A, actCells acts) (by simp)).acts.more KW.out.le) (by simp) (by have := NN.out; omega) ((KW.out.rows (some ⟨w2.heap.size + 1, 0, none⟩, actCells (⟨6, 0, 0⟩ :: List.replicate (n + 1) ⟨2, 0, 0⟩ : List Do)) (by simp)).acts.more KW.out.le) OKM.out)
      clear K5 S5 Z5 Z5' K4 S4 M4 OKM
      refine CW.out.mono ?_
      rintro e w6 ⟨A3, c3, rfl, own, b6⟩
      rw [HL.out] at own
      have K6 := Lib.hid ((KW.out.on b6).row (RowAt.of_own own))
      have S6 := Lib.hid (S5'.out.below b6 S5'.out.lt)
      clear own b6 CW KW K5' S5' M5' hc0 hc1
      have hs0 : w6.cell? ⟨w2.heap.size, 0, none⟩ = some (.slice A1 n c1) := S6.out.cell 0
      have hs1 : w6.cell? ⟨w2.heap.size, 1, none⟩ = some (.slice A2 n c2) := S6.out.cell 1
      go_wp2_with fail
      go_loopw [76] (fun i wr => ∃ k m : Nat, k ≤ n ∧ i = .int .i64 k ∧ wr = w6.drewN m) (fun i _ => n - (intOf i).toNat)
      case atStart => exact ⟨0, 0, Nat.zero_le _, rfl, rfl⟩
      case round =>
        clear hs0 hs1
        obtain ⟨k, m, hk, rfl, hw⟩ := hrel
        have hs0 : wr.cell? ⟨w2.heap.size, 0, none⟩ = some (.slice A1 n c1) := by rw [hw]; exact S6.out.cell 0
        have hs1 : wr.cell? ⟨w2.heap.size, 1, none⟩ = some (.slice A2 n c2) := by rw [hw]; exact S6.out.cell 1
        have HW := Lib.hid hw
        by_cases hlt : k < n
        · obtain ⟨p, hp⟩ : ∃ p, l[(n - 1 - k)]? = some p := ⟨_, List.getElem?_eq_getElem (by have := HN.out; omega)⟩
          obtain ⟨a1, rfl, _, hx⟩ := (K6.out.rows (A1, intRow (l.map Prod.fst)) (by simp)).get (intRow_get (show (l.map Prod.fst)[(n - 1 - k)]? = some p.1 by simp [hp]))
          obtain ⟨a2, rfl, _, hy⟩ := (K6.out.rows (A2, intRow (l.map Prod.snd)) (by simp)).get (intRow_get (show (l.map Prod.snd)[(n - 1 - k)]? = some p.2 by simp [hp]))
          have gs := seen_some (FS.out k p hlt hp)
          try rw [HN.out] at gs
          obtain ⟨a3, rfl, g0, g1, g2⟩ := RowAt.seen (K6.out.rows (A3, seenCells (walkFrom l 0 (⟨6, 0, 0⟩ :: List.replicate (n + 1) ⟨2, 0, 0⟩ : List Do))) (by simp)) gs.1 gs.2.1 gs.2.2
          have hx' : wr.cell? (a1.add (n - 1 - k)) = some (.int .i64 p.1) := by rw [hw]; exact hx
          have hy' : wr.cell? (a2.add (n - 1 - k)) = some (.int .i64 p.2) := by rw [hw]; exact hy
          have g0' : wr.cell? (a3.add ((k + 1) * 3)) = some (.bool true) := by rw [hw]; exact g0
          have g1' : wr.cell? ⟨(a3.add ((k + 1) * 3)).block, (a3.add ((k + 1) * 3)).off + 1, none⟩ = some (.int .i64 p.1) := by rw [hw]; exact g1
          have g2' : wr.cell? ⟨(a3.add ((k + 1) * 3)).block, (a3.add ((k + 1) * 3)).off + 2, none⟩ = some (.int .i64 p.2) := by rw [hw]; exact g2
          have sn := seen_neq true p.1 p.2
          have hk0 : (0 : Int) ≤ (k : Int) := by omega
          have hkn : (k : Int) < (n : Int) := by omega
          have hnm : (n : Int) ≤ 1000 := by have := NN.out; omega
          have hw1 : IntKind.i64.wrap ((n : Int) - 1) = (n : Int) - 1 := IntWalk.i64_in _ (by omega)
          have hw2 : IntKind.i64.wrap ((n : Int) - 1 - (k : Int)) = (n : Int) - 1 - (k : Int) := IntWalk.i64_in _ (by omega)
          have hw3 : ((n : Int) - 1 - (k : Int)).toNat = n - 1 - k := by omega
          have hw4 : (0 : Int) ≤ (n : Int) - 1 - (k : Int) := by omega
          have hw5 : (n : Int) - 1 - (k : Int) < (n : Int) := by omega
          have hw6 : IntKind.i64.wrap ((k : Int) + 1) = (k : Int) + 1 := IntWalk.i64_in _ (by omega)
          have hw7 : (k : Int) + 1 < (n : Int) + 2 := by omega
          clear hx hy g0 g1 g2 gs hp hw hlt
          go_wp2_with fail
          go_quiet (fail)
          go_wp2_with fail
          go_roundw
          case rel => exact ⟨k + 1, m + nq, by omega, by go_num, by rw [HW.out, World.drewN_drewN]⟩
          case measure => simp [intOf]; omega
        · obtain rfl : n = k := by omega
          have gl := seen_none FL.out
          try rw [HN.out] at gl
          obtain ⟨a3, rfl, _, g0⟩ := (K6.out.rows (A3, seenCells (walkFrom l 0 (⟨6, 0, 0⟩ :: List.replicate (n + 1) ⟨2, 0, 0⟩ : List Do))) (by simp)) _ _ gl
          have g0' : wr.cell? (a3.add ((n + 1) * 3)) = some (.bool false) := by rw [hw]; exact g0
          have hnm : (n : Int) ≤ 1000 := by have := NN.out; omega
          have hn0 : (0 : Int) ≤ (n : Int) := by omega
          have hw1 : IntKind.i64.wrap ((n : Int) + 1) = (n : Int) + 1 := IntWalk.i64_in _ (by omega)
          have hw2 : (n : Int) + 1 < (n : Int) + 2 := by omega
          have KE := Lib.hid (show Kept w w.heap.size o [] [] w6.heap.size wr by rw [hw]; exact ⟨(K6.out.drewN m).below, (K6.out.drewN m).ord, K6.out.lt, K6.out.le, K6.out.ge, fun r hr => by simp at hr, fun r hr => by simp at hr⟩)
          clear gl g0 hw hlt
          go_wp2_with fail
          refine (keptGrows KE.out).mono ?_
          rintro e w7 ⟨rfl, k7⟩
          have K7 := Lib.hid k7
          clear k7 KE
          go_wp2_with fail
          go_ret
          exact ⟨rfl, K7.out.below⟩

end Go.Proofs.Ytpkgmgebhnhhjaa.Bt
