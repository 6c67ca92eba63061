/-
  The reference's Walk.
-/
import Derived.Test.YtpkgmgebhnhhjaaPures
import Derived.Test.YtpkgmgebhnhhjaaSeen
import Derived.Test.YtpkgmgebhnhhjaaSpecMoves
import Derived.IntWalk
import Derived.Deep.LoopGhost
namespace Go.Proofs.Ytpkgmgebhnhhjaa
open Go.RowKit

set_option maxHeartbeats 8000000 in
set_option maxRecDepth 100000 in
theorem swalk_walk (l : KV) (n cap : Nat) (A : Option Addr) (hn : l.length = n) (hn1 : n ≤ 100000) (p : Nat) (hp : p ≤ n + 1) (av0 : Int) (hav : av0 = (p : Int) - 1) (nm capm : Nat) (Am : Option Addr) (moves : List Do) (hm : moves.length = nm) (hm1 : nm ≤ 1000) (w : World) (hr : RowAt w w.heap.size A (prCells l)) (ha : ActsAt w w.heap.size Am moves)
    (hok : ∀ m ∈ moves, (m.op = 7 ∨ m.op = 8) → 1 ≤ m.key ∧ m.key ≤ 1000) :
    Calls Try.prog 43 #[.slice A n cap, .int .i64 av0, .slice Am nm capm] w fun e w' =>
      ∃ A' cap', e = .returned (.slice A' nm cap') ∧ w'.ownsRow w.heap.size 67 3 (.slice A' nm cap') nm (seenCells (walkFrom l p moves)) ∧ Below w.heap.size w w' := by
  have Ha := Lib.hid ha
  have Hr := Lib.hid hr
  have HN := Lib.hid hn
  have HM := Lib.hid hm
  have OK := Lib.hid hok
  have HAV := Lib.hid hav
  have HP := Lib.hid hp
  clear ha hr hn hm hok hav hp
  go_enter Try.func43, Try.ntmps43
  go_wp2_with fail
  go_loopw [1, 7, 14] (fun a v i wr => ∃ (k P : Nat) (av : Int) (A' : Option Addr) (cap' : Nat), k ≤ nm ∧ i = .int .i64 k ∧ a = .int .i64 av ∧ av = (P : Int) - 1 ∧ P = goFrom l p (moves.take k) ∧ P ≤ n + 1 ∧ v = .slice A' k cap' ∧ wr.ownsRow w.heap.size 67 3 (.slice A' k cap') k (seenCells (walkFrom l p (moves.take k))) ∧ Below w.heap.size w wr) (fun _ _ i _ => nm - (intOf i).toNat)
  case atStart => exact ⟨0, p, av0, _, 0, Nat.zero_le _, rfl, rfl, HAV.out, rfl, HP.out, rfl, own_empty (Blk.new _ _ _) (Nat.le_refl _), (Below.refl _ _).alloc (Nat.le_refl _) _⟩
  case round =>
    obtain ⟨k, P, av, A', cap', hk, rfl, rfl, hPa, hPg, hPn, rfl, hown, hw⟩ := hrel
    by_cases hlt : k < nm
    · obtain ⟨a, d, rfl, hab, hd, c0, c1, c2⟩ := ActsAt.at_ (Ha.out.below hw) (i := k) (by have := HM.out; omega)
      have hdm : d ∈ moves := List.mem_of_getElem? hd
      have f := walkFrom_take_succ l p moves k d hd
      rw [← hPg] at f
      have FF := Lib.hid f
      have OKD := Lib.hid (OK.out d hdm)
      have PA := Lib.hid hPa
      have PN := Lib.hid hPn
      have BW := Lib.hid (hw.alloc hw.size (.cells #[.int .i64 d.op, .int .i64 d.key, .int .i64 d.val] 65))
      have OW := Lib.hid (hown.alloc (.cells #[.int .i64 d.op, .int .i64 d.key, .int .i64 d.val] 65))
      have ha1 : (-1 : Int) ≤ av := by omega
      have ha2 : av ≤ (n : Int) := by omega
      have ha3 : (n : Int) ≤ 100000 := by omega
      have ha4 : (0 : Int) ≤ (n : Int) := by omega
      clear hown hw hd f hdm hPa hPg hPn
      by_cases h1 : d.op = 1
      · have e1 : mvPos l P d = min (P + 1) (n + 1) := by unfold mvPos; rw [if_pos h1]; rw [HN.out]
        have fp := FF.out.2
        rw [e1] at fp
        have FP := Lib.hid fp
        have e2 : mvSeen l P d = seenAt l (min (P + 1) (n + 1)) := by unfold mvSeen mvTell; rw [e1, h1]; simp
        have fs := Lib.hid (FF.out.1.trans (by rw [e2]))
        rw [h1] at c0 BW OW
        have HZZ := Lib.hid (show wr.heap.size + 1 = (wr.alloc (.cells #[.int .i64 1, .int .i64 d.key, .int .i64 d.val] 65)).heap.size by simp)
        have pa := PA.out
        have pn := PN.out
        clear e1 e2 h1 fp
        by_cases hc : av + 1 < (n : Int)
        · have hq0 : (0 : Int) ≤ av + 1 := by omega
          have hq2 : av + 1 ≤ (n : Int) := by omega
          rw [show min (P + 1) (n + 1) = P + 1 by omega] at FP fs
          obtain ⟨x, hx⟩ : ∃ x, l[P]? = some x := ⟨_, List.getElem?_eq_getElem (by rw [HN.out]; omega)⟩
          obtain ⟨a1, rfl, _, hx0, hx1⟩ := (Hr.out.below BW.out).pair hx
          have FS := Lib.hid (fs.out.trans (by rw [show seenAt l (P + 1) = some x by unfold seenAt; rw [if_neg (by omega), show P + 1 - 1 = P by omega]; exact hx]))
          have QN : (av + 1).toNat = P := by omega
          clear hx fs pa pn
          go_wp2_with fail
          generalize (wr.alloc (.cells #[.int .i64 1, .int .i64 d.key, .int .i64 d.val] 65)) = w2 at *
          go_region_held_law (fun w' => w'.cell? (a1.add (P * 2)) = some (.int .i64 x.1) ∧ w'.cell? ⟨(a1.add (P * 2)).block, (a1.add (P * 2)).off + 1, none⟩ = some (.int .i64 x.2)) (first | exact ⟨hx0, hx1⟩ | exact K3.out | (go_keep; done))
            (first
              | (refine step_app Try.underlying33 seen_info rfl (by omega) rfl (.tmp 104) (.tmp 116) rfl w.heap.size (.slice A' k cap') k (seenCells (walkFrom l p (moves.take k))) rfl ?_ (some ⟨w2.heap.size, 0, none⟩) 1 1 (seenCells [some x]) rfl ?_ (seenCells_one _) ?_ ?_ ?_ ?_
                 · exact own_keep OW.out fun g _ hg => Below.heap_alloc _ _ g hg
                 · exact src_blk (Blk.drew (Blk.new _ _ _)) rfl
                 · omega
                 · omega
                 · have := BW.out.size; simp; omega
                 intro v1 w3 own3 gr3 _
                 have b3 : Below w.heap.size w2 w3 := ((Below.refl w.heap.size w2).alloc BW.out.size _).drew.grown gr3 (by have := BW.out.size; simp; omega) (fun k hk => (OW.out.lt k hk).1)
                 rw [← seenCells_append, ← FS.out] at own3
                 obtain ⟨A3, cap3, rfl, _, _⟩ := own_slice own3
                 have b4 : Below w2.heap.size w2 w2 := Below.refl _ _
                 have F := Lib.hid (show _ ∧ _ from ⟨own3, BW.out.trans b3⟩)
                 have K3 := Lib.hid (show w3.cell? (a1.add (P * 2)) = some (.int .i64 x.1) ∧ w3.cell? ⟨(a1.add (P * 2)).block, (a1.add (P * 2)).off + 1, none⟩ = some (.int .i64 x.2) from ⟨(b3.cell (by first | assumption | (rw [block_of_add]; assumption))).trans hx0, (b3.cell (by first | assumption | (simp only [block_of_add]; assumption))).trans hx1⟩)
                 clear own3 gr3 b3 b4))
          clear K3 OW BW hx0 hx1
          go_wp2_with fail
          go_roundw
          case rel => exact ⟨k + 1, P + 1, av + 1, A3, cap3, by omega, by go_num, rfl, by have := PA.out; omega, FP.out.symm, by have := PN.out; omega, rfl, F.out.1, F.out.2⟩
          case measure => simp [intOf]; omega
        · rw [show min (P + 1) (n + 1) = n + 1 by omega] at FP fs
          have FS := Lib.hid (fs.out.trans (by rw [show seenAt l (n + 1) = none by unfold seenAt; rw [if_neg (by omega)]; exact List.getElem?_eq_none (by rw [HN.out]; omega)]))
          clear fs
          by_cases he : av + 1 = (n : Int)
          · have HE := Lib.hid he
            have hq2 : av + 1 ≤ (n : Int) := by omega
            have hd : decide (av + 1 < (n : Int)) = false := decide_eq_false hc
            clear pa pn he
            go_wp2_with (at_builtin; refine Hid.out ?_)
            delta Hid
            generalize (wr.alloc (.cells #[.int .i64 1, .int .i64 d.key, .int .i64 d.val] 65)) = w2 at *
            refine wpList_appT Try.underlying33 seen_info rfl (by omega) rfl _ _ rfl w.heap.size (.slice A' k cap') k (seenCells (walkFrom l p (moves.take k))) rfl (OW.out.alloc _) (some ⟨wr.heap.size + 1, 0, none⟩) 1 1 (seenCells [none]) rfl (src_blk (Blk.newAt HZZ.out _ _) rfl) (seenCells_one _) (by omega) (by omega) (by have := BW.out.size; simp; omega) ?_
            intro v1 w3 own3 gr3 _
            have b3 : Below w.heap.size w2 w3 := ((Below.refl w.heap.size w2).alloc BW.out.size _).grown gr3 (by have := BW.out.size; simp; omega) (fun k hk => (OW.out.lt k hk).1)
            rw [← seenCells_append, ← FS.out] at own3
            obtain ⟨A3, cap3, rfl, _, _⟩ := own_slice own3
            have F := Lib.hid (show _ ∧ _ from ⟨own3, BW.out.trans b3⟩)
            clear own3 gr3 b3 OW BW
            go_wp2_with fail
            go_roundw
            case rel => exact ⟨k + 1, n + 1, av + 1, A3, cap3, by omega, by go_num, rfl, by have := HE.out; omega, FP.out.symm, by omega, rfl, F.out.1, F.out.2⟩
            case measure => simp [intOf]; omega
          · have hq3 : (n : Int) < av + 1 := by omega
            have hq4 : ¬ av + 1 ≤ (n : Int) := by omega
            clear pa pn he
            go_wp2_with (at_builtin; refine Hid.out ?_)
            delta Hid
            generalize (wr.alloc (.cells #[.int .i64 1, .int .i64 d.key, .int .i64 d.val] 65)) = w2 at *
            refine wpList_appT Try.underlying33 seen_info rfl (by omega) rfl _ _ rfl w.heap.size (.slice A' k cap') k (seenCells (walkFrom l p (moves.take k))) rfl (OW.out.alloc _) (some ⟨wr.heap.size + 1, 0, none⟩) 1 1 (seenCells [none]) rfl (src_blk (Blk.newAt HZZ.out _ _) rfl) (seenCells_one _) (by omega) (by omega) (by have := BW.out.size; simp; omega) ?_
            intro v1 w3 own3 gr3 _
            have b3 : Below w.heap.size w2 w3 := ((Below.refl w.heap.size w2).alloc BW.out.size _).grown gr3 (by have := BW.out.size; simp; omega) (fun k hk => (OW.out.lt k hk).1)
            rw [← seenCells_append, ← FS.out] at own3
            obtain ⟨A3, cap3, rfl, _, _⟩ := own_slice own3
            have F := Lib.hid (show _ ∧ _ from ⟨own3, BW.out.trans b3⟩)
            clear own3 gr3 b3 OW BW
            go_wp2_with fail
            go_roundw
            case rel => exact ⟨k + 1, n + 1, (n : Int), A3, cap3, by omega, by go_num, rfl, by omega, FP.out.symm, by omega, rfl, F.out.1, F.out.2⟩
            case measure => simp [intOf]; omega
      have n1 : ¬ d.op = 1 := h1
      clear h1
      by_cases h1 : d.op = 2
      · have e1 : mvPos l P d = P - 1 := by unfold mvPos; rw [if_neg (by omega), if_pos h1]
        have fp := FF.out.2
        rw [e1] at fp
        have FP := Lib.hid fp
        have e2 : mvSeen l P d = seenAt l (P - 1) := by unfold mvSeen mvTell; rw [e1, h1]; simp
        have fs := Lib.hid (FF.out.1.trans (by rw [e2]))
        rw [h1] at c0 BW OW
        have HZZ := Lib.hid (show wr.heap.size + 1 = (wr.alloc (.cells #[.int .i64 2, .int .i64 d.key, .int .i64 d.val] 65)).heap.size by simp)
        have pa := PA.out
        have pn := PN.out
        clear e1 e2 h1 fp
        by_cases hc : 1 ≤ av
        · have hq0 : (0 : Int) ≤ av - 1 := by omega
          have hq1 : av - 1 < (n : Int) := by omega
          have hq2 : (-1 : Int) ≤ av - 1 := by omega
          have hq3 : (-1 : Int) < av - 1 := by omega
          obtain ⟨x, hx⟩ : ∃ x, l[(P - 2)]? = some x := ⟨_, List.getElem?_eq_getElem (by rw [HN.out]; omega)⟩
          obtain ⟨a1, rfl, _, hx0, hx1⟩ := (Hr.out.below BW.out).pair hx
          have FS := Lib.hid (fs.out.trans (by rw [show seenAt l (P - 1) = some x by unfold seenAt; rw [if_neg (by omega), show P - 1 - 1 = (P - 2) by omega]; exact hx]))
          have QN : (av - 1).toNat = (P - 2) := by omega
          clear hx fs pa pn
          go_wp2_with fail
          generalize (wr.alloc (.cells #[.int .i64 2, .int .i64 d.key, .int .i64 d.val] 65)) = w2 at *
          go_region_held_law (fun w' => w'.cell? (a1.add ((P - 2) * 2)) = some (.int .i64 x.1) ∧ w'.cell? ⟨(a1.add ((P - 2) * 2)).block, (a1.add ((P - 2) * 2)).off + 1, none⟩ = some (.int .i64 x.2)) (first | exact ⟨hx0, hx1⟩ | exact K3.out | (go_keep; done))
            (first
              | (refine step_app Try.underlying33 seen_info rfl (by omega) rfl (.tmp 104) (.tmp 116) rfl w.heap.size (.slice A' k cap') k (seenCells (walkFrom l p (moves.take k))) rfl ?_ (some ⟨w2.heap.size, 0, none⟩) 1 1 (seenCells [some x]) rfl ?_ (seenCells_one _) ?_ ?_ ?_ ?_
                 · exact own_keep OW.out fun g _ hg => Below.heap_alloc _ _ g hg
                 · exact src_blk (Blk.drew (Blk.new _ _ _)) rfl
                 · omega
                 · omega
                 · have := BW.out.size; simp; omega
                 intro v1 w3 own3 gr3 _
                 have b3 : Below w.heap.size w2 w3 := ((Below.refl w.heap.size w2).alloc BW.out.size _).drew.grown gr3 (by have := BW.out.size; simp; omega) (fun k hk => (OW.out.lt k hk).1)
                 rw [← seenCells_append, ← FS.out] at own3
                 obtain ⟨A3, cap3, rfl, _, _⟩ := own_slice own3
                 have b4 : Below w2.heap.size w2 w2 := Below.refl _ _
                 have F := Lib.hid (show _ ∧ _ from ⟨own3, BW.out.trans b3⟩)
                 have K3 := Lib.hid (show w3.cell? (a1.add ((P - 2) * 2)) = some (.int .i64 x.1) ∧ w3.cell? ⟨(a1.add ((P - 2) * 2)).block, (a1.add ((P - 2) * 2)).off + 1, none⟩ = some (.int .i64 x.2) from ⟨(b3.cell (by first | assumption | (rw [block_of_add]; assumption))).trans hx0, (b3.cell (by first | assumption | (simp only [block_of_add]; assumption))).trans hx1⟩)
                 clear own3 gr3 b3 b4))
          clear K3 OW BW hx0 hx1
          go_wp2_with fail
          go_roundw
          case rel => exact ⟨k + 1, P - 1, av - 1, A3, cap3, by omega, by go_num, rfl, by have := PA.out; omega, FP.out.symm, by have := PN.out; omega, rfl, F.out.1, F.out.2⟩
          case measure => simp [intOf]; omega
        · have FS := Lib.hid (fs.out.trans (by rw [show seenAt l (P - 1) = none by unfold seenAt; rw [if_pos (by omega)]]))
          clear fs
          rcases (show av = 0 ∨ av = -1 by omega) with he | he
          · have HE := Lib.hid he
            subst he
            clear pa pn hc
            go_wp2_with (at_builtin; refine Hid.out ?_)
            delta Hid
            generalize (wr.alloc (.cells #[.int .i64 2, .int .i64 d.key, .int .i64 d.val] 65)) = w2 at *
            refine wpList_appT Try.underlying33 seen_info rfl (by omega) rfl _ _ rfl w.heap.size (.slice A' k cap') k (seenCells (walkFrom l p (moves.take k))) rfl (OW.out.alloc _) (some ⟨wr.heap.size + 1, 0, none⟩) 1 1 (seenCells [none]) rfl (src_blk (Blk.newAt HZZ.out _ _) rfl) (seenCells_one _) (by omega) (by omega) (by have := BW.out.size; simp; omega) ?_
            intro v1 w3 own3 gr3 _
            have b3 : Below w.heap.size w2 w3 := ((Below.refl w.heap.size w2).alloc BW.out.size _).grown gr3 (by have := BW.out.size; simp; omega) (fun k hk => (OW.out.lt k hk).1)
            rw [← seenCells_append, ← FS.out] at own3
            obtain ⟨A3, cap3, rfl, _, _⟩ := own_slice own3
            have F := Lib.hid (show _ ∧ _ from ⟨own3, BW.out.trans b3⟩)
            clear own3 gr3 b3 OW BW
            go_wp2_with fail
            go_roundw
            case rel => exact ⟨k + 1, P - 1, (-1 : Int), A3, cap3, by omega, by go_num, rfl, by have := PA.out; omega, FP.out.symm, by have := PN.out; omega, rfl, F.out.1, F.out.2⟩
            case measure => simp [intOf]; omega
          · have HE := Lib.hid he
            subst he
            clear pa pn hc
            go_wp2_with (at_builtin; refine Hid.out ?_)
            delta Hid
            generalize (wr.alloc (.cells #[.int .i64 2, .int .i64 d.key, .int .i64 d.val] 65)) = w2 at *
            refine wpList_appT Try.underlying33 seen_info rfl (by omega) rfl _ _ rfl w.heap.size (.slice A' k cap') k (seenCells (walkFrom l p (moves.take k))) rfl (OW.out.alloc _) (some ⟨wr.heap.size + 1, 0, none⟩) 1 1 (seenCells [none]) rfl (src_blk (Blk.newAt HZZ.out _ _) rfl) (seenCells_one _) (by omega) (by omega) (by have := BW.out.size; simp; omega) ?_
            intro v1 w3 own3 gr3 _
            have b3 : Below w.heap.size w2 w3 := ((Below.refl w.heap.size w2).alloc BW.out.size _).grown gr3 (by have := BW.out.size; simp; omega) (fun k hk => (OW.out.lt k hk).1)
            rw [← seenCells_append, ← FS.out] at own3
            obtain ⟨A3, cap3, rfl, _, _⟩ := own_slice own3
            have F := Lib.hid (show _ ∧ _ from ⟨own3, BW.out.trans b3⟩)
            clear own3 gr3 b3 OW BW
            go_wp2_with fail
            go_roundw
            case rel => exact ⟨k + 1, P - 1, (-1 : Int), A3, cap3, by omega, by go_num, rfl, by have := PA.out; omega, FP.out.symm, by have := PN.out; omega, rfl, F.out.1, F.out.2⟩
            case measure => simp [intOf]; omega
      have n2 : ¬ d.op = 2 := h1
      clear h1
      by_cases h1 : d.op = 3
      · have e1 : mvPos l P d = 1 := by unfold mvPos; rw [if_neg (by omega), if_neg (by omega), if_pos h1]
        have fp := FF.out.2
        rw [e1] at fp
        have FP := Lib.hid fp
        have e2 : mvSeen l P d = seenAt l (1) := by unfold mvSeen mvTell; rw [e1, h1]; simp
        have fs := Lib.hid (FF.out.1.trans (by rw [e2]))
        rw [h1] at c0 BW OW
        have HZZ := Lib.hid (show wr.heap.size + 1 = (wr.alloc (.cells #[.int .i64 3, .int .i64 d.key, .int .i64 d.val] 65)).heap.size by simp)
        have pa := PA.out
        have pn := PN.out
        clear e1 e2 h1 fp
        by_cases hc : (0 : Int) < (n : Int)
        · obtain ⟨x, hx⟩ : ∃ x, l[0]? = some x := ⟨_, List.getElem?_eq_getElem (by rw [HN.out]; omega)⟩
          obtain ⟨a1, rfl, _, hx0, hx1⟩ := (Hr.out.below BW.out).pair hx
          have FS := Lib.hid (fs.out.trans (by rw [show seenAt l (1) = some x by unfold seenAt; rw [if_neg (by omega), show 1 - 1 = 0 by omega]; exact hx]))
          have QN : ((0 : Int)).toNat = 0 := by omega
          clear hx fs pa pn
          have hx0 : (wr.alloc (.cells #[.int .i64 3, .int .i64 d.key, .int .i64 d.val] 65)).cell? a1 = some (.int .i64 x.1) := by simpa [Addr.add] using hx0
          have hx1 : (wr.alloc (.cells #[.int .i64 3, .int .i64 d.key, .int .i64 d.val] 65)).cell? ⟨a1.block, a1.off + 1, none⟩ = some (.int .i64 x.2) := by simpa [Addr.add] using hx1
          go_wp2_with fail
          generalize (wr.alloc (.cells #[.int .i64 3, .int .i64 d.key, .int .i64 d.val] 65)) = w2 at *
          go_region_held_law (fun w' => w'.cell? a1 = some (.int .i64 x.1) ∧ w'.cell? ⟨a1.block, a1.off + 1, none⟩ = some (.int .i64 x.2)) (first | exact ⟨hx0, hx1⟩ | exact K3.out | (go_keep; done))
            (first
              | (refine step_app Try.underlying33 seen_info rfl (by omega) rfl (.tmp 104) (.tmp 116) rfl w.heap.size (.slice A' k cap') k (seenCells (walkFrom l p (moves.take k))) rfl ?_ (some ⟨w2.heap.size, 0, none⟩) 1 1 (seenCells [some x]) rfl ?_ (seenCells_one _) ?_ ?_ ?_ ?_
                 · exact own_keep OW.out fun g _ hg => Below.heap_alloc _ _ g hg
                 · exact src_blk (Blk.drew (Blk.new _ _ _)) rfl
                 · omega
                 · omega
                 · have := BW.out.size; simp; omega
                 intro v1 w3 own3 gr3 _
                 have b3 : Below w.heap.size w2 w3 := ((Below.refl w.heap.size w2).alloc BW.out.size _).drew.grown gr3 (by have := BW.out.size; simp; omega) (fun k hk => (OW.out.lt k hk).1)
                 rw [← seenCells_append, ← FS.out] at own3
                 obtain ⟨A3, cap3, rfl, _, _⟩ := own_slice own3
                 have b4 : Below w2.heap.size w2 w2 := Below.refl _ _
                 have F := Lib.hid (show _ ∧ _ from ⟨own3, BW.out.trans b3⟩)
                 have K3 := Lib.hid (show w3.cell? a1 = some (.int .i64 x.1) ∧ w3.cell? ⟨a1.block, a1.off + 1, none⟩ = some (.int .i64 x.2) from ⟨(b3.cell (by first | assumption | (rw [block_of_add]; assumption))).trans hx0, (b3.cell (by first | assumption | (simp only [block_of_add]; assumption))).trans hx1⟩)
                 clear own3 gr3 b3 b4))
          clear K3 OW BW hx0 hx1
          go_wp2_with fail
          go_roundw
          case rel => exact ⟨k + 1, 1, (0 : Int), A3, cap3, by omega, by go_num, rfl, by omega, FP.out.symm, by omega, rfl, F.out.1, F.out.2⟩
          case measure => simp [intOf]; omega
        · have hd : decide ((0 : Int) < (n : Int)) = false := decide_eq_false hc
          have hd2 : n = 0 := by omega
          have FS := Lib.hid (fs.out.trans (by rw [show seenAt l (1) = none by unfold seenAt; rw [if_neg (by omega)]; exact List.getElem?_eq_none (by rw [HN.out]; omega)]))
          clear fs
          have HD := Lib.hid hd2
          clear pa pn hd2
          go_wp2_with (at_builtin; refine Hid.out ?_)
          delta Hid
          generalize (wr.alloc (.cells #[.int .i64 3, .int .i64 d.key, .int .i64 d.val] 65)) = w2 at *
          refine wpList_appT Try.underlying33 seen_info rfl (by omega) rfl _ _ rfl w.heap.size (.slice A' k cap') k (seenCells (walkFrom l p (moves.take k))) rfl (OW.out.alloc _) (some ⟨wr.heap.size + 1, 0, none⟩) 1 1 (seenCells [none]) rfl (src_blk (Blk.newAt HZZ.out _ _) rfl) (seenCells_one _) (by omega) (by omega) (by have := BW.out.size; simp; omega) ?_
          intro v1 w3 own3 gr3 _
          have b3 : Below w.heap.size w2 w3 := ((Below.refl w.heap.size w2).alloc BW.out.size _).grown gr3 (by have := BW.out.size; simp; omega) (fun k hk => (OW.out.lt k hk).1)
          rw [← seenCells_append, ← FS.out] at own3
          obtain ⟨A3, cap3, rfl, _, _⟩ := own_slice own3
          have F := Lib.hid (show _ ∧ _ from ⟨own3, BW.out.trans b3⟩)
          clear own3 gr3 b3 OW BW
          go_wp2_with fail
          go_roundw
          case rel => exact ⟨k + 1, 1, (0 : Int), A3, cap3, by omega, by go_num, rfl, by omega, FP.out.symm, by omega, rfl, F.out.1, F.out.2⟩
          case measure => simp [intOf]; omega
      have n3 : ¬ d.op = 3 := h1
      clear h1
      by_cases h1 : d.op = 4
      · have e1 : mvPos l P d = n := by unfold mvPos; rw [if_neg (by omega), if_neg (by omega), if_neg (by omega), if_pos h1]; rw [HN.out]
        have fp := FF.out.2
        rw [e1] at fp
        have FP := Lib.hid fp
        have e2 : mvSeen l P d = seenAt l (n) := by unfold mvSeen mvTell; rw [e1, h1]; simp
        have fs := Lib.hid (FF.out.1.trans (by rw [e2]))
        rw [h1] at c0 BW OW
        have HZZ := Lib.hid (show wr.heap.size + 1 = (wr.alloc (.cells #[.int .i64 4, .int .i64 d.key, .int .i64 d.val] 65)).heap.size by simp)
        have pa := PA.out
        have pn := PN.out
        clear e1 e2 h1 fp
        by_cases hc : (1 : Int) ≤ (n : Int)
        · have hq0 : (0 : Int) ≤ (n : Int) - 1 := by omega
          have hq1 : (n : Int) - 1 < (n : Int) := by omega
          obtain ⟨x, hx⟩ : ∃ x, l[(n - 1)]? = some x := ⟨_, List.getElem?_eq_getElem (by rw [HN.out]; omega)⟩
          obtain ⟨a1, rfl, _, hx0, hx1⟩ := (Hr.out.below BW.out).pair hx
          have FS := Lib.hid (fs.out.trans (by rw [show seenAt l (n) = some x by unfold seenAt; rw [if_neg (by omega), show n - 1 = (n - 1) by omega]; exact hx]))
          have QN : ((n : Int) - 1).toNat = (n - 1) := by omega
          clear hx fs pa pn
          go_wp2_with fail
          generalize (wr.alloc (.cells #[.int .i64 4, .int .i64 d.key, .int .i64 d.val] 65)) = w2 at *
          go_region_held_law (fun w' => w'.cell? (a1.add ((n - 1) * 2)) = some (.int .i64 x.1) ∧ w'.cell? ⟨(a1.add ((n - 1) * 2)).block, (a1.add ((n - 1) * 2)).off + 1, none⟩ = some (.int .i64 x.2)) (first | exact ⟨hx0, hx1⟩ | exact K3.out | (go_keep; done))
            (first
              | (refine step_app Try.underlying33 seen_info rfl (by omega) rfl (.tmp 104) (.tmp 116) rfl w.heap.size (.slice A' k cap') k (seenCells (walkFrom l p (moves.take k))) rfl ?_ (some ⟨w2.heap.size, 0, none⟩) 1 1 (seenCells [some x]) rfl ?_ (seenCells_one _) ?_ ?_ ?_ ?_
                 · exact own_keep OW.out fun g _ hg => Below.heap_alloc _ _ g hg
                 · exact src_blk (Blk.drew (Blk.new _ _ _)) rfl
                 · omega
                 · omega
                 · have := BW.out.size; simp; omega
                 intro v1 w3 own3 gr3 _
                 have b3 : Below w.heap.size w2 w3 := ((Below.refl w.heap.size w2).alloc BW.out.size _).drew.grown gr3 (by have := BW.out.size; simp; omega) (fun k hk => (OW.out.lt k hk).1)
                 rw [← seenCells_append, ← FS.out] at own3
                 obtain ⟨A3, cap3, rfl, _, _⟩ := own_slice own3
                 have b4 : Below w2.heap.size w2 w2 := Below.refl _ _
                 have F := Lib.hid (show _ ∧ _ from ⟨own3, BW.out.trans b3⟩)
                 have K3 := Lib.hid (show w3.cell? (a1.add ((n - 1) * 2)) = some (.int .i64 x.1) ∧ w3.cell? ⟨(a1.add ((n - 1) * 2)).block, (a1.add ((n - 1) * 2)).off + 1, none⟩ = some (.int .i64 x.2) from ⟨(b3.cell (by first | assumption | (rw [block_of_add]; assumption))).trans hx0, (b3.cell (by first | assumption | (simp only [block_of_add]; assumption))).trans hx1⟩)
                 clear own3 gr3 b3 b4))
          clear K3 OW BW hx0 hx1
          go_wp2_with fail
          go_roundw
          case rel => exact ⟨k + 1, n, (n : Int) - 1, A3, cap3, by omega, by go_num, rfl, by omega, FP.out.symm, by omega, rfl, F.out.1, F.out.2⟩
          case measure => simp [intOf]; omega
        · have hd : decide ((0 : Int) ≤ (n : Int) - 1) = false := decide_eq_false (by omega)
          have hd1 : decide ((1 : Int) ≤ (n : Int)) = false := decide_eq_false hc
          have hd2 : n = 0 := by omega
          have FS := Lib.hid (fs.out.trans (by rw [show seenAt l (n) = none by unfold seenAt; rw [if_pos (by omega)]]))
          clear fs
          have HD := Lib.hid hd2
          clear pa pn hd2
          go_wp2_with (at_builtin; refine Hid.out ?_)
          delta Hid
          generalize (wr.alloc (.cells #[.int .i64 4, .int .i64 d.key, .int .i64 d.val] 65)) = w2 at *
          refine wpList_appT Try.underlying33 seen_info rfl (by omega) rfl _ _ rfl w.heap.size (.slice A' k cap') k (seenCells (walkFrom l p (moves.take k))) rfl (OW.out.alloc _) (some ⟨wr.heap.size + 1, 0, none⟩) 1 1 (seenCells [none]) rfl (src_blk (Blk.newAt HZZ.out _ _) rfl) (seenCells_one _) (by omega) (by omega) (by have := BW.out.size; simp; omega) ?_
          intro v1 w3 own3 gr3 _
          have b3 : Below w.heap.size w2 w3 := ((Below.refl w.heap.size w2).alloc BW.out.size _).grown gr3 (by have := BW.out.size; simp; omega) (fun k hk => (OW.out.lt k hk).1)
          rw [← seenCells_append, ← FS.out] at own3
          obtain ⟨A3, cap3, rfl, _, _⟩ := own_slice own3
          have F := Lib.hid (show _ ∧ _ from ⟨own3, BW.out.trans b3⟩)
          clear own3 gr3 b3 OW BW
          go_wp2_with fail
          go_roundw
          case rel => exact ⟨k + 1, n, (n : Int) - 1, A3, cap3, by omega, by go_num, rfl, by omega, FP.out.symm, by omega, rfl, F.out.1, F.out.2⟩
          case measure => simp [intOf]; omega
      have n4 : ¬ d.op = 4 := h1
      clear h1
      by_cases h1 : d.op = 5
      · have e1 : mvPos l P d = 0 := by unfold mvPos; rw [if_neg (by omega), if_neg (by omega), if_neg (by omega), if_neg (by omega), if_pos h1]
        have fp := FF.out.2
        rw [e1] at fp
        have FP := Lib.hid fp
        have e2 : mvSeen l P d = none := by unfold mvSeen mvTell; rw [h1]; simp
        have fs := Lib.hid (FF.out.1.trans (by rw [e2]))
        rw [h1] at c0 BW OW
        have HZZ := Lib.hid (show wr.heap.size + 1 = (wr.alloc (.cells #[.int .i64 5, .int .i64 d.key, .int .i64 d.val] 65)).heap.size by simp)
        have pa := PA.out
        have pn := PN.out
        clear e1 e2 h1 fp
        have FS := fs
        clear pa pn
        go_wp2_with (at_builtin; refine Hid.out ?_)
        delta Hid
        generalize (wr.alloc (.cells #[.int .i64 5, .int .i64 d.key, .int .i64 d.val] 65)) = w2 at *
        refine wpList_appT Try.underlying33 seen_info rfl (by omega) rfl _ _ rfl w.heap.size (.slice A' k cap') k (seenCells (walkFrom l p (moves.take k))) rfl (OW.out.alloc _) (some ⟨wr.heap.size + 1, 0, none⟩) 1 1 (seenCells [none]) rfl (src_blk (Blk.newAt HZZ.out _ _) rfl) (seenCells_one _) (by omega) (by omega) (by have := BW.out.size; simp; omega) ?_
        intro v1 w3 own3 gr3 _
        have b3 : Below w.heap.size w2 w3 := ((Below.refl w.heap.size w2).alloc BW.out.size _).grown gr3 (by have := BW.out.size; simp; omega) (fun k hk => (OW.out.lt k hk).1)
        rw [← seenCells_append, ← FS.out] at own3
        obtain ⟨A3, cap3, rfl, _, _⟩ := own_slice own3
        have F := Lib.hid (show _ ∧ _ from ⟨own3, BW.out.trans b3⟩)
        clear own3 gr3 b3 OW BW
        go_wp2_with fail
        go_roundw
        case rel => exact ⟨k + 1, 0, (-1 : Int), A3, cap3, by omega, by go_num, rfl, by omega, FP.out.symm, by omega, rfl, F.out.1, F.out.2⟩
        case measure => simp [intOf]; omega
      have n5 : ¬ d.op = 5 := h1
      clear h1
      by_cases h1 : d.op = 6
      · have e1 : mvPos l P d = n + 1 := by unfold mvPos; rw [if_neg (by omega), if_neg (by omega), if_neg (by omega), if_neg (by omega), if_neg (by omega), if_pos h1]; rw [HN.out]
        have fp := FF.out.2
        rw [e1] at fp
        have FP := Lib.hid fp
        have e2 : mvSeen l P d = none := by unfold mvSeen mvTell; rw [h1]; simp
        have fs := Lib.hid (FF.out.1.trans (by rw [e2]))
        rw [h1] at c0 BW OW
        have HZZ := Lib.hid (show wr.heap.size + 1 = (wr.alloc (.cells #[.int .i64 6, .int .i64 d.key, .int .i64 d.val] 65)).heap.size by simp)
        have pa := PA.out
        have pn := PN.out
        clear e1 e2 h1 fp
        have FS := fs
        clear pa pn
        go_wp2_with (at_builtin; refine Hid.out ?_)
        delta Hid
        generalize (wr.alloc (.cells #[.int .i64 6, .int .i64 d.key, .int .i64 d.val] 65)) = w2 at *
        refine wpList_appT Try.underlying33 seen_info rfl (by omega) rfl _ _ rfl w.heap.size (.slice A' k cap') k (seenCells (walkFrom l p (moves.take k))) rfl (OW.out.alloc _) (some ⟨wr.heap.size + 1, 0, none⟩) 1 1 (seenCells [none]) rfl (src_blk (Blk.newAt HZZ.out _ _) rfl) (seenCells_one _) (by omega) (by omega) (by have := BW.out.size; simp; omega) ?_
        intro v1 w3 own3 gr3 _
        have b3 : Below w.heap.size w2 w3 := ((Below.refl w.heap.size w2).alloc BW.out.size _).grown gr3 (by have := BW.out.size; simp; omega) (fun k hk => (OW.out.lt k hk).1)
        rw [← seenCells_append, ← FS.out] at own3
        obtain ⟨A3, cap3, rfl, _, _⟩ := own_slice own3
        have F := Lib.hid (show _ ∧ _ from ⟨own3, BW.out.trans b3⟩)
        clear own3 gr3 b3 OW BW
        go_wp2_with fail
        go_roundw
        case rel => exact ⟨k + 1, n + 1, (n : Int), A3, cap3, by omega, by go_num, rfl, by omega, FP.out.symm, by omega, rfl, F.out.1, F.out.2⟩
        case measure => simp [intOf]; omega
      have n6 : ¬ d.op = 6 := h1
      clear h1
      by_cases h1 : d.op = 7
      · have e1 : mvPos l P d = up d l (min P n) + 1 := by unfold mvPos; rw [if_neg (by omega), if_neg (by omega), if_neg (by omega), if_neg (by omega), if_neg (by omega), if_neg (by omega), if_pos h1]; rw [HN.out]
        have fp := FF.out.2
        rw [e1] at fp
        have FP := Lib.hid fp
        have e2 : mvSeen l P d = seenAt l (up d l (min P n) + 1) := by unfold mvSeen mvTell; rw [e1, h1]; simp
        have fs := Lib.hid (FF.out.1.trans (by rw [e2]))
        rw [h1] at c0 BW OW
        have HZZ := Lib.hid (show wr.heap.size + 1 = (wr.alloc (.cells #[.int .i64 7, .int .i64 d.key, .int .i64 d.val] 65)).heap.size by simp)
        have pa := PA.out
        have pn := PN.out
        have OD := Lib.hid (OKD.out (.inl h1))
        have MB := Lib.hid (show Blk (wr.alloc (.cells #[.int .i64 7, .int .i64 d.key, .int .i64 d.val] 65)) wr.heap.size 65 #[.int .i64 7, .int .i64 d.key, .int .i64 d.val] from Blk.new _ _ _)
        clear e1 e2 h1 fp
        have UE : ∃ j0 : Nat, j0 ≤ n ∧ up d l j0 = up d l (min P n) ∧ ((av + 1 ≤ (n : Int) ∧ av + 1 = (j0 : Int)) ∨ (¬ av + 1 ≤ (n : Int) ∧ j0 = n)) := ⟨min P n, by omega, rfl, by omega⟩
        obtain ⟨j0, hj0, hju, hjc⟩ := UE
        have HJ0 := Lib.hid hj0
        have HJU := Lib.hid hju
        clear hj0 hju
        rcases hjc with ⟨hq2, hjc⟩ | ⟨hq2, hjc⟩
        all_goals
          have HJC := Lib.hid hjc
          have PN2 := Lib.hid pn
          try (have hq3 : (n : Int) < av + 1 := by omega)
          clear hjc pa pn
          go_wp2_with fail
          generalize (wr.alloc (.cells #[.int .i64 7, .int .i64 d.key, .int .i64 d.val] 65)) = w2 at *
          clear c0 c1 c2
          generalize wr.heap.size = ws at *
          go_loopw [1] (fun at_ wr => ∃ j : Nat, at_ = .int .i64 j ∧ j ≤ n ∧ up d l j = up d l (min P n) ∧ ∃ mm, wr = w2.drewN mm) (fun at_ _ => n - (intOf at_).toNat)
          case atStart => exact ⟨j0, by first | rfl | (rw [HJC.out]) | (congr 1; have := HJC.out; omega), HJ0.out, HJU.out, 0, rfl⟩
          case round =>
            obtain ⟨j, rfl, hjn, hju, mm, hmm⟩ := hrel
            have OW' := Lib.hid (show wr.ownsRow w.heap.size 67 3 (.slice A' k cap') k (seenCells (walkFrom l p (moves.take k))) by rw [hmm]; exact own_keep OW.out fun _ _ _ => rfl)
            have BW' := Lib.hid (show Below w.heap.size w wr by rw [hmm]; exact Below.drewN' BW.out mm)
            have hm1 : wr.cell? ⟨ws, 1, none⟩ = some (.int .i64 d.key) := by rw [hmm]; exact MB.out.cell 1
            have hm2 : wr.cell? ⟨ws, 2, none⟩ = some (.int .i64 d.val) := by rw [hmm]; exact MB.out.cell 2
            have HJ := Lib.hid hju
            have HZ' := Lib.hid (show ws + 1 = wr.heap.size by rw [hmm]; exact HZZ.out)
            have MM := Lib.hid hmm
            clear hju hmm OW BW HZZ
            have OW := OW'
            have BW := BW'
            have HZZ := HZ'
            clear OW' BW' HZ'
            by_cases hjl : j < n
            · obtain ⟨x, hx⟩ : ∃ x, l[j]? = some x := ⟨_, List.getElem?_eq_getElem (by rw [HN.out]; omega)⟩
              obtain ⟨a1, rfl, _, hx0, hx1⟩ := (Hr.out.below BW.out).pair hx
              have X := Lib.hid hx
              have hi0 : (0 : Int) ≤ (j : Int) := by omega
              have hi1 : (j : Int) < (n : Int) := by omega
              have hi2 : ((j : Int)).toNat = j := by omega
              have hi3 : (n : Int) ≤ 100000 := by omega
              clear hx
              cases hgd : good d x.1 with
              | true =>
                have hgb : (x.1 % d.key == d.val) = true := by unfold good at hgd; simpa using hgd
                have hgn : (x.1 % d.key != d.val) = false := by simp [bne, hgb]
                have GD := Lib.hid hgd
                have FPJ := Lib.hid (show up d l (min P n) + 1 = j + 1 by rw [← HJ.out, up_here X.out GD.out])
                rw [FPJ.out] at FP fs
                have FS := Lib.hid (fs.out.trans (by rw [show seenAt l (j + 1) = some x by unfold seenAt; rw [if_neg (by omega), show j + 1 - 1 = j by omega]; exact X.out]))
                clear hgd fs HJ GD hjl 
                go_wp2_with fail
                go_quiet ((go_at_call 51; exact quiet_left (srest_any _ _ _ OD.out.1 OD.out.2)))
                have OW' := Lib.hid (show (wr.drewN nq).ownsRow w.heap.size 67 3 (.slice A' k cap') k (seenCells (walkFrom l p (moves.take k))) from own_keep OW.out fun _ _ _ => rfl)
                have BW' := Lib.hid (show Below w.heap.size w (wr.drewN nq) from Below.drewN' BW.out nq)
                have hx0' : (wr.drewN nq).cell? (a1.add (j * 2)) = some (.int .i64 x.1) := hx0
                have hx1' : (wr.drewN nq).cell? ⟨(a1.add (j * 2)).block, (a1.add (j * 2)).off + 1, none⟩ = some (.int .i64 x.2) := hx1
                clear OW BW hx0 hx1
                have OW := OW'
                have BW := BW'
                have hx0 := hx0'
                have hx1 := hx1'
                clear OW' BW' hx0' hx1'
                go_wp2_with fail
                generalize wr.drewN nq = w2 at *
                go_region_held_law (fun w' => w'.cell? (a1.add (j * 2)) = some (.int .i64 x.1) ∧ w'.cell? ⟨(a1.add (j * 2)).block, (a1.add (j * 2)).off + 1, none⟩ = some (.int .i64 x.2)) (first | exact ⟨hx0, hx1⟩ | exact K3.out | (go_keep; done))
                  (first
                    | (refine step_app Try.underlying33 seen_info rfl (by omega) rfl (.tmp 104) (.tmp 116) rfl w.heap.size (.slice A' k cap') k (seenCells (walkFrom l p (moves.take k))) rfl ?_ (some ⟨w2.heap.size, 0, none⟩) 1 1 (seenCells [some x]) rfl ?_ (seenCells_one _) ?_ ?_ ?_ ?_
                       · exact own_keep OW.out fun g _ hg => Below.heap_alloc _ _ g hg
                       · exact src_blk (Blk.drew (Blk.new _ _ _)) rfl
                       · omega
                       · omega
                       · have := BW.out.size; simp; omega
                       intro v1 w3 own3 gr3 _
                       have b3 : Below w.heap.size w2 w3 := ((Below.refl w.heap.size w2).alloc BW.out.size _).drew.grown gr3 (by have := BW.out.size; simp; omega) (fun k hk => (OW.out.lt k hk).1)
                       rw [← seenCells_append, ← FS.out] at own3
                       obtain ⟨A3, cap3, rfl, _, _⟩ := own_slice own3
                       have b4 : Below w2.heap.size w2 w2 := Below.refl _ _
                       have F := Lib.hid (show _ ∧ _ from ⟨own3, BW.out.trans b3⟩)
                       have K3 := Lib.hid (show w3.cell? (a1.add (j * 2)) = some (.int .i64 x.1) ∧ w3.cell? ⟨(a1.add (j * 2)).block, (a1.add (j * 2)).off + 1, none⟩ = some (.int .i64 x.2) from ⟨(b3.cell (by first | assumption | (rw [block_of_add]; assumption))).trans hx0, (b3.cell (by first | assumption | (simp only [block_of_add]; assumption))).trans hx1⟩)
                       clear own3 gr3 b3 b4))
                clear K3 OW BW hx0 hx1
                go_wp2_with fail
                go_roundw
                case rel => exact ⟨k + 1, j + 1, (j : Int), A3, cap3, by omega, by go_num, rfl, by omega, FP.out.symm, by omega, rfl, F.out.1, F.out.2⟩
                case measure => simp [intOf]; omega
              | false =>
                have hgb : (x.1 % d.key == d.val) = false := by unfold good at hgd; simpa using hgd
                have hgn : (x.1 % d.key != d.val) = true := by simp [bne, hgb]
                have GD := Lib.hid hgd
                clear hgd fs hjl hx1 
                go_wp2_with fail
                go_quiet ((go_at_call 51; exact quiet_left (srest_any _ _ _ OD.out.1 OD.out.2)))
                go_wp2_with fail
                go_roundw
                case rel => exact ⟨j + 1, by go_num, by omega, by rw [← up_on X.out GD.out]; exact HJ.out, mm + nq, by rw [MM.out, World.drewN_drewN]⟩
                case measure => simp [intOf]; omega
            · obtain rfl : j = n := by omega
              have hd : decide (j < j) = false := decide_eq_false (by omega)
              have FPJ := Lib.hid (show up d l (min P j) + 1 = j + 1 by rw [← HJ.out, up_end _ _ _ (by rw [HN.out]; exact Nat.le_refl _)])
              rw [FPJ.out] at FP fs
              have FS := Lib.hid (fs.out.trans (by rw [show seenAt l (j + 1) = none by unfold seenAt; rw [if_neg (by omega)]; exact List.getElem?_eq_none (by rw [HN.out]; omega)]))
              clear fs
              clear hjl HJ hm1 hm2
              go_wp2_with fail
              go_quiet (fail)
              have OW' := Lib.hid (show (wr.drewN nq).ownsRow w.heap.size 67 3 (.slice A' k cap') k (seenCells (walkFrom l p (moves.take k))) from own_keep OW.out fun _ _ _ => rfl)
              have BW' := Lib.hid (show Below w.heap.size w (wr.drewN nq) from Below.drewN' BW.out nq)
              have HZ' := Lib.hid (show wr.heap.size = (wr.drewN nq).heap.size from rfl)
              clear OW BW HZZ
              have OW := OW'
              have BW := BW'
              have HZZ := HZ'
              clear OW' BW' HZ'
              go_wp2_with (at_builtin; refine Hid.out ?_)
              delta Hid
              generalize wr.drewN nq = w2 at *
              refine wpList_appT Try.underlying33 seen_info rfl (by omega) rfl _ _ rfl w.heap.size (.slice A' k cap') k (seenCells (walkFrom l p (moves.take k))) rfl (OW.out.alloc _) (some ⟨wr.heap.size, 0, none⟩) 1 1 (seenCells [none]) rfl (src_blk (Blk.newAt HZZ.out _ _) rfl) (seenCells_one _) (by omega) (by omega) (by have := BW.out.size; simp; omega) ?_
              intro v1 w3 own3 gr3 _
              have b3 : Below w.heap.size w2 w3 := ((Below.refl w.heap.size w2).alloc BW.out.size _).grown gr3 (by have := BW.out.size; simp; omega) (fun k hk => (OW.out.lt k hk).1)
              rw [← seenCells_append, ← FS.out] at own3
              obtain ⟨A3, cap3, rfl, _, _⟩ := own_slice own3
              have F := Lib.hid (show _ ∧ _ from ⟨own3, BW.out.trans b3⟩)
              clear own3 gr3 b3 OW BW
              go_wp2_with fail
              go_roundw
              case rel => exact ⟨k + 1, j + 1, (j : Int), A3, cap3, by omega, by go_num, rfl, by omega, FP.out.symm, by omega, rfl, F.out.1, F.out.2⟩
              case measure => simp [intOf]; omega
      have n7 : ¬ d.op = 7 := h1
      clear h1
      by_cases h1 : d.op = 8
      · have e1 : mvPos l P d = dn d l (P - 1) := by unfold mvPos; rw [if_neg (by omega), if_neg (by omega), if_neg (by omega), if_neg (by omega), if_neg (by omega), if_neg (by omega), if_neg (by omega), if_pos h1]
        have fp := FF.out.2
        rw [e1] at fp
        have FP := Lib.hid fp
        have e2 : mvSeen l P d = seenAt l (dn d l (P - 1)) := by unfold mvSeen mvTell; rw [e1, h1]; simp
        have fs := Lib.hid (FF.out.1.trans (by rw [e2]))
        rw [h1] at c0 BW OW
        have HZZ := Lib.hid (show wr.heap.size + 1 = (wr.alloc (.cells #[.int .i64 8, .int .i64 d.key, .int .i64 d.val] 65)).heap.size by simp)
        have pa := PA.out
        have pn := PN.out
        have OD := Lib.hid (OKD.out (.inr h1))
        have MB := Lib.hid (show Blk (wr.alloc (.cells #[.int .i64 8, .int .i64 d.key, .int .i64 d.val] 65)) wr.heap.size 65 #[.int .i64 8, .int .i64 d.key, .int .i64 d.val] from Blk.new _ _ _)
        clear e1 e2 h1 fp
        have UE : ∃ j0 : Nat, j0 = P - 1 := ⟨P - 1, rfl⟩
        obtain ⟨j0, hj0⟩ := UE
        have HJ0 := Lib.hid hj0
        clear hj0
        rcases (show 0 ≤ av ∨ av = -1 by omega) with hq2 | hq2
        all_goals
          try (have hq3 : (-1 : Int) ≤ av - 1 := by omega)
          have PA2 := Lib.hid pa
          try (have HQ := Lib.hid hq2; subst hq2)
          clear pa pn
          go_wp2_with fail
          generalize (wr.alloc (.cells #[.int .i64 8, .int .i64 d.key, .int .i64 d.val] 65)) = w2 at *
          clear c0 c1 c2
          generalize wr.heap.size = ws at *
          go_loopw [1] (fun at_ wr => ∃ j : Nat, (∃ jv : Int, at_ = .int .i64 jv ∧ jv = (j : Int) - 1) ∧ j ≤ n ∧ dn d l j = dn d l (P - 1) ∧ ∃ mm, wr = w2.drewN mm) (fun at_ _ => (intOf at_ + 1).toNat)
          case atStart => exact ⟨j0, ⟨_, rfl, by have := PA2.out; have := HJ0.out; omega⟩, by have := HJ0.out; have := PN.out; omega, by rw [HJ0.out], 0, rfl⟩
          case round =>
            obtain ⟨j, ⟨jv, rfl, hjv⟩, hjn, hju, mm, hmm⟩ := hrel
            have OW' := Lib.hid (show wr.ownsRow w.heap.size 67 3 (.slice A' k cap') k (seenCells (walkFrom l p (moves.take k))) by rw [hmm]; exact own_keep OW.out fun _ _ _ => rfl)
            have BW' := Lib.hid (show Below w.heap.size w wr by rw [hmm]; exact Below.drewN' BW.out mm)
            have hm1 : wr.cell? ⟨ws, 1, none⟩ = some (.int .i64 d.key) := by rw [hmm]; exact MB.out.cell 1
            have hm2 : wr.cell? ⟨ws, 2, none⟩ = some (.int .i64 d.val) := by rw [hmm]; exact MB.out.cell 2
            have HJ := Lib.hid hju
            have HZ' := Lib.hid (show ws + 1 = wr.heap.size by rw [hmm]; exact HZZ.out)
            have MM := Lib.hid hmm
            clear hju hmm OW BW HZZ
            have OW := OW'
            have BW := BW'
            have HZZ := HZ'
            clear OW' BW' HZ'
            by_cases hjl : 1 ≤ j
            · obtain ⟨j1, hj1⟩ : ∃ j1, j = j1 + 1 := ⟨j - 1, by omega⟩
              obtain ⟨x, hx⟩ : ∃ x, l[j1]? = some x := ⟨_, List.getElem?_eq_getElem (by rw [HN.out]; omega)⟩
              obtain ⟨a1, rfl, _, hx0, hx1⟩ := (Hr.out.below BW.out).pair hx
              have X := Lib.hid hx
              have hi0 : (0 : Int) ≤ jv := by omega
              have hi1 : jv < (n : Int) := by omega
              have hi2 : (jv).toNat = j1 := by omega
              have hi3 : (n : Int) ≤ 100000 := by omega
              have HJ1 := Lib.hid hj1
              have HJV := Lib.hid hjv
              clear hx
              cases hgd : good d x.1 with
              | true =>
                have hgb : (x.1 % d.key == d.val) = true := by unfold good at hgd; simpa using hgd
                have hgn : (x.1 % d.key != d.val) = false := by simp [bne, hgb]
                have GD := Lib.hid hgd
                have FPJ := Lib.hid (show dn d l (P - 1) = j by rw [← HJ.out, HJ1.out, dn_here X.out GD.out])
                rw [FPJ.out] at FP fs
                have FS := Lib.hid (fs.out.trans (by rw [show seenAt l (j) = some x by unfold seenAt; rw [if_neg (by omega), show j - 1 = j1 by omega]; exact X.out]))
                clear hgd fs HJ GD hjl hj1 hjv
                go_wp2_with fail
                go_quiet ((go_at_call 51; exact quiet_left (srest_any _ _ _ OD.out.1 OD.out.2)))
                have OW' := Lib.hid (show (wr.drewN nq).ownsRow w.heap.size 67 3 (.slice A' k cap') k (seenCells (walkFrom l p (moves.take k))) from own_keep OW.out fun _ _ _ => rfl)
                have BW' := Lib.hid (show Below w.heap.size w (wr.drewN nq) from Below.drewN' BW.out nq)
                have hx0' : (wr.drewN nq).cell? (a1.add (j1 * 2)) = some (.int .i64 x.1) := hx0
                have hx1' : (wr.drewN nq).cell? ⟨(a1.add (j1 * 2)).block, (a1.add (j1 * 2)).off + 1, none⟩ = some (.int .i64 x.2) := hx1
                clear OW BW hx0 hx1
                have OW := OW'
                have BW := BW'
                have hx0 := hx0'
                have hx1 := hx1'
                clear OW' BW' hx0' hx1'
                go_wp2_with fail
                generalize wr.drewN nq = w2 at *
                go_region_held_law (fun w' => w'.cell? (a1.add (j1 * 2)) = some (.int .i64 x.1) ∧ w'.cell? ⟨(a1.add (j1 * 2)).block, (a1.add (j1 * 2)).off + 1, none⟩ = some (.int .i64 x.2)) (first | exact ⟨hx0, hx1⟩ | exact K3.out | (go_keep; done))
                  (first
                    | (refine step_app Try.underlying33 seen_info rfl (by omega) rfl (.tmp 104) (.tmp 116) rfl w.heap.size (.slice A' k cap') k (seenCells (walkFrom l p (moves.take k))) rfl ?_ (some ⟨w2.heap.size, 0, none⟩) 1 1 (seenCells [some x]) rfl ?_ (seenCells_one _) ?_ ?_ ?_ ?_
                       · exact own_keep OW.out fun g _ hg => Below.heap_alloc _ _ g hg
                       · exact src_blk (Blk.drew (Blk.new _ _ _)) rfl
                       · omega
                       · omega
                       · have := BW.out.size; simp; omega
                       intro v1 w3 own3 gr3 _
                       have b3 : Below w.heap.size w2 w3 := ((Below.refl w.heap.size w2).alloc BW.out.size _).drew.grown gr3 (by have := BW.out.size; simp; omega) (fun k hk => (OW.out.lt k hk).1)
                       rw [← seenCells_append, ← FS.out] at own3
                       obtain ⟨A3, cap3, rfl, _, _⟩ := own_slice own3
                       have b4 : Below w2.heap.size w2 w2 := Below.refl _ _
                       have F := Lib.hid (show _ ∧ _ from ⟨own3, BW.out.trans b3⟩)
                       have K3 := Lib.hid (show w3.cell? (a1.add (j1 * 2)) = some (.int .i64 x.1) ∧ w3.cell? ⟨(a1.add (j1 * 2)).block, (a1.add (j1 * 2)).off + 1, none⟩ = some (.int .i64 x.2) from ⟨(b3.cell (by first | assumption | (rw [block_of_add]; assumption))).trans hx0, (b3.cell (by first | assumption | (simp only [block_of_add]; assumption))).trans hx1⟩)
                       clear own3 gr3 b3 b4))
                clear K3 OW BW hx0 hx1
                go_wp2_with fail
                go_roundw
                case rel => exact ⟨k + 1, j, jv, A3, cap3, by omega, by go_num, rfl, by have := HJV.out; omega, FP.out.symm, by omega, rfl, F.out.1, F.out.2⟩
                case measure => simp [intOf]; omega
              | false =>
                have hgb : (x.1 % d.key == d.val) = false := by unfold good at hgd; simpa using hgd
                have hgn : (x.1 % d.key != d.val) = true := by simp [bne, hgb]
                have GD := Lib.hid hgd
                clear hgd fs hjl hx1 hj1 hjv
                go_wp2_with fail
                go_quiet ((go_at_call 51; exact quiet_left (srest_any _ _ _ OD.out.1 OD.out.2)))
                go_wp2_with fail
                go_roundw
                case rel => exact ⟨j1, ⟨_, rfl, by have := HJV.out; have := HJ1.out; omega⟩, by have := HJ1.out; omega, by rw [← HJ.out, HJ1.out, dn_on X.out GD.out], mm + nq, by rw [MM.out, World.drewN_drewN]⟩
                case measure => simp [intOf]; omega
            · obtain rfl : j = 0 := by omega
              obtain rfl : jv = -1 := by omega
              have FPJ := Lib.hid (show dn d l (P - 1) = 0 by rw [← HJ.out]; rfl)
              clear hjv hjn
              rw [FPJ.out] at FP fs
              have FS := Lib.hid (fs.out.trans (by rw [show seenAt l (0) = none by unfold seenAt; rw [if_pos rfl]]))
              clear fs
              clear hjl HJ hm1 hm2
              go_wp2_with fail
              go_quiet (fail)
              have OW' := Lib.hid (show (wr.drewN nq).ownsRow w.heap.size 67 3 (.slice A' k cap') k (seenCells (walkFrom l p (moves.take k))) from own_keep OW.out fun _ _ _ => rfl)
              have BW' := Lib.hid (show Below w.heap.size w (wr.drewN nq) from Below.drewN' BW.out nq)
              have HZ' := Lib.hid (show wr.heap.size = (wr.drewN nq).heap.size from rfl)
              clear OW BW HZZ
              have OW := OW'
              have BW := BW'
              have HZZ := HZ'
              clear OW' BW' HZ'
              go_wp2_with (at_builtin; refine Hid.out ?_)
              delta Hid
              generalize wr.drewN nq = w2 at *
              refine wpList_appT Try.underlying33 seen_info rfl (by omega) rfl _ _ rfl w.heap.size (.slice A' k cap') k (seenCells (walkFrom l p (moves.take k))) rfl (OW.out.alloc _) (some ⟨wr.heap.size, 0, none⟩) 1 1 (seenCells [none]) rfl (src_blk (Blk.newAt HZZ.out _ _) rfl) (seenCells_one _) (by omega) (by omega) (by have := BW.out.size; simp; omega) ?_
              intro v1 w3 own3 gr3 _
              have b3 : Below w.heap.size w2 w3 := ((Below.refl w.heap.size w2).alloc BW.out.size _).grown gr3 (by have := BW.out.size; simp; omega) (fun k hk => (OW.out.lt k hk).1)
              rw [← seenCells_append, ← FS.out] at own3
              obtain ⟨A3, cap3, rfl, _, _⟩ := own_slice own3
              have F := Lib.hid (show _ ∧ _ from ⟨own3, BW.out.trans b3⟩)
              clear own3 gr3 b3 OW BW
              go_wp2_with fail
              go_roundw
              case rel => exact ⟨k + 1, 0, (-1 : Int), A3, cap3, by omega, by go_num, rfl, by omega, FP.out.symm, by omega, rfl, F.out.1, F.out.2⟩
              case measure => simp [intOf]; omega
      have n8 : ¬ d.op = 8 := h1
      clear h1
      have e1 : mvPos l P d = P := by unfold mvPos; simp only [n1, n2, n3, n4, n5, n6, n7, n8, if_false]
      have e2 : mvSeen l P d = none := by unfold mvSeen mvTell; simp [n1, n2, n3, n4, n7, n8]
      have FP := Lib.hid (FF.out.2.trans e1)
      have FS := Lib.hid (FF.out.1.trans (by rw [e2]))
      have HZZ := Lib.hid (show wr.heap.size + 1 = (wr.alloc (.cells #[.int .i64 d.op, .int .i64 d.key, .int .i64 d.val] 65)).heap.size by simp)
      have b1 : (d.op == 1) = false := by simpa using n1
      have b2 : (d.op == 2) = false := by simpa using n2
      have b3 : (d.op == 3) = false := by simpa using n3
      have b4 : (d.op == 4) = false := by simpa using n4
      have b5 : (d.op == 5) = false := by simpa using n5
      have b6 : (d.op == 6) = false := by simpa using n6
      have b7 : (d.op == 7) = false := by simpa using n7
      have b8 : (d.op == 8) = false := by simpa using n8
      clear e1 e2 n1 n2 n3 n4 n5 n6 n7 n8
      go_wp2_with (at_builtin; refine Hid.out ?_)
      delta Hid
      generalize (wr.alloc (.cells #[.int .i64 d.op, .int .i64 d.key, .int .i64 d.val] 65)) = w2 at *
      refine wpList_appT Try.underlying33 seen_info rfl (by omega) rfl _ _ rfl w.heap.size (.slice A' k cap') k (seenCells (walkFrom l p (moves.take k))) rfl (OW.out.alloc _) (some ⟨wr.heap.size + 1, 0, none⟩) 1 1 (seenCells [none]) rfl (src_blk (Blk.newAt HZZ.out _ _) rfl) (seenCells_one _) (by omega) (by omega) (by have := BW.out.size; simp; omega) ?_
      intro v1 w3 own3 gr3 _
      have b3 : Below w.heap.size w2 w3 := ((Below.refl w.heap.size w2).alloc BW.out.size _).grown gr3 (by have := BW.out.size; simp; omega) (fun k hk => (OW.out.lt k hk).1)
      rw [← seenCells_append, ← FS.out] at own3
      obtain ⟨A3, cap3, rfl, _, _⟩ := own_slice own3
      have F := Lib.hid (show _ ∧ _ from ⟨own3, BW.out.trans b3⟩)
      clear own3 gr3 b3 OW BW
      go_wp2_with fail
      go_roundw
      case rel => exact ⟨k + 1, P, av, A3, cap3, by omega, by go_num, rfl, by have := PA.out; omega, FP.out.symm, by have := PN.out; omega, rfl, F.out.1, F.out.2⟩
      case measure => simp [intOf]; omega
    · obtain rfl : k = nm := by omega
      rw [List.take_of_length_le (by have := HM.out; omega)] at hown
      have F := Lib.hid (show wr.ownsRow _ _ _ _ _ _ ∧ Below _ _ _ from ⟨hown, hw⟩)
      clear hown hw hPa hPg hPn
      go_wp2_with fail
      go_ret
      exact ⟨A', cap', rfl, F.out⟩
end Go.Proofs.Ytpkgmgebhnhhjaa
