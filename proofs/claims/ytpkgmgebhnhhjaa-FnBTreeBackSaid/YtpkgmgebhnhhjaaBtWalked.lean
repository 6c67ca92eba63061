/-
  The thin package's walked moves an iterator of a tree of this kind, and tells what the reference's walk tells.
-/
import Derived.Test.YtpkgmgebhnhhjaaBtMoves
import Derived.Test.YtpkgmgebhnhhjaaSeen
import Derived.Deep.RegionWith
namespace Go.Proofs.Ytpkgmgebhnhhjaa.Bt
open Go.RowKit Go.Proofs.Ytpkgmgebhnhhjaa

@[go_sem] theorem bti_method_Prev (n : Nat) (a : Addr) (w : World) : (method (n + 1) 82 (.pointer (some a)) "Prev").run Try.prog w = .ok (131, .pointer (some a)) w := by kernel_rfl
@[go_sem] theorem bti_method_First (n : Nat) (a : Addr) (w : World) : (method (n + 1) 82 (.pointer (some a)) "First").run Try.prog w = .ok (128, .pointer (some a)) w := by kernel_rfl
@[go_sem] theorem bti_method_Last (n : Nat) (a : Addr) (w : World) : (method (n + 1) 82 (.pointer (some a)) "Last").run Try.prog w = .ok (129, .pointer (some a)) w := by kernel_rfl
@[go_sem] theorem bti_method_Begin (n : Nat) (a : Addr) (w : World) : (method (n + 1) 82 (.pointer (some a)) "Begin").run Try.prog w = .ok (127, .pointer (some a)) w := by kernel_rfl
@[go_sem] theorem bti_method_End (n : Nat) (a : Addr) (w : World) : (method (n + 1) 82 (.pointer (some a)) "End").run Try.prog w = .ok (105, .pointer (some a)) w := by kernel_rfl
@[go_sem] theorem bti_method_NextTo (n : Nat) (a : Addr) (w : World) : (method (n + 1) 82 (.pointer (some a)) "NextTo").run Try.prog w = .ok (130, .pointer (some a)) w := by kernel_rfl
@[go_sem] theorem bti_method_PrevTo (n : Nat) (a : Addr) (w : World) : (method (n + 1) 82 (.pointer (some a)) "PrevTo").run Try.prog w = .ok (132, .pointer (some a)) w := by kernel_rfl

section
variable {o : Ord} {ob B tb itb p : Nat} {w w' : World} {t : BTr}
set_option maxHeartbeats 8000000 in
set_option maxRecDepth 100000 in
theorem btiWalked_walk (h : BtIt o ob B w tb itb t p) (n cap : Nat) (A : Option Addr) (moves : List Do) (hn : moves.length = n) (hn1 : n ≤ 1000) (hlt : t.count ≤ 100000) (ha : ActsAt w B A moves) (hB : B ≤ w.heap.size)
    (hok : ∀ m ∈ moves, (m.op = 7 ∨ m.op = 8) → 1 ≤ m.key ∧ m.key ≤ 1000) :
    Calls Try.prog 48 #[.iface 82 (.pointer (some ⟨itb, 0, none⟩)), .slice A n cap] w fun e w' =>
      ∃ A' cap', e = .returned (.slice A' n cap') ∧ w'.ownsRow w.heap.size 67 3 (.slice A' n cap') n (seenCells (walkFrom t.kvs p moves)) ∧ Below B w w' := by
  have hmf : ∀ (fn : Fn) (first cap : Array Value) (w : World), (Instr.makeFunc fn first cap).run Try.prog w = .ok (.func fn first cap) w := fun _ _ _ _ => rfl
  have HC := Lib.hid h.ltC
  have H0 := Lib.hid h
  have Ha := Lib.hid ha
  have HN := Lib.hid hn
  have OK := Lib.hid hok
  have KL := Lib.hid (BTr.kvs_length t)
  have HLO := Lib.hid h.lo
  clear h ha hn hok
  go_enter Try.func48, Try.ntmps48
  go_wp2_with fail
  go_loopw [5, 14] (fun v i wr => ∃ (k : Nat) (A' : Option Addr) (cap' : Nat), k ≤ n ∧ i = .int .i64 k ∧ v = .slice A' k cap' ∧ wr.ownsRow w.heap.size 67 3 (.slice A' k cap') k (seenCells (walkFrom t.kvs p (moves.take k))) ∧ BtIt o ob B wr tb itb t (goFrom t.kvs p (moves.take k)) ∧ Below B w wr) (fun _ i _ => n - (intOf i).toNat)
  case atStart => exact ⟨0, _, 0, Nat.zero_le _, rfl, rfl, own_empty (Blk.new _ _ _) (Nat.le_refl _), H0.out.belowC ((Below.refl _ _).alloc (Nat.le_refl _) _) HC.out, (Below.refl _ _).alloc hB _⟩
  case round =>
    obtain ⟨k, A', cap', hk, rfl, rfl, hown, hit, hw⟩ := hrel
    by_cases hlt : k < n
    · obtain ⟨a, d, rfl, hab, hd, c0, c1, c2⟩ := ActsAt.at_ (Ha.out.below hw) (i := k) (by have := HN.out; omega)
      have hdm : d ∈ moves := List.mem_of_getElem? hd
      have f := walkFrom_take_succ t.kvs p moves k d hd
      have hle := hit.le
      generalize hP : goFrom t.kvs p (moves.take k) = P at *
      have FF := Lib.hid f
      have MB := Lib.hid (show MoveAt (wr.alloc (.cells #[.int .i64 d.op, .int .i64 d.key, .int .i64 d.val] 65)) wr.heap.size d from Blk.new _ _ _)
      have hsz := hw.size
      have HS0 := Lib.hid hsz
      have IT0 := Lib.hid (hit.belowC ((Below.refl w.heap.size wr).alloc hsz (.cells #[.int .i64 d.op, .int .i64 d.key, .int .i64 d.val] 65)) HC.out)
      have OW := Lib.hid (hown.alloc (.cells #[.int .i64 d.op, .int .i64 d.key, .int .i64 d.val] 65))
      have BW := Lib.hid (hw.alloc (Nat.le_trans hB hsz) (.cells #[.int .i64 d.op, .int .i64 d.key, .int .i64 d.val] 65))
      have hmn : wr.heap.size ≠ itb := by have := HC.out.it; omega
      have MN := Lib.hid hmn
      have OKD := Lib.hid (OK.out d hdm)
      have PLE := Lib.hid hle
      have hz := Lib.hid (show w.heap.size ≤ (wr.alloc (.cells #[.int .i64 d.op, .int .i64 d.key, .int .i64 d.val] 65)).heap.size by simp; omega)
      clear hown hit hw hd f hdm hsz hmn hle hP
      by_cases h1 : d.op = 1
      · have e1 : mvPos t.kvs P d = min (P + 1) (t.count + 1) := by unfold mvPos; rw [if_pos h1, KL.out]
        have e2 : mvSeen t.kvs P d = seenAt t.kvs (min (P + 1) (t.count + 1)) := by unfold mvSeen mvTell; rw [e1, h1]; simp
        have fp := FF.out.2
        have fs := FF.out.1
        rw [e1] at fp
        rw [e2] at fs
        have FP := Lib.hid fp
        have c := btiItNext_walk IT0.out
        clear fp e1 e2
        rw [h1] at c0 MB IT0 OW BW hz c
        by_cases CL0 : P < t.count
        · rw [decide_eq_true CL0] at c
          have hqb : P < t.count := by exact CL0
          obtain ⟨x, hx⟩ : ∃ x, t.kvs[P]? = some x := ⟨_, List.getElem?_eq_getElem (by rw [KL.out]; exact hqb)⟩
          have CL := Lib.hid CL0
          rw [show seenAt t.kvs (min (P + 1) (t.count + 1)) = some x by unfold seenAt; rw [if_neg (by have := CL.out; omega)]; rw [show min (P + 1) (t.count + 1) - 1 = P by have := CL.out; omega]; exact hx] at fs
          have FS := Lib.hid fs
          have X := Lib.hid hx
          have C := Lib.hid c
          clear c hx h1 fs hqb CL0
          go_wp2_with fail
          refine C.out.mono ?_
          rintro e wx ⟨rfl, h1, on1⟩
          rw [show min (P + 1) (t.count + 1) = P + 1 by have := CL.out; omega] at h1
          obtain ⟨q, hq⟩ : ∃ q, q = P := ⟨_, rfl⟩
          rw [← hq] at h1 X
          have I1 := Lib.hid h1
          have FPq := Lib.hid (show goFrom t.kvs p (moves.take (k + 1)) = q + 1 by first | (rw [FP.out, hq]; done) | (rw [FP.out, hq]; have := CL.out; omega))
          have FP := Lib.hid FPq.out
          clear FPq hq
          have O1 := Lib.hid (own_keep OW.out fun g hg hgl => on1.block g hgl (by simp only [List.mem_singleton]; intro e; have := HC.out.it; omega))
          have B1 := Lib.hid (BW.out.trans (on1.below (fun b hb => by simp only [List.mem_singleton] at hb; subst hb; exact HLO.out) (Nat.le_trans hB BW.out.size)))
          have Z1 := Lib.hid (Nat.le_trans hz.out on1.size)
          clear h1 on1
          have IA := Lib.hid (I1.out.belowC ((Below.refl w.heap.size wx).alloc Z1.out (.cells #[.bool true, .int .i64 0, .int .i64 0] 67)) HC.out)
          have K1 := Lib.hid (btiItKey_walk (BtIt.drewN IA.out 1) (show t.kvs[q]? = some (x.1, x.2) from X.out))
          have V1 := Lib.hid (btiItValue_walk (BtIt.drewN IA.out 1) (show t.kvs[q]? = some (x.1, x.2) from X.out))
          have bel := Lib.hid (show Below wx.heap.size wx ((((wx.alloc (.cells #[.bool true, .int .i64 0, .int .i64 0] 67)).drewN 1).setCell ⟨wx.heap.size, 1, none⟩ (.int .i64 x.1)).setCell ⟨wx.heap.size, 2, none⟩ (.int .i64 x.2)) from ((Below.drewN' ((Below.refl _ _).alloc (Nat.le_refl _) _) 1).setCell (p := ⟨wx.heap.size, 1, none⟩) (Nat.le_refl _) _).setCell (p := ⟨wx.heap.size, 2, none⟩) (Nat.le_refl _) _)
          have O2 := Lib.hid (own_below O1.out bel.out)
          have I2 := Lib.hid (I1.out.belowC (bel.out.mono Z1.out) HC.out)
          have B2 := Lib.hid (B1.out.trans (bel.out.mono (Nat.le_trans hB Z1.out)))
          have Z2 := Lib.hid (Nat.le_trans Z1.out bel.out.size)
          have FB := Lib.hid (show Blk ((((wx.alloc (.cells #[.bool true, .int .i64 0, .int .i64 0] 67)).drewN 1).setCell ⟨wx.heap.size, 1, none⟩ (.int .i64 x.1)).setCell ⟨wx.heap.size, 2, none⟩ (.int .i64 x.2)) wx.heap.size 67 #[.bool true, .int .i64 x.1, .int .i64 x.2] from Blk.set_ (Blk.set_ (show Blk ((wx.alloc (.cells #[.bool true, .int .i64 0, .int .i64 0] 67)).drewN 1) wx.heap.size 67 #[.bool true, .int .i64 0, .int .i64 0] from Blk.new wx _ _) 1 (.int .i64 x.1)) 2 (.int .i64 x.2))
          go_wp2_with fail
          go_region_with (first
            | (go_at_call 101; refine K1.out.mono ?_; rintro e wz ⟨rfl, rfl⟩)
            | (go_at_call 104; refine V1.out.mono ?_; rintro e wz ⟨rfl, rfl⟩))
          all_goals
            clear K1 V1 IA bel O1 I1 B1 Z1
            generalize (((wx.alloc (.cells #[.bool true, .int .i64 0, .int .i64 0] 67)).drewN 1).setCell ⟨wx.heap.size, 1, none⟩ (.int .i64 x.1)).setCell ⟨wx.heap.size, 2, none⟩ (.int .i64 x.2) = w2 at *
            have hf0 : w2.cell? ⟨wx.heap.size, 0, none⟩ = some (.bool true) := FB.out.cell 0
            have hf1 : w2.cell? ⟨wx.heap.size, 1, none⟩ = some (.int .i64 x.1) := FB.out.cell 1
            have hf2 : w2.cell? ⟨wx.heap.size, 2, none⟩ = some (.int .i64 x.2) := FB.out.cell 2
            go_wp2_with (at_builtin; refine Hid.out ?_)
            delta Hid
            refine wpList_appT Try.underlying33 seen_info rfl (by omega) rfl _ _ rfl w.heap.size (.slice A' k cap') k (seenCells (walkFrom t.kvs p (moves.take k))) rfl (O2.out.alloc _) (some ⟨w2.heap.size, 0, none⟩) 1 1 (seenCells [some x]) rfl (src_blk (Blk.newAt rfl _ _) rfl) (seenCells_one _) (by omega) (by omega) (by have := Z2.out; simp; omega) ?_
            intro v1 w3 own3 gr3 _
            have b3 : Below w.heap.size w2 w3 := ((Below.refl w.heap.size w2).alloc Z2.out _).grown gr3 (by have := Z2.out; simp; omega) (fun k hk => (O2.out.lt k hk).1)
            rw [← seenCells_append, ← FS.out] at own3
            obtain ⟨A3, cap3, rfl, _, _⟩ := own_slice own3
            have i3 := I2.out.belowC b3 HC.out
            rw [← FP.out] at i3
            have F := Lib.hid (show _ ∧ _ ∧ _ from ⟨own3, i3, B2.out.trans (b3.mono hB)⟩)
            clear own3 gr3 b3 i3 O2 I2 B2 Z2
            go_wp2_with fail
            go_roundw
            case rel => exact ⟨k + 1, A3, cap3, by omega, by go_num, rfl, F.out.1, F.out.2.1, F.out.2.2⟩
            case measure => simp [intOf]; omega
        · rw [decide_eq_false CL0] at c
          have CL := Lib.hid CL0
          rw [show seenAt t.kvs (min (P + 1) (t.count + 1)) = none by unfold seenAt; rw [show min (P + 1) (t.count + 1) = t.count + 1 by have := CL.out; have := PLE.out; omega]; rw [if_neg (by omega)]; exact List.getElem?_eq_none (by rw [KL.out]; omega)] at fs
          have FS := Lib.hid fs
          have C := Lib.hid c
          clear c h1 fs CL0
          go_wp2_with fail
          refine C.out.mono ?_
          rintro e wx ⟨rfl, h1, on1⟩
          have I1 := Lib.hid h1
          have O1 := Lib.hid (own_keep OW.out fun g hg hgl => on1.block g hgl (by simp only [List.mem_singleton]; intro e; have := HC.out.it; omega))
          have B1 := Lib.hid (BW.out.trans (on1.below (fun b hb => by simp only [List.mem_singleton] at hb; subst hb; exact HLO.out) (Nat.le_trans hB BW.out.size)))
          have Z1 := Lib.hid (Nat.le_trans hz.out on1.size)
          clear h1 on1
          have bel := Lib.hid (show Below wx.heap.size wx (wx.alloc (.cells #[.bool false, .int .i64 0, .int .i64 0] 67)) from (Below.refl _ _).alloc (Nat.le_refl _) _)
          have O2 := Lib.hid (own_below O1.out bel.out)
          have I2 := Lib.hid (I1.out.belowC (bel.out.mono Z1.out) HC.out)
          have B2 := Lib.hid (B1.out.trans (bel.out.mono (Nat.le_trans hB Z1.out)))
          have Z2 := Lib.hid (Nat.le_trans Z1.out bel.out.size)
          have HZZ := Lib.hid (show wx.heap.size + 1 = (wx.alloc (.cells #[.bool false, .int .i64 0, .int .i64 0] 67)).heap.size by simp)
          clear bel O1 I1 B1 Z1
          go_wp2_with (at_builtin; refine Hid.out ?_)
          delta Hid
          generalize wx.alloc (.cells #[.bool false, .int .i64 0, .int .i64 0] 67) = w2 at *
          refine wpList_appT Try.underlying33 seen_info rfl (by omega) rfl _ _ rfl w.heap.size (.slice A' k cap') k (seenCells (walkFrom t.kvs p (moves.take k))) rfl (O2.out.alloc _) (some ⟨wx.heap.size + 1, 0, none⟩) 1 1 (seenCells [none]) rfl (src_blk (Blk.newAt HZZ.out _ _) rfl) (seenCells_one _) (by omega) (by omega) (by have := Z2.out; simp; omega) ?_
          intro v1 w3 own3 gr3 _
          have b3 : Below w.heap.size w2 w3 := ((Below.refl w.heap.size w2).alloc Z2.out _).grown gr3 (by have := Z2.out; simp; omega) (fun k hk => (O2.out.lt k hk).1)
          rw [← seenCells_append, ← FS.out] at own3
          obtain ⟨A3, cap3, rfl, _, _⟩ := own_slice own3
          have i3 := I2.out.belowC b3 HC.out
          rw [← FP.out] at i3
          have F := Lib.hid (show _ ∧ _ ∧ _ from ⟨own3, i3, B2.out.trans (b3.mono hB)⟩)
          clear own3 gr3 b3 i3 O2 I2 B2 Z2
          go_wp2_with fail
          go_roundw
          case rel => exact ⟨k + 1, A3, cap3, by omega, by go_num, rfl, F.out.1, F.out.2.1, F.out.2.2⟩
          case measure => simp [intOf]; omega
      have n1 : ¬ d.op = 1 := h1
      clear h1
      by_cases h1 : d.op = 2
      · have e1 : mvPos t.kvs P d = P - 1 := by unfold mvPos; rw [if_neg (by omega), if_pos h1]
        have e2 : mvSeen t.kvs P d = seenAt t.kvs (P - 1) := by unfold mvSeen mvTell; rw [e1, h1]; simp
        have fp := FF.out.2
        have fs := FF.out.1
        rw [e1] at fp
        rw [e2] at fs
        have FP := Lib.hid fp
        have c := btiItPrev_walk IT0.out
        clear fp e1 e2
        rw [h1] at c0 MB IT0 OW BW hz c
        by_cases CL0 : 1 < P
        · rw [decide_eq_true CL0] at c
          have hqb : (P - 2) < t.count := by have := PLE.out; omega
          obtain ⟨x, hx⟩ : ∃ x, t.kvs[(P - 2)]? = some x := ⟨_, List.getElem?_eq_getElem (by rw [KL.out]; exact hqb)⟩
          have CL := Lib.hid CL0
          rw [show seenAt t.kvs (P - 1) = some x by unfold seenAt; rw [if_neg (by have := CL.out; omega)]; rw [show P - 1 - 1 = (P - 2) by have := CL.out; omega]; exact hx] at fs
          have FS := Lib.hid fs
          have X := Lib.hid hx
          have C := Lib.hid c
          clear c hx h1 fs hqb CL0
          go_wp2_with fail
          refine C.out.mono ?_
          rintro e wx ⟨rfl, h1, on1⟩
          rw [show P - 1 = P - 2 + 1 by have := CL.out; omega] at h1
          obtain ⟨q, hq⟩ : ∃ q, q = (P - 2) := ⟨_, rfl⟩
          rw [← hq] at h1 X
          have I1 := Lib.hid h1
          have FPq := Lib.hid (show goFrom t.kvs p (moves.take (k + 1)) = q + 1 by first | (rw [FP.out, hq]; done) | (rw [FP.out, hq]; have := CL.out; omega))
          have FP := Lib.hid FPq.out
          clear FPq hq
          have O1 := Lib.hid (own_keep OW.out fun g hg hgl => on1.block g hgl (by simp only [List.mem_singleton]; intro e; have := HC.out.it; omega))
          have B1 := Lib.hid (BW.out.trans (on1.below (fun b hb => by simp only [List.mem_singleton] at hb; subst hb; exact HLO.out) (Nat.le_trans hB BW.out.size)))
          have Z1 := Lib.hid (Nat.le_trans hz.out on1.size)
          clear h1 on1
          have IA := Lib.hid (I1.out.belowC ((Below.refl w.heap.size wx).alloc Z1.out (.cells #[.bool true, .int .i64 0, .int .i64 0] 67)) HC.out)
          have K1 := Lib.hid (btiItKey_walk (BtIt.drewN IA.out 1) (show t.kvs[q]? = some (x.1, x.2) from X.out))
          have V1 := Lib.hid (btiItValue_walk (BtIt.drewN IA.out 1) (show t.kvs[q]? = some (x.1, x.2) from X.out))
          have bel := Lib.hid (show Below wx.heap.size wx ((((wx.alloc (.cells #[.bool true, .int .i64 0, .int .i64 0] 67)).drewN 1).setCell ⟨wx.heap.size, 1, none⟩ (.int .i64 x.1)).setCell ⟨wx.heap.size, 2, none⟩ (.int .i64 x.2)) from ((Below.drewN' ((Below.refl _ _).alloc (Nat.le_refl _) _) 1).setCell (p := ⟨wx.heap.size, 1, none⟩) (Nat.le_refl _) _).setCell (p := ⟨wx.heap.size, 2, none⟩) (Nat.le_refl _) _)
          have O2 := Lib.hid (own_below O1.out bel.out)
          have I2 := Lib.hid (I1.out.belowC (bel.out.mono Z1.out) HC.out)
          have B2 := Lib.hid (B1.out.trans (bel.out.mono (Nat.le_trans hB Z1.out)))
          have Z2 := Lib.hid (Nat.le_trans Z1.out bel.out.size)
          have FB := Lib.hid (show Blk ((((wx.alloc (.cells #[.bool true, .int .i64 0, .int .i64 0] 67)).drewN 1).setCell ⟨wx.heap.size, 1, none⟩ (.int .i64 x.1)).setCell ⟨wx.heap.size, 2, none⟩ (.int .i64 x.2)) wx.heap.size 67 #[.bool true, .int .i64 x.1, .int .i64 x.2] from Blk.set_ (Blk.set_ (show Blk ((wx.alloc (.cells #[.bool true, .int .i64 0, .int .i64 0] 67)).drewN 1) wx.heap.size 67 #[.bool true, .int .i64 0, .int .i64 0] from Blk.new wx _ _) 1 (.int .i64 x.1)) 2 (.int .i64 x.2))
          go_wp2_with fail
          go_region_with (first
            | (go_at_call 101; refine K1.out.mono ?_; rintro e wz ⟨rfl, rfl⟩)
            | (go_at_call 104; refine V1.out.mono ?_; rintro e wz ⟨rfl, rfl⟩))
          all_goals
            clear K1 V1 IA bel O1 I1 B1 Z1
            generalize (((wx.alloc (.cells #[.bool true, .int .i64 0, .int .i64 0] 67)).drewN 1).setCell ⟨wx.heap.size, 1, none⟩ (.int .i64 x.1)).setCell ⟨wx.heap.size, 2, none⟩ (.int .i64 x.2) = w2 at *
            have hf0 : w2.cell? ⟨wx.heap.size, 0, none⟩ = some (.bool true) := FB.out.cell 0
            have hf1 : w2.cell? ⟨wx.heap.size, 1, none⟩ = some (.int .i64 x.1) := FB.out.cell 1
            have hf2 : w2.cell? ⟨wx.heap.size, 2, none⟩ = some (.int .i64 x.2) := FB.out.cell 2
            go_wp2_with (at_builtin; refine Hid.out ?_)
            delta Hid
            refine wpList_appT Try.underlying33 seen_info rfl (by omega) rfl _ _ rfl w.heap.size (.slice A' k cap') k (seenCells (walkFrom t.kvs p (moves.take k))) rfl (O2.out.alloc _) (some ⟨w2.heap.size, 0, none⟩) 1 1 (seenCells [some x]) rfl (src_blk (Blk.newAt rfl _ _) rfl) (seenCells_one _) (by omega) (by omega) (by have := Z2.out; simp; omega) ?_
            intro v1 w3 own3 gr3 _
            have b3 : Below w.heap.size w2 w3 := ((Below.refl w.heap.size w2).alloc Z2.out _).grown gr3 (by have := Z2.out; simp; omega) (fun k hk => (O2.out.lt k hk).1)
            rw [← seenCells_append, ← FS.out] at own3
            obtain ⟨A3, cap3, rfl, _, _⟩ := own_slice own3
            have i3 := I2.out.belowC b3 HC.out
            rw [← FP.out] at i3
            have F := Lib.hid (show _ ∧ _ ∧ _ from ⟨own3, i3, B2.out.trans (b3.mono hB)⟩)
            clear own3 gr3 b3 i3 O2 I2 B2 Z2
            go_wp2_with fail
            go_roundw
            case rel => exact ⟨k + 1, A3, cap3, by omega, by go_num, rfl, F.out.1, F.out.2.1, F.out.2.2⟩
            case measure => simp [intOf]; omega
        · rw [decide_eq_false CL0] at c
          have CL := Lib.hid CL0
          rw [show seenAt t.kvs (P - 1) = none by unfold seenAt; rw [if_pos (by have := CL.out; omega)]] at fs
          have FS := Lib.hid fs
          have C := Lib.hid c
          clear c h1 fs CL0
          go_wp2_with fail
          refine C.out.mono ?_
          rintro e wx ⟨rfl, h1, on1⟩
          have I1 := Lib.hid h1
          have O1 := Lib.hid (own_keep OW.out fun g hg hgl => on1.block g hgl (by simp only [List.mem_singleton]; intro e; have := HC.out.it; omega))
          have B1 := Lib.hid (BW.out.trans (on1.below (fun b hb => by simp only [List.mem_singleton] at hb; subst hb; exact HLO.out) (Nat.le_trans hB BW.out.size)))
          have Z1 := Lib.hid (Nat.le_trans hz.out on1.size)
          clear h1 on1
          have bel := Lib.hid (show Below wx.heap.size wx (wx.alloc (.cells #[.bool false, .int .i64 0, .int .i64 0] 67)) from (Below.refl _ _).alloc (Nat.le_refl _) _)
          have O2 := Lib.hid (own_below O1.out bel.out)
          have I2 := Lib.hid (I1.out.belowC (bel.out.mono Z1.out) HC.out)
          have B2 := Lib.hid (B1.out.trans (bel.out.mono (Nat.le_trans hB Z1.out)))
          have Z2 := Lib.hid (Nat.le_trans Z1.out bel.out.size)
          have HZZ := Lib.hid (show wx.heap.size + 1 = (wx.alloc (.cells #[.bool false, .int .i64 0, .int .i64 0] 67)).heap.size by simp)
          clear bel O1 I1 B1 Z1
          go_wp2_with (at_builtin; refine Hid.out ?_)
          delta Hid
          generalize wx.alloc (.cells #[.bool false, .int .i64 0, .int .i64 0] 67) = w2 at *
          refine wpList_appT Try.underlying33 seen_info rfl (by omega) rfl _ _ rfl w.heap.size (.slice A' k cap') k (seenCells (walkFrom t.kvs p (moves.take k))) rfl (O2.out.alloc _) (some ⟨wx.heap.size + 1, 0, none⟩) 1 1 (seenCells [none]) rfl (src_blk (Blk.newAt HZZ.out _ _) rfl) (seenCells_one _) (by omega) (by omega) (by have := Z2.out; simp; omega) ?_
          intro v1 w3 own3 gr3 _
          have b3 : Below w.heap.size w2 w3 := ((Below.refl w.heap.size w2).alloc Z2.out _).grown gr3 (by have := Z2.out; simp; omega) (fun k hk => (O2.out.lt k hk).1)
          rw [← seenCells_append, ← FS.out] at own3
          obtain ⟨A3, cap3, rfl, _, _⟩ := own_slice own3
          have i3 := I2.out.belowC b3 HC.out
          rw [← FP.out] at i3
          have F := Lib.hid (show _ ∧ _ ∧ _ from ⟨own3, i3, B2.out.trans (b3.mono hB)⟩)
          clear own3 gr3 b3 i3 O2 I2 B2 Z2
          go_wp2_with fail
          go_roundw
          case rel => exact ⟨k + 1, A3, cap3, by omega, by go_num, rfl, F.out.1, F.out.2.1, F.out.2.2⟩
          case measure => simp [intOf]; omega
      have n2 : ¬ d.op = 2 := h1
      clear h1
      by_cases h1 : d.op = 3
      · have e1 : mvPos t.kvs P d = 1 := by unfold mvPos; rw [if_neg (by omega), if_neg (by omega), if_pos h1]
        have e2 : mvSeen t.kvs P d = seenAt t.kvs (1) := by unfold mvSeen mvTell; rw [e1, h1]; simp
        have fp := FF.out.2
        have fs := FF.out.1
        rw [e1] at fp
        rw [e2] at fs
        have FP := Lib.hid fp
        have c := btiItFirst_walk IT0.out
        clear fp e1 e2
        rw [h1] at c0 MB IT0 OW BW hz c
        by_cases CL0 : 0 < t.count
        · rw [decide_eq_true CL0] at c
          have hqb : 0 < t.count := by exact CL0
          obtain ⟨x, hx⟩ : ∃ x, t.kvs[0]? = some x := ⟨_, List.getElem?_eq_getElem (by rw [KL.out]; exact hqb)⟩
          have CL := Lib.hid CL0
          rw [show seenAt t.kvs (1) = some x by unfold seenAt; rw [if_neg (by have := CL.out; omega)]; rw [show 1 - 1 = 0 by have := CL.out; omega]; exact hx] at fs
          have FS := Lib.hid fs
          have X := Lib.hid hx
          have C := Lib.hid c
          clear c hx h1 fs hqb CL0
          go_wp2_with fail
          refine C.out.mono ?_
          rintro e wx ⟨rfl, h1, on1⟩
          rw [show 1 = 0 + 1 from rfl] at h1
          obtain ⟨q, hq⟩ : ∃ q, q = 0 := ⟨_, rfl⟩
          rw [← hq] at h1 X
          have I1 := Lib.hid h1
          have FPq := Lib.hid (show goFrom t.kvs p (moves.take (k + 1)) = q + 1 by first | (rw [FP.out, hq]; done) | (rw [FP.out, hq]; have := CL.out; omega))
          have FP := Lib.hid FPq.out
          clear FPq hq
          have O1 := Lib.hid (own_keep OW.out fun g hg hgl => on1.block g hgl (by simp only [List.mem_singleton]; intro e; have := HC.out.it; omega))
          have B1 := Lib.hid (BW.out.trans (on1.below (fun b hb => by simp only [List.mem_singleton] at hb; subst hb; exact HLO.out) (Nat.le_trans hB BW.out.size)))
          have Z1 := Lib.hid (Nat.le_trans hz.out on1.size)
          clear h1 on1
          have IA := Lib.hid (I1.out.belowC ((Below.refl w.heap.size wx).alloc Z1.out (.cells #[.bool true, .int .i64 0, .int .i64 0] 67)) HC.out)
          have K1 := Lib.hid (btiItKey_walk (BtIt.drewN IA.out 1) (show t.kvs[q]? = some (x.1, x.2) from X.out))
          have V1 := Lib.hid (btiItValue_walk (BtIt.drewN IA.out 1) (show t.kvs[q]? = some (x.1, x.2) from X.out))
          have bel := Lib.hid (show Below wx.heap.size wx ((((wx.alloc (.cells #[.bool true, .int .i64 0, .int .i64 0] 67)).drewN 1).setCell ⟨wx.heap.size, 1, none⟩ (.int .i64 x.1)).setCell ⟨wx.heap.size, 2, none⟩ (.int .i64 x.2)) from ((Below.drewN' ((Below.refl _ _).alloc (Nat.le_refl _) _) 1).setCell (p := ⟨wx.heap.size, 1, none⟩) (Nat.le_refl _) _).setCell (p := ⟨wx.heap.size, 2, none⟩) (Nat.le_refl _) _)
          have O2 := Lib.hid (own_below O1.out bel.out)
          have I2 := Lib.hid (I1.out.belowC (bel.out.mono Z1.out) HC.out)
          have B2 := Lib.hid (B1.out.trans (bel.out.mono (Nat.le_trans hB Z1.out)))
          have Z2 := Lib.hid (Nat.le_trans Z1.out bel.out.size)
          have FB := Lib.hid (show Blk ((((wx.alloc (.cells #[.bool true, .int .i64 0, .int .i64 0] 67)).drewN 1).setCell ⟨wx.heap.size, 1, none⟩ (.int .i64 x.1)).setCell ⟨wx.heap.size, 2, none⟩ (.int .i64 x.2)) wx.heap.size 67 #[.bool true, .int .i64 x.1, .int .i64 x.2] from Blk.set_ (Blk.set_ (show Blk ((wx.alloc (.cells #[.bool true, .int .i64 0, .int .i64 0] 67)).drewN 1) wx.heap.size 67 #[.bool true, .int .i64 0, .int .i64 0] from Blk.new wx _ _) 1 (.int .i64 x.1)) 2 (.int .i64 x.2))
          go_wp2_with fail
          go_region_with (first
            | (go_at_call 101; refine K1.out.mono ?_; rintro e wz ⟨rfl, rfl⟩)
            | (go_at_call 104; refine V1.out.mono ?_; rintro e wz ⟨rfl, rfl⟩))
          all_goals
            clear K1 V1 IA bel O1 I1 B1 Z1
            generalize (((wx.alloc (.cells #[.bool true, .int .i64 0, .int .i64 0] 67)).drewN 1).setCell ⟨wx.heap.size, 1, none⟩ (.int .i64 x.1)).setCell ⟨wx.heap.size, 2, none⟩ (.int .i64 x.2) = w2 at *
            have hf0 : w2.cell? ⟨wx.heap.size, 0, none⟩ = some (.bool true) := FB.out.cell 0
            have hf1 : w2.cell? ⟨wx.heap.size, 1, none⟩ = some (.int .i64 x.1) := FB.out.cell 1
            have hf2 : w2.cell? ⟨wx.heap.size, 2, none⟩ = some (.int .i64 x.2) := FB.out.cell 2
            go_wp2_with (at_builtin; refine Hid.out ?_)
            delta Hid
            refine wpList_appT Try.underlying33 seen_info rfl (by omega) rfl _ _ rfl w.heap.size (.slice A' k cap') k (seenCells (walkFrom t.kvs p (moves.take k))) rfl (O2.out.alloc _) (some ⟨w2.heap.size, 0, none⟩) 1 1 (seenCells [some x]) rfl (src_blk (Blk.newAt rfl _ _) rfl) (seenCells_one _) (by omega) (by omega) (by have := Z2.out; simp; omega) ?_
            intro v1 w3 own3 gr3 _
            have b3 : Below w.heap.size w2 w3 := ((Below.refl w.heap.size w2).alloc Z2.out _).grown gr3 (by have := Z2.out; simp; omega) (fun k hk => (O2.out.lt k hk).1)
            rw [← seenCells_append, ← FS.out] at own3
            obtain ⟨A3, cap3, rfl, _, _⟩ := own_slice own3
            have i3 := I2.out.belowC b3 HC.out
            rw [← FP.out] at i3
            have F := Lib.hid (show _ ∧ _ ∧ _ from ⟨own3, i3, B2.out.trans (b3.mono hB)⟩)
            clear own3 gr3 b3 i3 O2 I2 B2 Z2
            go_wp2_with fail
            go_roundw
            case rel => exact ⟨k + 1, A3, cap3, by omega, by go_num, rfl, F.out.1, F.out.2.1, F.out.2.2⟩
            case measure => simp [intOf]; omega
        · rw [decide_eq_false CL0] at c
          have CL := Lib.hid CL0
          rw [show seenAt t.kvs (1) = none by unfold seenAt; rw [if_neg (by omega)]; exact List.getElem?_eq_none (by rw [KL.out]; have := CL.out; omega)] at fs
          have FS := Lib.hid fs
          have C := Lib.hid c
          clear c h1 fs CL0
          go_wp2_with fail
          refine C.out.mono ?_
          rintro e wx ⟨rfl, h1, on1⟩
          have I1 := Lib.hid h1
          have O1 := Lib.hid (own_keep OW.out fun g hg hgl => on1.block g hgl (by simp only [List.mem_singleton]; intro e; have := HC.out.it; omega))
          have B1 := Lib.hid (BW.out.trans (on1.below (fun b hb => by simp only [List.mem_singleton] at hb; subst hb; exact HLO.out) (Nat.le_trans hB BW.out.size)))
          have Z1 := Lib.hid (Nat.le_trans hz.out on1.size)
          clear h1 on1
          have bel := Lib.hid (show Below wx.heap.size wx (wx.alloc (.cells #[.bool false, .int .i64 0, .int .i64 0] 67)) from (Below.refl _ _).alloc (Nat.le_refl _) _)
          have O2 := Lib.hid (own_below O1.out bel.out)
          have I2 := Lib.hid (I1.out.belowC (bel.out.mono Z1.out) HC.out)
          have B2 := Lib.hid (B1.out.trans (bel.out.mono (Nat.le_trans hB Z1.out)))
          have Z2 := Lib.hid (Nat.le_trans Z1.out bel.out.size)
          have HZZ := Lib.hid (show wx.heap.size + 1 = (wx.alloc (.cells #[.bool false, .int .i64 0, .int .i64 0] 67)).heap.size by simp)
          clear bel O1 I1 B1 Z1
          go_wp2_with (at_builtin; refine Hid.out ?_)
          delta Hid
          generalize wx.alloc (.cells #[.bool false, .int .i64 0, .int .i64 0] 67) = w2 at *
          refine wpList_appT Try.underlying33 seen_info rfl (by omega) rfl _ _ rfl w.heap.size (.slice A' k cap') k (seenCells (walkFrom t.kvs p (moves.take k))) rfl (O2.out.alloc _) (some ⟨wx.heap.size + 1, 0, none⟩) 1 1 (seenCells [none]) rfl (src_blk (Blk.newAt HZZ.out _ _) rfl) (seenCells_one _) (by omega) (by omega) (by have := Z2.out; simp; omega) ?_
          intro v1 w3 own3 gr3 _
          have b3 : Below w.heap.size w2 w3 := ((Below.refl w.heap.size w2).alloc Z2.out _).grown gr3 (by have := Z2.out; simp; omega) (fun k hk => (O2.out.lt k hk).1)
          rw [← seenCells_append, ← FS.out] at own3
          obtain ⟨A3, cap3, rfl, _, _⟩ := own_slice own3
          have i3 := I2.out.belowC b3 HC.out
          rw [← FP.out] at i3
          have F := Lib.hid (show _ ∧ _ ∧ _ from ⟨own3, i3, B2.out.trans (b3.mono hB)⟩)
          clear own3 gr3 b3 i3 O2 I2 B2 Z2
          go_wp2_with fail
          go_roundw
          case rel => exact ⟨k + 1, A3, cap3, by omega, by go_num, rfl, F.out.1, F.out.2.1, F.out.2.2⟩
          case measure => simp [intOf]; omega
      have n3 : ¬ d.op = 3 := h1
      clear h1
      by_cases h1 : d.op = 4
      · have e1 : mvPos t.kvs P d = t.count := by unfold mvPos; rw [if_neg (by omega), if_neg (by omega), if_neg (by omega), if_pos h1, KL.out]
        have e2 : mvSeen t.kvs P d = seenAt t.kvs (t.count) := by unfold mvSeen mvTell; rw [e1, h1]; simp
        have fp := FF.out.2
        have fs := FF.out.1
        rw [e1] at fp
        rw [e2] at fs
        have FP := Lib.hid fp
        have c := btiItLast_walk IT0.out
        clear fp e1 e2
        rw [h1] at c0 MB IT0 OW BW hz c
        by_cases CL0 : 0 < t.count
        · rw [decide_eq_true CL0] at c
          have hqb : (t.count - 1) < t.count := by omega
          obtain ⟨x, hx⟩ : ∃ x, t.kvs[(t.count - 1)]? = some x := ⟨_, List.getElem?_eq_getElem (by rw [KL.out]; exact hqb)⟩
          have CL := Lib.hid CL0
          rw [show seenAt t.kvs (t.count) = some x by unfold seenAt; rw [if_neg (by have := CL.out; omega)]; rw [show t.count - 1 = (t.count - 1) by have := CL.out; omega]; exact hx] at fs
          have FS := Lib.hid fs
          have X := Lib.hid hx
          have C := Lib.hid c
          clear c hx h1 fs hqb CL0
          go_wp2_with fail
          refine C.out.mono ?_
          rintro e wx ⟨rfl, h1, on1⟩
          rw [show t.count = t.count - 1 + 1 by have := CL.out; omega] at h1
          obtain ⟨q, hq⟩ : ∃ q, q = (t.count - 1) := ⟨_, rfl⟩
          rw [← hq] at h1 X
          have I1 := Lib.hid h1
          have FPq := Lib.hid (show goFrom t.kvs p (moves.take (k + 1)) = q + 1 by first | (rw [FP.out, hq]; done) | (rw [FP.out, hq]; have := CL.out; omega))
          have FP := Lib.hid FPq.out
          clear FPq hq
          have O1 := Lib.hid (own_keep OW.out fun g hg hgl => on1.block g hgl (by simp only [List.mem_singleton]; intro e; have := HC.out.it; omega))
          have B1 := Lib.hid (BW.out.trans (on1.below (fun b hb => by simp only [List.mem_singleton] at hb; subst hb; exact HLO.out) (Nat.le_trans hB BW.out.size)))
          have Z1 := Lib.hid (Nat.le_trans hz.out on1.size)
          clear h1 on1
          have IA := Lib.hid (I1.out.belowC ((Below.refl w.heap.size wx).alloc Z1.out (.cells #[.bool true, .int .i64 0, .int .i64 0] 67)) HC.out)
          have K1 := Lib.hid (btiItKey_walk (BtIt.drewN IA.out 1) (show t.kvs[q]? = some (x.1, x.2) from X.out))
          have V1 := Lib.hid (btiItValue_walk (BtIt.drewN IA.out 1) (show t.kvs[q]? = some (x.1, x.2) from X.out))
          have bel := Lib.hid (show Below wx.heap.size wx ((((wx.alloc (.cells #[.bool true, .int .i64 0, .int .i64 0] 67)).drewN 1).setCell ⟨wx.heap.size, 1, none⟩ (.int .i64 x.1)).setCell ⟨wx.heap.size, 2, none⟩ (.int .i64 x.2)) from ((Below.drewN' ((Below.refl _ _).alloc (Nat.le_refl _) _) 1).setCell (p := ⟨wx.heap.size, 1, none⟩) (Nat.le_refl _) _).setCell (p := ⟨wx.heap.size, 2, none⟩) (Nat.le_refl _) _)
          have O2 := Lib.hid (own_below O1.out bel.out)
          have I2 := Lib.hid (I1.out.belowC (bel.out.mono Z1.out) HC.out)
          have B2 := Lib.hid (B1.out.trans (bel.out.mono (Nat.le_trans hB Z1.out)))
          have Z2 := Lib.hid (Nat.le_trans Z1.out bel.out.size)
          have FB := Lib.hid (show Blk ((((wx.alloc (.cells #[.bool true, .int .i64 0, .int .i64 0] 67)).drewN 1).setCell ⟨wx.heap.size, 1, none⟩ (.int .i64 x.1)).setCell ⟨wx.heap.size, 2, none⟩ (.int .i64 x.2)) wx.heap.size 67 #[.bool true, .int .i64 x.1, .int .i64 x.2] from Blk.set_ (Blk.set_ (show Blk ((wx.alloc (.cells #[.bool true, .int .i64 0, .int .i64 0] 67)).drewN 1) wx.heap.size 67 #[.bool true, .int .i64 0, .int .i64 0] from Blk.new wx _ _) 1 (.int .i64 x.1)) 2 (.int .i64 x.2))
          go_wp2_with fail
          go_region_with (first
            | (go_at_call 101; refine K1.out.mono ?_; rintro e wz ⟨rfl, rfl⟩)
            | (go_at_call 104; refine V1.out.mono ?_; rintro e wz ⟨rfl, rfl⟩))
          all_goals
            clear K1 V1 IA bel O1 I1 B1 Z1
            generalize (((wx.alloc (.cells #[.bool true, .int .i64 0, .int .i64 0] 67)).drewN 1).setCell ⟨wx.heap.size, 1, none⟩ (.int .i64 x.1)).setCell ⟨wx.heap.size, 2, none⟩ (.int .i64 x.2) = w2 at *
            have hf0 : w2.cell? ⟨wx.heap.size, 0, none⟩ = some (.bool true) := FB.out.cell 0
            have hf1 : w2.cell? ⟨wx.heap.size, 1, none⟩ = some (.int .i64 x.1) := FB.out.cell 1
            have hf2 : w2.cell? ⟨wx.heap.size, 2, none⟩ = some (.int .i64 x.2) := FB.out.cell 2
            go_wp2_with (at_builtin; refine Hid.out ?_)
            delta Hid
            refine wpList_appT Try.underlying33 seen_info rfl (by omega) rfl _ _ rfl w.heap.size (.slice A' k cap') k (seenCells (walkFrom t.kvs p (moves.take k))) rfl (O2.out.alloc _) (some ⟨w2.heap.size, 0, none⟩) 1 1 (seenCells [some x]) rfl (src_blk (Blk.newAt rfl _ _) rfl) (seenCells_one _) (by omega) (by omega) (by have := Z2.out; simp; omega) ?_
            intro v1 w3 own3 gr3 _
            have b3 : Below w.heap.size w2 w3 := ((Below.refl w.heap.size w2).alloc Z2.out _).grown gr3 (by have := Z2.out; simp; omega) (fun k hk => (O2.out.lt k hk).1)
            rw [← seenCells_append, ← FS.out] at own3
            obtain ⟨A3, cap3, rfl, _, _⟩ := own_slice own3
            have i3 := I2.out.belowC b3 HC.out
            rw [← FP.out] at i3
            have F := Lib.hid (show _ ∧ _ ∧ _ from ⟨own3, i3, B2.out.trans (b3.mono hB)⟩)
            clear own3 gr3 b3 i3 O2 I2 B2 Z2
            go_wp2_with fail
            go_roundw
            case rel => exact ⟨k + 1, A3, cap3, by omega, by go_num, rfl, F.out.1, F.out.2.1, F.out.2.2⟩
            case measure => simp [intOf]; omega
        · rw [decide_eq_false CL0] at c
          have CL := Lib.hid CL0
          rw [show seenAt t.kvs (t.count) = none by unfold seenAt; rw [if_pos (by have := CL.out; omega)]] at fs
          have FS := Lib.hid fs
          have C := Lib.hid c
          clear c h1 fs CL0
          go_wp2_with fail
          refine C.out.mono ?_
          rintro e wx ⟨rfl, h1, on1⟩
          have I1 := Lib.hid h1
          have O1 := Lib.hid (own_keep OW.out fun g hg hgl => on1.block g hgl (by simp only [List.mem_singleton]; intro e; have := HC.out.it; omega))
          have B1 := Lib.hid (BW.out.trans (on1.below (fun b hb => by simp only [List.mem_singleton] at hb; subst hb; exact HLO.out) (Nat.le_trans hB BW.out.size)))
          have Z1 := Lib.hid (Nat.le_trans hz.out on1.size)
          clear h1 on1
          have bel := Lib.hid (show Below wx.heap.size wx (wx.alloc (.cells #[.bool false, .int .i64 0, .int .i64 0] 67)) from (Below.refl _ _).alloc (Nat.le_refl _) _)
          have O2 := Lib.hid (own_below O1.out bel.out)
          have I2 := Lib.hid (I1.out.belowC (bel.out.mono Z1.out) HC.out)
          have B2 := Lib.hid (B1.out.trans (bel.out.mono (Nat.le_trans hB Z1.out)))
          have Z2 := Lib.hid (Nat.le_trans Z1.out bel.out.size)
          have HZZ := Lib.hid (show wx.heap.size + 1 = (wx.alloc (.cells #[.bool false, .int .i64 0, .int .i64 0] 67)).heap.size by simp)
          clear bel O1 I1 B1 Z1
          go_wp2_with (at_builtin; refine Hid.out ?_)
          delta Hid
          generalize wx.alloc (.cells #[.bool false, .int .i64 0, .int .i64 0] 67) = w2 at *
          refine wpList_appT Try.underlying33 seen_info rfl (by omega) rfl _ _ rfl w.heap.size (.slice A' k cap') k (seenCells (walkFrom t.kvs p (moves.take k))) rfl (O2.out.alloc _) (some ⟨wx.heap.size + 1, 0, none⟩) 1 1 (seenCells [none]) rfl (src_blk (Blk.newAt HZZ.out _ _) rfl) (seenCells_one _) (by omega) (by omega) (by have := Z2.out; simp; omega) ?_
          intro v1 w3 own3 gr3 _
          have b3 : Below w.heap.size w2 w3 := ((Below.refl w.heap.size w2).alloc Z2.out _).grown gr3 (by have := Z2.out; simp; omega) (fun k hk => (O2.out.lt k hk).1)
          rw [← seenCells_append, ← FS.out] at own3
          obtain ⟨A3, cap3, rfl, _, _⟩ := own_slice own3
          have i3 := I2.out.belowC b3 HC.out
          rw [← FP.out] at i3
          have F := Lib.hid (show _ ∧ _ ∧ _ from ⟨own3, i3, B2.out.trans (b3.mono hB)⟩)
          clear own3 gr3 b3 i3 O2 I2 B2 Z2
          go_wp2_with fail
          go_roundw
          case rel => exact ⟨k + 1, A3, cap3, by omega, by go_num, rfl, F.out.1, F.out.2.1, F.out.2.2⟩
          case measure => simp [intOf]; omega
      have n4 : ¬ d.op = 4 := h1
      clear h1
      by_cases h1 : d.op = 5
      · have e1 : mvPos t.kvs P d = 0 := by unfold mvPos; rw [if_neg (by omega), if_neg (by omega), if_neg (by omega), if_neg (by omega), if_pos h1]
        have e2 : mvSeen t.kvs P d = none := by unfold mvSeen mvTell; rw [h1]; simp
        have fp := FF.out.2
        have fs := FF.out.1
        rw [e1] at fp
        rw [e2] at fs
        have FP := Lib.hid fp
        have FS := Lib.hid fs
        have c := btiItBegin_walk IT0.out
        clear fp fs e1 e2
        rw [h1] at c0 MB IT0 OW BW hz c
        have C := Lib.hid c
        clear c h1
        go_wp2_with fail
        refine C.out.mono ?_
        rintro e wx ⟨rfl, h1, on1⟩
        have I1 := Lib.hid h1
        have O1 := Lib.hid (own_keep OW.out fun g hg hgl => on1.block g hgl (by simp only [List.mem_singleton]; intro e; have := HC.out.it; omega))
        have B1 := Lib.hid (BW.out.trans (on1.below (fun b hb => by simp only [List.mem_singleton] at hb; subst hb; exact HLO.out) (Nat.le_trans hB BW.out.size)))
        have Z1 := Lib.hid (Nat.le_trans hz.out on1.size)
        clear h1 on1
        have bel := Lib.hid (show Below wx.heap.size wx (wx.alloc (.cells #[.bool false, .int .i64 0, .int .i64 0] 67)) from (Below.refl _ _).alloc (Nat.le_refl _) _)
        have O2 := Lib.hid (own_below O1.out bel.out)
        have I2 := Lib.hid (I1.out.belowC (bel.out.mono Z1.out) HC.out)
        have B2 := Lib.hid (B1.out.trans (bel.out.mono (Nat.le_trans hB Z1.out)))
        have Z2 := Lib.hid (Nat.le_trans Z1.out bel.out.size)
        have HZZ := Lib.hid (show wx.heap.size + 1 = (wx.alloc (.cells #[.bool false, .int .i64 0, .int .i64 0] 67)).heap.size by simp)
        clear bel O1 I1 B1 Z1
        go_wp2_with (at_builtin; refine Hid.out ?_)
        delta Hid
        generalize wx.alloc (.cells #[.bool false, .int .i64 0, .int .i64 0] 67) = w2 at *
        refine wpList_appT Try.underlying33 seen_info rfl (by omega) rfl _ _ rfl w.heap.size (.slice A' k cap') k (seenCells (walkFrom t.kvs p (moves.take k))) rfl (O2.out.alloc _) (some ⟨wx.heap.size + 1, 0, none⟩) 1 1 (seenCells [none]) rfl (src_blk (Blk.newAt HZZ.out _ _) rfl) (seenCells_one _) (by omega) (by omega) (by have := Z2.out; simp; omega) ?_
        intro v1 w3 own3 gr3 _
        have b3 : Below w.heap.size w2 w3 := ((Below.refl w.heap.size w2).alloc Z2.out _).grown gr3 (by have := Z2.out; simp; omega) (fun k hk => (O2.out.lt k hk).1)
        rw [← seenCells_append, ← FS.out] at own3
        obtain ⟨A3, cap3, rfl, _, _⟩ := own_slice own3
        have i3 := I2.out.belowC b3 HC.out
        rw [← FP.out] at i3
        have F := Lib.hid (show _ ∧ _ ∧ _ from ⟨own3, i3, B2.out.trans (b3.mono hB)⟩)
        clear own3 gr3 b3 i3 O2 I2 B2 Z2
        go_wp2_with fail
        go_roundw
        case rel => exact ⟨k + 1, A3, cap3, by omega, by go_num, rfl, F.out.1, F.out.2.1, F.out.2.2⟩
        case measure => simp [intOf]; omega
      have n5 : ¬ d.op = 5 := h1
      clear h1
      by_cases h1 : d.op = 6
      · have e1 : mvPos t.kvs P d = t.count + 1 := by unfold mvPos; rw [if_neg (by omega), if_neg (by omega), if_neg (by omega), if_neg (by omega), if_neg (by omega), if_pos h1, KL.out]
        have e2 : mvSeen t.kvs P d = none := by unfold mvSeen mvTell; rw [h1]; simp
        have fp := FF.out.2
        have fs := FF.out.1
        rw [e1] at fp
        rw [e2] at fs
        have FP := Lib.hid fp
        have FS := Lib.hid fs
        have c := btiItEnd_walk IT0.out
        clear fp fs e1 e2
        rw [h1] at c0 MB IT0 OW BW hz c
        have C := Lib.hid c
        clear c h1
        go_wp2_with fail
        refine C.out.mono ?_
        rintro e wx ⟨rfl, h1, on1⟩
        have I1 := Lib.hid h1
        have O1 := Lib.hid (own_keep OW.out fun g hg hgl => on1.block g hgl (by simp only [List.mem_singleton]; intro e; have := HC.out.it; omega))
        have B1 := Lib.hid (BW.out.trans (on1.below (fun b hb => by simp only [List.mem_singleton] at hb; subst hb; exact HLO.out) (Nat.le_trans hB BW.out.size)))
        have Z1 := Lib.hid (Nat.le_trans hz.out on1.size)
        clear h1 on1
        have bel := Lib.hid (show Below wx.heap.size wx (wx.alloc (.cells #[.bool false, .int .i64 0, .int .i64 0] 67)) from (Below.refl _ _).alloc (Nat.le_refl _) _)
        have O2 := Lib.hid (own_below O1.out bel.out)
        have I2 := Lib.hid (I1.out.belowC (bel.out.mono Z1.out) HC.out)
        have B2 := Lib.hid (B1.out.trans (bel.out.mono (Nat.le_trans hB Z1.out)))
        have Z2 := Lib.hid (Nat.le_trans Z1.out bel.out.size)
        have HZZ := Lib.hid (show wx.heap.size + 1 = (wx.alloc (.cells #[.bool false, .int .i64 0, .int .i64 0] 67)).heap.size by simp)
        clear bel O1 I1 B1 Z1
        go_wp2_with (at_builtin; refine Hid.out ?_)
        delta Hid
        generalize wx.alloc (.cells #[.bool false, .int .i64 0, .int .i64 0] 67) = w2 at *
        refine wpList_appT Try.underlying33 seen_info rfl (by omega) rfl _ _ rfl w.heap.size (.slice A' k cap') k (seenCells (walkFrom t.kvs p (moves.take k))) rfl (O2.out.alloc _) (some ⟨wx.heap.size + 1, 0, none⟩) 1 1 (seenCells [none]) rfl (src_blk (Blk.newAt HZZ.out _ _) rfl) (seenCells_one _) (by omega) (by omega) (by have := Z2.out; simp; omega) ?_
        intro v1 w3 own3 gr3 _
        have b3 : Below w.heap.size w2 w3 := ((Below.refl w.heap.size w2).alloc Z2.out _).grown gr3 (by have := Z2.out; simp; omega) (fun k hk => (O2.out.lt k hk).1)
        rw [← seenCells_append, ← FS.out] at own3
        obtain ⟨A3, cap3, rfl, _, _⟩ := own_slice own3
        have i3 := I2.out.belowC b3 HC.out
        rw [← FP.out] at i3
        have F := Lib.hid (show _ ∧ _ ∧ _ from ⟨own3, i3, B2.out.trans (b3.mono hB)⟩)
        clear own3 gr3 b3 i3 O2 I2 B2 Z2
        go_wp2_with fail
        go_roundw
        case rel => exact ⟨k + 1, A3, cap3, by omega, by go_num, rfl, F.out.1, F.out.2.1, F.out.2.2⟩
        case measure => simp [intOf]; omega
      have n6 : ¬ d.op = 6 := h1
      clear h1
      by_cases h1 : d.op = 7
      · have e1 : mvPos t.kvs P d = up d t.kvs (min P t.count) + 1 := by unfold mvPos; rw [if_neg (by omega), if_neg (by omega), if_neg (by omega), if_neg (by omega), if_neg (by omega), if_neg (by omega), if_pos h1, KL.out]
        have e2 : mvSeen t.kvs P d = seenAt t.kvs (up d t.kvs (min P t.count) + 1) := by unfold mvSeen mvTell; rw [e1, h1]; simp
        have fp := FF.out.2
        have fs := FF.out.1
        rw [e1] at fp
        rw [e2] at fs
        have FP := Lib.hid fp
        have c := btiItNextTo_walk IT0.out d wr.heap.size (OKD.out (.inl h1)).1 (OKD.out (.inl h1)).2 MB.out MN.out
        clear fp e1 e2
        rw [h1] at c0 MB IT0 OW BW hz c
        by_cases CL0 : up d t.kvs (min P t.count) < t.count
        · rw [decide_eq_true CL0] at c
          have hqb : (up d t.kvs (min P t.count)) < t.count := by exact CL0
          obtain ⟨x, hx⟩ : ∃ x, t.kvs[(up d t.kvs (min P t.count))]? = some x := ⟨_, List.getElem?_eq_getElem (by rw [KL.out]; exact hqb)⟩
          have CL := Lib.hid CL0
          rw [show seenAt t.kvs (up d t.kvs (min P t.count) + 1) = some x by unfold seenAt; rw [if_neg (by have := CL.out; omega)]; rw [show up d t.kvs (min P t.count) + 1 - 1 = (up d t.kvs (min P t.count)) by have := CL.out; omega]; exact hx] at fs
          have FS := Lib.hid fs
          have X := Lib.hid hx
          have C := Lib.hid c
          clear c hx h1 fs hqb CL0
          go_wp2_with fail
          refine C.out.mono ?_
          rintro e wx ⟨rfl, h1, on1⟩
          obtain ⟨q, hq⟩ : ∃ q, q = (up d t.kvs (min P t.count)) := ⟨_, rfl⟩
          rw [← hq] at h1 X
          have I1 := Lib.hid h1
          have FPq := Lib.hid (show goFrom t.kvs p (moves.take (k + 1)) = q + 1 by first | (rw [FP.out, hq]; done) | (rw [FP.out, hq]; have := CL.out; omega))
          have FP := Lib.hid FPq.out
          clear FPq hq
          have O1 := Lib.hid (own_keep OW.out fun g hg hgl => on1.block g hgl (by simp only [List.mem_singleton]; intro e; have := HC.out.it; omega))
          have B1 := Lib.hid (BW.out.trans (on1.below (fun b hb => by simp only [List.mem_singleton] at hb; subst hb; exact HLO.out) (Nat.le_trans hB BW.out.size)))
          have Z1 := Lib.hid (Nat.le_trans hz.out on1.size)
          clear h1 on1
          have IA := Lib.hid (I1.out.belowC ((Below.refl w.heap.size wx).alloc Z1.out (.cells #[.bool true, .int .i64 0, .int .i64 0] 67)) HC.out)
          have K1 := Lib.hid (btiItKey_walk (BtIt.drewN IA.out 1) (show t.kvs[q]? = some (x.1, x.2) from X.out))
          have V1 := Lib.hid (btiItValue_walk (BtIt.drewN IA.out 1) (show t.kvs[q]? = some (x.1, x.2) from X.out))
          have bel := Lib.hid (show Below wx.heap.size wx ((((wx.alloc (.cells #[.bool true, .int .i64 0, .int .i64 0] 67)).drewN 1).setCell ⟨wx.heap.size, 1, none⟩ (.int .i64 x.1)).setCell ⟨wx.heap.size, 2, none⟩ (.int .i64 x.2)) from ((Below.drewN' ((Below.refl _ _).alloc (Nat.le_refl _) _) 1).setCell (p := ⟨wx.heap.size, 1, none⟩) (Nat.le_refl _) _).setCell (p := ⟨wx.heap.size, 2, none⟩) (Nat.le_refl _) _)
          have O2 := Lib.hid (own_below O1.out bel.out)
          have I2 := Lib.hid (I1.out.belowC (bel.out.mono Z1.out) HC.out)
          have B2 := Lib.hid (B1.out.trans (bel.out.mono (Nat.le_trans hB Z1.out)))
          have Z2 := Lib.hid (Nat.le_trans Z1.out bel.out.size)
          have FB := Lib.hid (show Blk ((((wx.alloc (.cells #[.bool true, .int .i64 0, .int .i64 0] 67)).drewN 1).setCell ⟨wx.heap.size, 1, none⟩ (.int .i64 x.1)).setCell ⟨wx.heap.size, 2, none⟩ (.int .i64 x.2)) wx.heap.size 67 #[.bool true, .int .i64 x.1, .int .i64 x.2] from Blk.set_ (Blk.set_ (show Blk ((wx.alloc (.cells #[.bool true, .int .i64 0, .int .i64 0] 67)).drewN 1) wx.heap.size 67 #[.bool true, .int .i64 0, .int .i64 0] from Blk.new wx _ _) 1 (.int .i64 x.1)) 2 (.int .i64 x.2))
          go_wp2_with fail
          go_region_with (first
            | (go_at_call 101; refine K1.out.mono ?_; rintro e wz ⟨rfl, rfl⟩)
            | (go_at_call 104; refine V1.out.mono ?_; rintro e wz ⟨rfl, rfl⟩))
          all_goals
            clear K1 V1 IA bel O1 I1 B1 Z1
            generalize (((wx.alloc (.cells #[.bool true, .int .i64 0, .int .i64 0] 67)).drewN 1).setCell ⟨wx.heap.size, 1, none⟩ (.int .i64 x.1)).setCell ⟨wx.heap.size, 2, none⟩ (.int .i64 x.2) = w2 at *
            have hf0 : w2.cell? ⟨wx.heap.size, 0, none⟩ = some (.bool true) := FB.out.cell 0
            have hf1 : w2.cell? ⟨wx.heap.size, 1, none⟩ = some (.int .i64 x.1) := FB.out.cell 1
            have hf2 : w2.cell? ⟨wx.heap.size, 2, none⟩ = some (.int .i64 x.2) := FB.out.cell 2
            go_wp2_with (at_builtin; refine Hid.out ?_)
            delta Hid
            refine wpList_appT Try.underlying33 seen_info rfl (by omega) rfl _ _ rfl w.heap.size (.slice A' k cap') k (seenCells (walkFrom t.kvs p (moves.take k))) rfl (O2.out.alloc _) (some ⟨w2.heap.size, 0, none⟩) 1 1 (seenCells [some x]) rfl (src_blk (Blk.newAt rfl _ _) rfl) (seenCells_one _) (by omega) (by omega) (by have := Z2.out; simp; omega) ?_
            intro v1 w3 own3 gr3 _
            have b3 : Below w.heap.size w2 w3 := ((Below.refl w.heap.size w2).alloc Z2.out _).grown gr3 (by have := Z2.out; simp; omega) (fun k hk => (O2.out.lt k hk).1)
            rw [← seenCells_append, ← FS.out] at own3
            obtain ⟨A3, cap3, rfl, _, _⟩ := own_slice own3
            have i3 := I2.out.belowC b3 HC.out
            rw [← FP.out] at i3
            have F := Lib.hid (show _ ∧ _ ∧ _ from ⟨own3, i3, B2.out.trans (b3.mono hB)⟩)
            clear own3 gr3 b3 i3 O2 I2 B2 Z2
            go_wp2_with fail
            go_roundw
            case rel => exact ⟨k + 1, A3, cap3, by omega, by go_num, rfl, F.out.1, F.out.2.1, F.out.2.2⟩
            case measure => simp [intOf]; omega
        · rw [decide_eq_false CL0] at c
          have CL := Lib.hid CL0
          rw [show seenAt t.kvs (up d t.kvs (min P t.count) + 1) = none by unfold seenAt; rw [if_neg (by omega)]; exact List.getElem?_eq_none (by rw [KL.out]; have := CL.out; omega)] at fs
          have FS := Lib.hid fs
          have C := Lib.hid c
          clear c h1 fs CL0
          go_wp2_with fail
          refine C.out.mono ?_
          rintro e wx ⟨rfl, h1, on1⟩
          have I1 := Lib.hid h1
          have O1 := Lib.hid (own_keep OW.out fun g hg hgl => on1.block g hgl (by simp only [List.mem_singleton]; intro e; have := HC.out.it; omega))
          have B1 := Lib.hid (BW.out.trans (on1.below (fun b hb => by simp only [List.mem_singleton] at hb; subst hb; exact HLO.out) (Nat.le_trans hB BW.out.size)))
          have Z1 := Lib.hid (Nat.le_trans hz.out on1.size)
          clear h1 on1
          have bel := Lib.hid (show Below wx.heap.size wx (wx.alloc (.cells #[.bool false, .int .i64 0, .int .i64 0] 67)) from (Below.refl _ _).alloc (Nat.le_refl _) _)
          have O2 := Lib.hid (own_below O1.out bel.out)
          have I2 := Lib.hid (I1.out.belowC (bel.out.mono Z1.out) HC.out)
          have B2 := Lib.hid (B1.out.trans (bel.out.mono (Nat.le_trans hB Z1.out)))
          have Z2 := Lib.hid (Nat.le_trans Z1.out bel.out.size)
          have HZZ := Lib.hid (show wx.heap.size + 1 = (wx.alloc (.cells #[.bool false, .int .i64 0, .int .i64 0] 67)).heap.size by simp)
          clear bel O1 I1 B1 Z1
          go_wp2_with (at_builtin; refine Hid.out ?_)
          delta Hid
          generalize wx.alloc (.cells #[.bool false, .int .i64 0, .int .i64 0] 67) = w2 at *
          refine wpList_appT Try.underlying33 seen_info rfl (by omega) rfl _ _ rfl w.heap.size (.slice A' k cap') k (seenCells (walkFrom t.kvs p (moves.take k))) rfl (O2.out.alloc _) (some ⟨wx.heap.size + 1, 0, none⟩) 1 1 (seenCells [none]) rfl (src_blk (Blk.newAt HZZ.out _ _) rfl) (seenCells_one _) (by omega) (by omega) (by have := Z2.out; simp; omega) ?_
          intro v1 w3 own3 gr3 _
          have b3 : Below w.heap.size w2 w3 := ((Below.refl w.heap.size w2).alloc Z2.out _).grown gr3 (by have := Z2.out; simp; omega) (fun k hk => (O2.out.lt k hk).1)
          rw [← seenCells_append, ← FS.out] at own3
          obtain ⟨A3, cap3, rfl, _, _⟩ := own_slice own3
          have i3 := I2.out.belowC b3 HC.out
          rw [← FP.out] at i3
          have F := Lib.hid (show _ ∧ _ ∧ _ from ⟨own3, i3, B2.out.trans (b3.mono hB)⟩)
          clear own3 gr3 b3 i3 O2 I2 B2 Z2
          go_wp2_with fail
          go_roundw
          case rel => exact ⟨k + 1, A3, cap3, by omega, by go_num, rfl, F.out.1, F.out.2.1, F.out.2.2⟩
          case measure => simp [intOf]; omega
      have n7 : ¬ d.op = 7 := h1
      clear h1
      by_cases h1 : d.op = 8
      · have e1 : mvPos t.kvs P d = dn d t.kvs (P - 1) := by unfold mvPos; rw [if_neg (by omega), if_neg (by omega), if_neg (by omega), if_neg (by omega), if_neg (by omega), if_neg (by omega), if_neg (by omega), if_pos h1]
        have e2 : mvSeen t.kvs P d = seenAt t.kvs (dn d t.kvs (P - 1)) := by unfold mvSeen mvTell; rw [e1, h1]; simp
        have fp := FF.out.2
        have fs := FF.out.1
        rw [e1] at fp
        rw [e2] at fs
        have FP := Lib.hid fp
        have c := btiItPrevTo_walk IT0.out d wr.heap.size (OKD.out (.inr h1)).1 (OKD.out (.inr h1)).2 MB.out MN.out
        clear fp e1 e2
        rw [h1] at c0 MB IT0 OW BW hz c
        by_cases CL0 : 0 < dn d t.kvs (P - 1)
        · rw [decide_eq_true CL0] at c
          have hqb : (dn d t.kvs (P - 1) - 1) < t.count := by have := dn_le d t.kvs (P - 1); have := PLE.out; omega
          obtain ⟨x, hx⟩ : ∃ x, t.kvs[(dn d t.kvs (P - 1) - 1)]? = some x := ⟨_, List.getElem?_eq_getElem (by rw [KL.out]; exact hqb)⟩
          have CL := Lib.hid CL0
          rw [show seenAt t.kvs (dn d t.kvs (P - 1)) = some x by unfold seenAt; rw [if_neg (by have := CL.out; omega)]; rw [show dn d t.kvs (P - 1) - 1 = (dn d t.kvs (P - 1) - 1) by have := CL.out; omega]; exact hx] at fs
          have FS := Lib.hid fs
          have X := Lib.hid hx
          have C := Lib.hid c
          clear c hx h1 fs hqb CL0
          go_wp2_with fail
          refine C.out.mono ?_
          rintro e wx ⟨rfl, h1, on1⟩
          rw [show dn d t.kvs (P - 1) = dn d t.kvs (P - 1) - 1 + 1 by have := CL.out; omega] at h1
          obtain ⟨q, hq⟩ : ∃ q, q = (dn d t.kvs (P - 1) - 1) := ⟨_, rfl⟩
          rw [← hq] at h1 X
          have I1 := Lib.hid h1
          have FPq := Lib.hid (show goFrom t.kvs p (moves.take (k + 1)) = q + 1 by first | (rw [FP.out, hq]; done) | (rw [FP.out, hq]; have := CL.out; omega))
          have FP := Lib.hid FPq.out
          clear FPq hq
          have O1 := Lib.hid (own_keep OW.out fun g hg hgl => on1.block g hgl (by simp only [List.mem_singleton]; intro e; have := HC.out.it; omega))
          have B1 := Lib.hid (BW.out.trans (on1.below (fun b hb => by simp only [List.mem_singleton] at hb; subst hb; exact HLO.out) (Nat.le_trans hB BW.out.size)))
          have Z1 := Lib.hid (Nat.le_trans hz.out on1.size)
          clear h1 on1
          have IA := Lib.hid (I1.out.belowC ((Below.refl w.heap.size wx).alloc Z1.out (.cells #[.bool true, .int .i64 0, .int .i64 0] 67)) HC.out)
          have K1 := Lib.hid (btiItKey_walk (BtIt.drewN IA.out 1) (show t.kvs[q]? = some (x.1, x.2) from X.out))
          have V1 := Lib.hid (btiItValue_walk (BtIt.drewN IA.out 1) (show t.kvs[q]? = some (x.1, x.2) from X.out))
          have bel := Lib.hid (show Below wx.heap.size wx ((((wx.alloc (.cells #[.bool true, .int .i64 0, .int .i64 0] 67)).drewN 1).setCell ⟨wx.heap.size, 1, none⟩ (.int .i64 x.1)).setCell ⟨wx.heap.size, 2, none⟩ (.int .i64 x.2)) from ((Below.drewN' ((Below.refl _ _).alloc (Nat.le_refl _) _) 1).setCell (p := ⟨wx.heap.size, 1, none⟩) (Nat.le_refl _) _).setCell (p := ⟨wx.heap.size, 2, none⟩) (Nat.le_refl _) _)
          have O2 := Lib.hid (own_below O1.out bel.out)
          have I2 := Lib.hid (I1.out.belowC (bel.out.mono Z1.out) HC.out)
          have B2 := Lib.hid (B1.out.trans (bel.out.mono (Nat.le_trans hB Z1.out)))
          have Z2 := Lib.hid (Nat.le_trans Z1.out bel.out.size)
          have FB := Lib.hid (show Blk ((((wx.alloc (.cells #[.bool true, .int .i64 0, .int .i64 0] 67)).drewN 1).setCell ⟨wx.heap.size, 1, none⟩ (.int .i64 x.1)).setCell ⟨wx.heap.size, 2, none⟩ (.int .i64 x.2)) wx.heap.size 67 #[.bool true, .int .i64 x.1, .int .i64 x.2] from Blk.set_ (Blk.set_ (show Blk ((wx.alloc (.cells #[.bool true, .int .i64 0, .int .i64 0] 67)).drewN 1) wx.heap.size 67 #[.bool true, .int .i64 0, .int .i64 0] from Blk.new wx _ _) 1 (.int .i64 x.1)) 2 (.int .i64 x.2))
          go_wp2_with fail
          go_region_with (first
            | (go_at_call 101; refine K1.out.mono ?_; rintro e wz ⟨rfl, rfl⟩)
            | (go_at_call 104; refine V1.out.mono ?_; rintro e wz ⟨rfl, rfl⟩))
          all_goals
            clear K1 V1 IA bel O1 I1 B1 Z1
            generalize (((wx.alloc (.cells #[.bool true, .int .i64 0, .int .i64 0] 67)).drewN 1).setCell ⟨wx.heap.size, 1, none⟩ (.int .i64 x.1)).setCell ⟨wx.heap.size, 2, none⟩ (.int .i64 x.2) = w2 at *
            have hf0 : w2.cell? ⟨wx.heap.size, 0, none⟩ = some (.bool true) := FB.out.cell 0
            have hf1 : w2.cell? ⟨wx.heap.size, 1, none⟩ = some (.int .i64 x.1) := FB.out.cell 1
            have hf2 : w2.cell? ⟨wx.heap.size, 2, none⟩ = some (.int .i64 x.2) := FB.out.cell 2
            go_wp2_with (at_builtin; refine Hid.out ?_)
            delta Hid
            refine wpList_appT Try.underlying33 seen_info rfl (by omega) rfl _ _ rfl w.heap.size (.slice A' k cap') k (seenCells (walkFrom t.kvs p (moves.take k))) rfl (O2.out.alloc _) (some ⟨w2.heap.size, 0, none⟩) 1 1 (seenCells [some x]) rfl (src_blk (Blk.newAt rfl _ _) rfl) (seenCells_one _) (by omega) (by omega) (by have := Z2.out; simp; omega) ?_
            intro v1 w3 own3 gr3 _
            have b3 : Below w.heap.size w2 w3 := ((Below.refl w.heap.size w2).alloc Z2.out _).grown gr3 (by have := Z2.out; simp; omega) (fun k hk => (O2.out.lt k hk).1)
            rw [← seenCells_append, ← FS.out] at own3
            obtain ⟨A3, cap3, rfl, _, _⟩ := own_slice own3
            have i3 := I2.out.belowC b3 HC.out
            rw [← FP.out] at i3
            have F := Lib.hid (show _ ∧ _ ∧ _ from ⟨own3, i3, B2.out.trans (b3.mono hB)⟩)
            clear own3 gr3 b3 i3 O2 I2 B2 Z2
            go_wp2_with fail
            go_roundw
            case rel => exact ⟨k + 1, A3, cap3, by omega, by go_num, rfl, F.out.1, F.out.2.1, F.out.2.2⟩
            case measure => simp [intOf]; omega
        · rw [decide_eq_false CL0] at c
          have CL := Lib.hid CL0
          rw [show seenAt t.kvs (dn d t.kvs (P - 1)) = none by unfold seenAt; rw [if_pos (by have := CL.out; omega)]] at fs
          have FS := Lib.hid fs
          have C := Lib.hid c
          clear c h1 fs CL0
          go_wp2_with fail
          refine C.out.mono ?_
          rintro e wx ⟨rfl, h1, on1⟩
          have I1 := Lib.hid h1
          have O1 := Lib.hid (own_keep OW.out fun g hg hgl => on1.block g hgl (by simp only [List.mem_singleton]; intro e; have := HC.out.it; omega))
          have B1 := Lib.hid (BW.out.trans (on1.below (fun b hb => by simp only [List.mem_singleton] at hb; subst hb; exact HLO.out) (Nat.le_trans hB BW.out.size)))
          have Z1 := Lib.hid (Nat.le_trans hz.out on1.size)
          clear h1 on1
          have bel := Lib.hid (show Below wx.heap.size wx (wx.alloc (.cells #[.bool false, .int .i64 0, .int .i64 0] 67)) from (Below.refl _ _).alloc (Nat.le_refl _) _)
          have O2 := Lib.hid (own_below O1.out bel.out)
          have I2 := Lib.hid (I1.out.belowC (bel.out.mono Z1.out) HC.out)
          have B2 := Lib.hid (B1.out.trans (bel.out.mono (Nat.le_trans hB Z1.out)))
          have Z2 := Lib.hid (Nat.le_trans Z1.out bel.out.size)
          have HZZ := Lib.hid (show wx.heap.size + 1 = (wx.alloc (.cells #[.bool false, .int .i64 0, .int .i64 0] 67)).heap.size by simp)
          clear bel O1 I1 B1 Z1
          go_wp2_with (at_builtin; refine Hid.out ?_)
          delta Hid
          generalize wx.alloc (.cells #[.bool false, .int .i64 0, .int .i64 0] 67) = w2 at *
          refine wpList_appT Try.underlying33 seen_info rfl (by omega) rfl _ _ rfl w.heap.size (.slice A' k cap') k (seenCells (walkFrom t.kvs p (moves.take k))) rfl (O2.out.alloc _) (some ⟨wx.heap.size + 1, 0, none⟩) 1 1 (seenCells [none]) rfl (src_blk (Blk.newAt HZZ.out _ _) rfl) (seenCells_one _) (by omega) (by omega) (by have := Z2.out; simp; omega) ?_
          intro v1 w3 own3 gr3 _
          have b3 : Below w.heap.size w2 w3 := ((Below.refl w.heap.size w2).alloc Z2.out _).grown gr3 (by have := Z2.out; simp; omega) (fun k hk => (O2.out.lt k hk).1)
          rw [← seenCells_append, ← FS.out] at own3
          obtain ⟨A3, cap3, rfl, _, _⟩ := own_slice own3
          have i3 := I2.out.belowC b3 HC.out
          rw [← FP.out] at i3
          have F := Lib.hid (show _ ∧ _ ∧ _ from ⟨own3, i3, B2.out.trans (b3.mono hB)⟩)
          clear own3 gr3 b3 i3 O2 I2 B2 Z2
          go_wp2_with fail
          go_roundw
          case rel => exact ⟨k + 1, A3, cap3, by omega, by go_num, rfl, F.out.1, F.out.2.1, F.out.2.2⟩
          case measure => simp [intOf]; omega
      have n8 : ¬ d.op = 8 := h1
      clear h1
      have e1 : mvPos t.kvs P d = P := by unfold mvPos; simp only [n1, n2, n3, n4, n5, n6, n7, n8, if_false]
      have e2 : mvSeen t.kvs P d = none := by unfold mvSeen mvTell; simp [n1, n2, n3, n4, n7, n8]
      have fp := FF.out.2
      have fs := FF.out.1
      rw [e1] at fp
      rw [e2] at fs
      have FP := Lib.hid fp
      have FS := Lib.hid fs
      have b1 : (d.op == 1) = false := by simpa using n1
      have b2 : (d.op == 2) = false := by simpa using n2
      have b3 : (d.op == 3) = false := by simpa using n3
      have b4 : (d.op == 4) = false := by simpa using n4
      have b5 : (d.op == 5) = false := by simpa using n5
      have b6 : (d.op == 6) = false := by simpa using n6
      have b7 : (d.op == 7) = false := by simpa using n7
      have b8 : (d.op == 8) = false := by simpa using n8
      have O1 := OW
      have I1 := IT0
      have B1 := BW
      have Z1 := hz
      clear fp fs e1 e2 n1 n2 n3 n4 n5 n6 n7 n8
      have bel := Lib.hid (show Below (wr.alloc (.cells #[.int .i64 d.op, .int .i64 d.key, .int .i64 d.val] 65)).heap.size (wr.alloc (.cells #[.int .i64 d.op, .int .i64 d.key, .int .i64 d.val] 65)) ((wr.alloc (.cells #[.int .i64 d.op, .int .i64 d.key, .int .i64 d.val] 65)).alloc (.cells #[.bool false, .int .i64 0, .int .i64 0] 67)) from (Below.refl _ _).alloc (Nat.le_refl _) _)
      have O2 := Lib.hid (own_below O1.out bel.out)
      have I2 := Lib.hid (I1.out.belowC (bel.out.mono Z1.out) HC.out)
      have B2 := Lib.hid (B1.out.trans (bel.out.mono (Nat.le_trans hB Z1.out)))
      have Z2 := Lib.hid (Nat.le_trans Z1.out bel.out.size)
      have HZZ := Lib.hid (show wr.heap.size + 1 + 1 = ((wr.alloc (.cells #[.int .i64 d.op, .int .i64 d.key, .int .i64 d.val] 65)).alloc (.cells #[.bool false, .int .i64 0, .int .i64 0] 67)).heap.size by simp)
      clear bel O1 I1 B1 Z1
      go_wp2_with (at_builtin; refine Hid.out ?_)
      delta Hid
      generalize (wr.alloc (.cells #[.int .i64 d.op, .int .i64 d.key, .int .i64 d.val] 65)).alloc (.cells #[.bool false, .int .i64 0, .int .i64 0] 67) = w2 at *
      refine wpList_appT Try.underlying33 seen_info rfl (by omega) rfl _ _ rfl w.heap.size (.slice A' k cap') k (seenCells (walkFrom t.kvs p (moves.take k))) rfl (O2.out.alloc _) (some ⟨wr.heap.size + 1 + 1, 0, none⟩) 1 1 (seenCells [none]) rfl (src_blk (Blk.newAt HZZ.out _ _) rfl) (seenCells_one _) (by omega) (by omega) (by have := Z2.out; simp; omega) ?_
      intro v1 w3 own3 gr3 _
      have b3 : Below w.heap.size w2 w3 := ((Below.refl w.heap.size w2).alloc Z2.out _).grown gr3 (by have := Z2.out; simp; omega) (fun k hk => (O2.out.lt k hk).1)
      rw [← seenCells_append, ← FS.out] at own3
      obtain ⟨A3, cap3, rfl, _, _⟩ := own_slice own3
      have i3 := I2.out.belowC b3 HC.out
      rw [← FP.out] at i3
      have F := Lib.hid (show _ ∧ _ ∧ _ from ⟨own3, i3, B2.out.trans (b3.mono hB)⟩)
      clear own3 gr3 b3 i3 O2 I2 B2 Z2
      go_wp2_with fail
      go_roundw
      case rel => exact ⟨k + 1, A3, cap3, by omega, by go_num, rfl, F.out.1, F.out.2.1, F.out.2.2⟩
      case measure => simp [intOf]; omega
    · obtain rfl : k = n := by omega
      rw [List.take_of_length_le (by have := HN.out; omega)] at hown
      have F := Lib.hid (show wr.ownsRow _ _ _ _ _ _ ∧ Below _ _ _ from ⟨hown, hw⟩)
      clear hown hw hit
      go_wp2_with fail
      go_ret
      exact ⟨A', cap', rfl, F.out⟩
end
end Go.Proofs.Ytpkgmgebhnhhjaa.Bt
