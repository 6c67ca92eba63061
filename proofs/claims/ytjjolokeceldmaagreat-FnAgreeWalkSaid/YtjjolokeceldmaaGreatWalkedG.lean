import Derived.Test.YtjjolokeceldmaaGreatBases
import Derived.Test.YtjjolokeceldmaaGreatPures
import Derived.Test.YtjjolokeceldmaaGreatSeen
import Derived.Deep.RegionWith
namespace Go.Proofs.YtjjolokeceldmaaGreat
open Go.RowKit Lib
structure Mover (ty : TypeId) (fN fP fF fL fB fE fNT fPT fK fV : FuncId) (ls : KV) (cn itb B Z : Nat) (It : World → Nat → Prop) : Prop where
 len : ls.length = cn
 lt : itb < Z
 lo : B ≤ itb
 le : ∀ {w : World} {p : Nat}, It w p → p ≤ cn + 1
 bel : ∀ {w w' : World} {p C : Nat}, It w p → Below C w w' → Z ≤ C → It w' p
 mfN : ∀ (n : Nat) (a : Addr) (w : World), (method (n + 1) ty (.pointer (some a)) "Next").run Tryz.prog w = .ok (fN, .pointer (some a)) w
 mfP : ∀ (n : Nat) (a : Addr) (w : World), (method (n + 1) ty (.pointer (some a)) "Prev").run Tryz.prog w = .ok (fP, .pointer (some a)) w
 mfF : ∀ (n : Nat) (a : Addr) (w : World), (method (n + 1) ty (.pointer (some a)) "First").run Tryz.prog w = .ok (fF, .pointer (some a)) w
 mfL : ∀ (n : Nat) (a : Addr) (w : World), (method (n + 1) ty (.pointer (some a)) "Last").run Tryz.prog w = .ok (fL, .pointer (some a)) w
 mfB : ∀ (n : Nat) (a : Addr) (w : World), (method (n + 1) ty (.pointer (some a)) "Begin").run Tryz.prog w = .ok (fB, .pointer (some a)) w
 mfE : ∀ (n : Nat) (a : Addr) (w : World), (method (n + 1) ty (.pointer (some a)) "End").run Tryz.prog w = .ok (fE, .pointer (some a)) w
 mfNT : ∀ (n : Nat) (a : Addr) (w : World), (method (n + 1) ty (.pointer (some a)) "NextTo").run Tryz.prog w = .ok (fNT, .pointer (some a)) w
 mfPT : ∀ (n : Nat) (a : Addr) (w : World), (method (n + 1) ty (.pointer (some a)) "PrevTo").run Tryz.prog w = .ok (fPT, .pointer (some a)) w
 mfK : ∀ (n : Nat) (a : Addr) (w : World), (method (n + 1) ty (.pointer (some a)) "Key").run Tryz.prog w = .ok (fK, .pointer (some a)) w
 mfV : ∀ (n : Nat) (a : Addr) (w : World), (method (n + 1) ty (.pointer (some a)) "Value").run Tryz.prog w = .ok (fV, .pointer (some a)) w
 efN : ∀ (args : Array Value) (w : World), (callFunc fN args).run Tryz.prog w = .ok (.enter fN args) w
 efP : ∀ (args : Array Value) (w : World), (callFunc fP args).run Tryz.prog w = .ok (.enter fP args) w
 efF : ∀ (args : Array Value) (w : World), (callFunc fF args).run Tryz.prog w = .ok (.enter fF args) w
 efL : ∀ (args : Array Value) (w : World), (callFunc fL args).run Tryz.prog w = .ok (.enter fL args) w
 efB : ∀ (args : Array Value) (w : World), (callFunc fB args).run Tryz.prog w = .ok (.enter fB args) w
 efE : ∀ (args : Array Value) (w : World), (callFunc fE args).run Tryz.prog w = .ok (.enter fE args) w
 efNT : ∀ (args : Array Value) (w : World), (callFunc fNT args).run Tryz.prog w = .ok (.enter fNT args) w
 efPT : ∀ (args : Array Value) (w : World), (callFunc fPT args).run Tryz.prog w = .ok (.enter fPT args) w
 efK : ∀ (args : Array Value) (w : World), (callFunc fK args).run Tryz.prog w = .ok (.enter fK args) w
 efV : ∀ (args : Array Value) (w : World), (callFunc fV args).run Tryz.prog w = .ok (.enter fV args) w
 next : ∀ {w : World} {p : Nat}, It w p → Calls Tryz.prog fN #[.pointer (some ⟨itb, 0, none⟩)] w fun e w' => e = .returned (.bool (decide (p < cn))) ∧ It w' (min (p + 1) (cn + 1)) ∧ Only [itb] w w'
 prev : ∀ {w : World} {p : Nat}, It w p → Calls Tryz.prog fP #[.pointer (some ⟨itb, 0, none⟩)] w fun e w' => e = .returned (.bool (decide (1 < p))) ∧ It w' (p - 1) ∧ Only [itb] w w'
 first : ∀ {w : World} {p : Nat}, It w p → Calls Tryz.prog fF #[.pointer (some ⟨itb, 0, none⟩)] w fun e w' => e = .returned (.bool (decide (0 < cn))) ∧ It w' (1) ∧ Only [itb] w w'
 last : ∀ {w : World} {p : Nat}, It w p → Calls Tryz.prog fL #[.pointer (some ⟨itb, 0, none⟩)] w fun e w' => e = .returned (.bool (decide (0 < cn))) ∧ It w' (cn) ∧ Only [itb] w w'
 begin_ : ∀ {w : World} {p : Nat}, It w p → Calls Tryz.prog fB #[.pointer (some ⟨itb, 0, none⟩)] w fun e w' => e = .returned (.tuple #[]) ∧ It w' (0) ∧ Only [itb] w w'
 end_ : ∀ {w : World} {p : Nat}, It w p → Calls Tryz.prog fE #[.pointer (some ⟨itb, 0, none⟩)] w fun e w' => e = .returned (.tuple #[]) ∧ It w' (cn + 1) ∧ Only [itb] w w'
 nextTo : ∀ {w : World} {p : Nat}, It w p → ∀ (m : Do) (mb : Nat), 1 ≤ m.key → m.key ≤ 1000 → MoveAt w mb m → mb ≠ itb → Calls Tryz.prog fNT #[.pointer (some ⟨itb, 0, none⟩), tov mb] w fun e w' => e = .returned (.bool (decide (up m ls (min p cn) < cn))) ∧ It w' (up m ls (min p cn) + 1) ∧ Only [itb] w w'
 prevTo : ∀ {w : World} {p : Nat}, It w p → ∀ (m : Do) (mb : Nat), 1 ≤ m.key → m.key ≤ 1000 → MoveAt w mb m → mb ≠ itb → Calls Tryz.prog fPT #[.pointer (some ⟨itb, 0, none⟩), tov mb] w fun e w' => e = .returned (.bool (decide (0 < dn m ls (p - 1)))) ∧ It w' (dn m ls (p - 1)) ∧ Only [itb] w w'
 key : ∀ {w : World} {q : Nat} {k v : Int}, It w (q + 1) → ls[q]? = some (k, v) → Calls Tryz.prog fK #[.pointer (some ⟨itb, 0, none⟩)] w fun e w' => e = .returned (.iface 3 (.int .i64 k)) ∧ w' = w
 value : ∀ {w : World} {q : Nat} {k v : Int}, It w (q + 1) → ls[q]? = some (k, v) → Calls Tryz.prog fV #[.pointer (some ⟨itb, 0, none⟩)] w fun e w' => e = .returned (.iface 3 (.int .i64 v)) ∧ w' = w
section
variable {ty : TypeId} {fN fP fF fL fB fE fNT fPT fK fV : FuncId} {ls : KV} {cn itb B Z p : Nat} {It : World → Nat → Prop} {w : World}
theorem Mover.drewN (M : Mover ty fN fP fF fL fB fE fNT fPT fK fV ls cn itb B Z It) (h : It w p) (n : Nat) : It (w.drewN n) p := M.bel h (Below.drewN' (Below.refl Z w) n) (Nat.le_refl _)
set_option maxHeartbeats 8000000 in
set_option maxRecDepth 100000 in
theorem walked_walk (M : Mover ty fN fP fF fL fB fE fNT fPT fK fV ls cn itb B Z It) (hZ : Z ≤ w.heap.size) (h : It w p) (n cap : Nat) (A : Option Addr) (moves : List Do) (hn : moves.length = n) (hn1 : n ≤ 1000) (hlt : cn ≤ 100000) (ha : ActsAt w B A moves) (hB : B ≤ w.heap.size)
 (hok : ∀ m ∈ moves, (m.op = 7 ∨ m.op = 8) → 1 ≤ m.key ∧ m.key ≤ 1000) :
 Calls Tryz.prog 13 #[.iface ty (.pointer (some ⟨itb, 0, none⟩)), .slice A n cap] w fun e w' =>
  ∃ A' cap', e = .returned (.slice A' n cap') ∧ w'.ownsRow w.heap.size 46 3 (.slice A' n cap') n (seenCells (walkFrom ls p moves)) ∧ Below B w w' := by
 have hmf : ∀ (fn : Fn) (first cap : Array Value) (w : World), (Instr.makeFunc fn first cap).run Tryz.prog w = .ok (.func fn first cap) w := fun _ _ _ _ => rfl
 have HM := hid M
 have HZ := hid hZ
 have mfN := M.mfN
 have efN := M.efN
 have mfP := M.mfP
 have efP := M.efP
 have mfF := M.mfF
 have efF := M.efF
 have mfL := M.mfL
 have efL := M.efL
 have mfB := M.mfB
 have efB := M.efB
 have mfE := M.mfE
 have efE := M.efE
 have mfNT := M.mfNT
 have efNT := M.efNT
 have mfPT := M.mfPT
 have efPT := M.efPT
 have mfK := M.mfK
 have efK := M.efK
 have mfV := M.mfV
 have efV := M.efV
 have H0 := hid h
 have Ha := hid ha
 have HN := hid hn
 have OK := hid hok
 have KL := hid (M.len)
 have HLO := hid M.lo
 clear M hZ h ha hn hok
 go_enter Tryz.func13, Tryz.ntmps13
 go_wp2_with fail
 go_loopw [5, 14] (fun v i wr => ∃ (k : Nat) (A' : Option Addr) (cap' : Nat), k ≤ n ∧ i = .int .i64 k ∧ v = .slice A' k cap' ∧ wr.ownsRow w.heap.size 46 3 (.slice A' k cap') k (seenCells (walkFrom ls p (moves.take k))) ∧ It wr (goFrom ls p (moves.take k)) ∧ Below B w wr) (fun _ i _ => n - (intOf i).toNat)
 case atStart => exact ⟨0, _, 0, Nat.zero_le _, rfl, rfl, own_empty (Blk.new _ _ _) (Nat.le_refl _), HM.out.bel H0.out ((Below.refl _ _).alloc (Nat.le_refl _) _) HZ.out, (Below.refl _ _).alloc hB _⟩
 case round =>
  obtain ⟨k, A', cap', hk, rfl, rfl, hown, hit, hw⟩ := hrel
  by_cases hlt : k < n
  ·obtain ⟨a, d, rfl, hab, hd, c0, c1, c2⟩ := ActsAt.at_ (Ha.out.below hw) (i := k) (by have := HN.out; omega)
   have hdm : d ∈ moves := List.mem_of_getElem? hd
   have f := walkFrom_take_succ ls p moves k d hd
   have hle := HM.out.le hit
   generalize hP : goFrom ls p (moves.take k) = P at *
   have FF := hid f
   have MB := hid (show MoveAt (wr.alloc (.cells #[.int .i64 d.op, .int .i64 d.key, .int .i64 d.val] 35)) wr.heap.size d from Blk.new _ _ _)
   have hsz := hw.size
   have HS0 := hid hsz
   have IT0 := hid (HM.out.bel hit ((Below.refl w.heap.size wr).alloc hsz (.cells #[.int .i64 d.op, .int .i64 d.key, .int .i64 d.val] 35)) HZ.out)
   have OW := hid (hown.alloc (.cells #[.int .i64 d.op, .int .i64 d.key, .int .i64 d.val] 35))
   have BW := hid (hw.alloc (Nat.le_trans hB hsz) (.cells #[.int .i64 d.op, .int .i64 d.key, .int .i64 d.val] 35))
   have hmn : wr.heap.size ≠ itb := by have := HM.out.lt; have := HZ.out; omega
   have MN := hid hmn
   have OKD := hid (OK.out d hdm)
   have PLE := hid hle
   have hz := hid (show w.heap.size ≤ (wr.alloc (.cells #[.int .i64 d.op, .int .i64 d.key, .int .i64 d.val] 35)).heap.size by simp; omega)
   clear hown hit hw hd f hdm hsz hmn hle hP
   by_cases h1 : d.op = 1
   ·have e1 : mvPos ls P d = min (P + 1) (cn + 1) := by unfold mvPos; rw [if_pos h1, KL.out]
    have e2 : mvSeen ls P d = seenAt ls (min (P + 1) (cn + 1)) := by unfold mvSeen mvTell; rw [e1, h1]; simp
    have fp := FF.out.2
    have fs := FF.out.1
    rw [e1] at fp
    rw [e2] at fs
    have FP := hid fp
    have c := HM.out.next IT0.out
    clear fp e1 e2
    rw [h1] at c0 MB IT0 OW BW hz c
    by_cases CL0 : P < cn
    ·rw [decide_eq_true CL0] at c
     have hqb : P < cn := by exact CL0
     obtain ⟨x, hx⟩ : ∃ x, ls[P]? = some x := ⟨_, List.getElem?_eq_getElem (by rw [KL.out]; exact hqb)⟩
     have CL := hid CL0
     rw [show seenAt ls (min (P + 1) (cn + 1)) = some x by unfold seenAt; rw [if_neg (by have := CL.out; omega)]; rw [show min (P + 1) (cn + 1) - 1 = P by have := CL.out; omega]; exact hx] at fs
     have FS := hid fs
     have X := hid hx
     have C := hid c
     clear c hx h1 fs hqb CL0
     go_wp2_with fail
     refine C.out.mono ?_
     rintro e wx ⟨rfl, h1, on1⟩
     rw [show min (P + 1) (cn + 1) = P + 1 by have := CL.out; omega] at h1
     obtain ⟨q, hq⟩ : ∃ q, q = P := ⟨_, rfl⟩
     rw [← hq] at h1 X
     have I1 := hid h1
     have FPq := hid (show goFrom ls p (moves.take (k + 1)) = q + 1 by first | (rw [FP.out, hq]; done) | (rw [FP.out, hq]; have := CL.out; omega))
     have FP := hid FPq.out
     clear FPq hq
     have O1 := hid (own_keep OW.out fun g hg hgl => on1.block g hgl (by simp only [List.mem_singleton]; intro e; have := HM.out.lt; have := HZ.out; omega))
     have B1 := hid (BW.out.trans (on1.below (fun b hb => by simp only [List.mem_singleton] at hb; subst hb; exact HLO.out) (Nat.le_trans hB BW.out.size)))
     have Z1 := hid (Nat.le_trans hz.out on1.size)
     clear h1 on1
     have IA := hid (HM.out.bel I1.out ((Below.refl w.heap.size wx).alloc Z1.out (.cells #[.bool true, .int .i64 0, .int .i64 0] 46)) HZ.out)
     have K1 := hid (HM.out.key (HM.out.drewN IA.out 1) (show ls[q]? = some (x.1, x.2) from X.out))
     have V1 := hid (HM.out.value (HM.out.drewN IA.out 1) (show ls[q]? = some (x.1, x.2) from X.out))
     have bel := hid (show Below wx.heap.size wx ((((wx.alloc (.cells #[.bool true, .int .i64 0, .int .i64 0] 46)).drewN 1).setCell ⟨wx.heap.size, 1, none⟩ (.int .i64 x.1)).setCell ⟨wx.heap.size, 2, none⟩ (.int .i64 x.2)) from ((Below.drewN' ((Below.refl _ _).alloc (Nat.le_refl _) _) 1).setCell (p := ⟨wx.heap.size, 1, none⟩) (Nat.le_refl _) _).setCell (p := ⟨wx.heap.size, 2, none⟩) (Nat.le_refl _) _)
     have O2 := hid (own_below O1.out bel.out)
     have I2 := hid (HM.out.bel I1.out (bel.out.mono Z1.out) HZ.out)
     have B2 := hid (B1.out.trans (bel.out.mono (Nat.le_trans hB Z1.out)))
     have Z2 := hid (Nat.le_trans Z1.out bel.out.size)
     have FB := hid (show Blk ((((wx.alloc (.cells #[.bool true, .int .i64 0, .int .i64 0] 46)).drewN 1).setCell ⟨wx.heap.size, 1, none⟩ (.int .i64 x.1)).setCell ⟨wx.heap.size, 2, none⟩ (.int .i64 x.2)) wx.heap.size 46 #[.bool true, .int .i64 x.1, .int .i64 x.2] from Blk.set_ (Blk.set_ (show Blk ((wx.alloc (.cells #[.bool true, .int .i64 0, .int .i64 0] 46)).drewN 1) wx.heap.size 46 #[.bool true, .int .i64 0, .int .i64 0] from Blk.new wx _ _) 1 (.int .i64 x.1)) 2 (.int .i64 x.2))
     go_wp2_with fail
     go_region_with (first
      | ((with_reducible refine (show Calls _ fK _ _ _ from ?_)); refine K1.out.mono ?_; rintro e wz ⟨rfl, rfl⟩)
      | ((with_reducible refine (show Calls _ fV _ _ _ from ?_)); refine V1.out.mono ?_; rintro e wz ⟨rfl, rfl⟩))
     all_goals
      clear K1 V1 IA bel O1 I1 B1 Z1
      generalize (((wx.alloc (.cells #[.bool true, .int .i64 0, .int .i64 0] 46)).drewN 1).setCell ⟨wx.heap.size, 1, none⟩ (.int .i64 x.1)).setCell ⟨wx.heap.size, 2, none⟩ (.int .i64 x.2) = w2 at *
      have hf0 : w2.cell? ⟨wx.heap.size, 0, none⟩ = some (.bool true) := FB.out.cell 0
      have hf1 : w2.cell? ⟨wx.heap.size, 1, none⟩ = some (.int .i64 x.1) := FB.out.cell 1
      have hf2 : w2.cell? ⟨wx.heap.size, 2, none⟩ = some (.int .i64 x.2) := FB.out.cell 2
      go_wp2_with (at_builtin; refine Hid.out ?_)
      delta Hid
      refine wpList_appT Tryz.underlying28 seen_info rfl (by omega) rfl _ _ rfl w.heap.size (.slice A' k cap') k (seenCells (walkFrom ls p (moves.take k))) rfl (O2.out.alloc _) (some ⟨w2.heap.size, 0, none⟩) 1 1 (seenCells [some x]) rfl (src_blk (Blk.newAt rfl _ _) rfl) (seenCells_one _) (by omega) (by omega) (by have := Z2.out; simp; omega) ?_
      intro v1 w3 own3 gr3 _
      have b3 : Below w.heap.size w2 w3 := ((Below.refl w.heap.size w2).alloc Z2.out _).grown gr3 (by have := Z2.out; simp; omega) (fun k hk => (O2.out.lt k hk).1)
      rw [← seenCells_append, ← FS.out] at own3
      obtain ⟨A3, cap3, rfl, _, _⟩ := own_slice own3
      have i3 := HM.out.bel I2.out b3 HZ.out
      rw [← FP.out] at i3
      have F := hid (show _ ∧ _ ∧ _ from ⟨own3, i3, B2.out.trans (b3.mono hB)⟩)
      clear own3 gr3 b3 i3 O2 I2 B2 Z2
      go_wp2_with fail
      go_roundw
      case rel => exact ⟨k + 1, A3, cap3, by omega, by go_num, rfl, F.out.1, F.out.2.1, F.out.2.2⟩
      case measure => simp [intOf]; omega
    ·rw [decide_eq_false CL0] at c
     have CL := hid CL0
     rw [show seenAt ls (min (P + 1) (cn + 1)) = none by unfold seenAt; rw [show min (P + 1) (cn + 1) = cn + 1 by have := CL.out; have := PLE.out; omega]; rw [if_neg (by omega)]; exact List.getElem?_eq_none (by rw [KL.out]; omega)] at fs
     have FS := hid fs
     have C := hid c
     clear c h1 fs CL0
     go_wp2_with fail
     refine C.out.mono ?_
     rintro e wx ⟨rfl, h1, on1⟩
     have I1 := hid h1
     have O1 := hid (own_keep OW.out fun g hg hgl => on1.block g hgl (by simp only [List.mem_singleton]; intro e; have := HM.out.lt; have := HZ.out; omega))
     have B1 := hid (BW.out.trans (on1.below (fun b hb => by simp only [List.mem_singleton] at hb; subst hb; exact HLO.out) (Nat.le_trans hB BW.out.size)))
     have Z1 := hid (Nat.le_trans hz.out on1.size)
     clear h1 on1
     have bel := hid (show Below wx.heap.size wx (wx.alloc (.cells #[.bool false, .int .i64 0, .int .i64 0] 46)) from (Below.refl _ _).alloc (Nat.le_refl _) _)
     have O2 := hid (own_below O1.out bel.out)
     have I2 := hid (HM.out.bel I1.out (bel.out.mono Z1.out) HZ.out)
     have B2 := hid (B1.out.trans (bel.out.mono (Nat.le_trans hB Z1.out)))
     have Z2 := hid (Nat.le_trans Z1.out bel.out.size)
     have HZZ := hid (show wx.heap.size + 1 = (wx.alloc (.cells #[.bool false, .int .i64 0, .int .i64 0] 46)).heap.size by simp)
     clear bel O1 I1 B1 Z1
     go_wp2_with (at_builtin; refine Hid.out ?_)
     delta Hid
     generalize wx.alloc (.cells #[.bool false, .int .i64 0, .int .i64 0] 46) = w2 at *
     refine wpList_appT Tryz.underlying28 seen_info rfl (by omega) rfl _ _ rfl w.heap.size (.slice A' k cap') k (seenCells (walkFrom ls p (moves.take k))) rfl (O2.out.alloc _) (some ⟨wx.heap.size + 1, 0, none⟩) 1 1 (seenCells [none]) rfl (src_blk (Blk.newAt HZZ.out _ _) rfl) (seenCells_one _) (by omega) (by omega) (by have := Z2.out; simp; omega) ?_
     intro v1 w3 own3 gr3 _
     have b3 : Below w.heap.size w2 w3 := ((Below.refl w.heap.size w2).alloc Z2.out _).grown gr3 (by have := Z2.out; simp; omega) (fun k hk => (O2.out.lt k hk).1)
     rw [← seenCells_append, ← FS.out] at own3
     obtain ⟨A3, cap3, rfl, _, _⟩ := own_slice own3
     have i3 := HM.out.bel I2.out b3 HZ.out
     rw [← FP.out] at i3
     have F := hid (show _ ∧ _ ∧ _ from ⟨own3, i3, B2.out.trans (b3.mono hB)⟩)
     clear own3 gr3 b3 i3 O2 I2 B2 Z2
     go_wp2_with fail
     go_roundw
     case rel => exact ⟨k + 1, A3, cap3, by omega, by go_num, rfl, F.out.1, F.out.2.1, F.out.2.2⟩
     case measure => simp [intOf]; omega
   have n1 : ¬ d.op = 1 := h1
   clear h1
   by_cases h1 : d.op = 2
   ·have e1 : mvPos ls P d = P - 1 := by unfold mvPos; rw [if_neg (by omega), if_pos h1]
    have e2 : mvSeen ls P d = seenAt ls (P - 1) := by unfold mvSeen mvTell; rw [e1, h1]; simp
    have fp := FF.out.2
    have fs := FF.out.1
    rw [e1] at fp
    rw [e2] at fs
    have FP := hid fp
    have c := HM.out.prev IT0.out
    clear fp e1 e2
    rw [h1] at c0 MB IT0 OW BW hz c
    by_cases CL0 : 1 < P
    ·rw [decide_eq_true CL0] at c
     have hqb : (P - 2) < cn := by have := PLE.out; omega
     obtain ⟨x, hx⟩ : ∃ x, ls[(P - 2)]? = some x := ⟨_, List.getElem?_eq_getElem (by rw [KL.out]; exact hqb)⟩
     have CL := hid CL0
     rw [show seenAt ls (P - 1) = some x by unfold seenAt; rw [if_neg (by have := CL.out; omega)]; rw [show P - 1 - 1 = (P - 2) by have := CL.out; omega]; exact hx] at fs
     have FS := hid fs
     have X := hid hx
     have C := hid c
     clear c hx h1 fs hqb CL0
     go_wp2_with fail
     refine C.out.mono ?_
     rintro e wx ⟨rfl, h1, on1⟩
     rw [show P - 1 = P - 2 + 1 by have := CL.out; omega] at h1
     obtain ⟨q, hq⟩ : ∃ q, q = (P - 2) := ⟨_, rfl⟩
     rw [← hq] at h1 X
     have I1 := hid h1
     have FPq := hid (show goFrom ls p (moves.take (k + 1)) = q + 1 by first | (rw [FP.out, hq]; done) | (rw [FP.out, hq]; have := CL.out; omega))
     have FP := hid FPq.out
     clear FPq hq
     have O1 := hid (own_keep OW.out fun g hg hgl => on1.block g hgl (by simp only [List.mem_singleton]; intro e; have := HM.out.lt; have := HZ.out; omega))
     have B1 := hid (BW.out.trans (on1.below (fun b hb => by simp only [List.mem_singleton] at hb; subst hb; exact HLO.out) (Nat.le_trans hB BW.out.size)))
     have Z1 := hid (Nat.le_trans hz.out on1.size)
     clear h1 on1
     have IA := hid (HM.out.bel I1.out ((Below.refl w.heap.size wx).alloc Z1.out (.cells #[.bool true, .int .i64 0, .int .i64 0] 46)) HZ.out)
     have K1 := hid (HM.out.key (HM.out.drewN IA.out 1) (show ls[q]? = some (x.1, x.2) from X.out))
     have V1 := hid (HM.out.value (HM.out.drewN IA.out 1) (show ls[q]? = some (x.1, x.2) from X.out))
     have bel := hid (show Below wx.heap.size wx ((((wx.alloc (.cells #[.bool true, .int .i64 0, .int .i64 0] 46)).drewN 1).setCell ⟨wx.heap.size, 1, none⟩ (.int .i64 x.1)).setCell ⟨wx.heap.size, 2, none⟩ (.int .i64 x.2)) from ((Below.drewN' ((Below.refl _ _).alloc (Nat.le_refl _) _) 1).setCell (p := ⟨wx.heap.size, 1, none⟩) (Nat.le_refl _) _).setCell (p := ⟨wx.heap.size, 2, none⟩) (Nat.le_refl _) _)
     have O2 := hid (own_below O1.out bel.out)
     have I2 := hid (HM.out.bel I1.out (bel.out.mono Z1.out) HZ.out)
     have B2 := hid (B1.out.trans (bel.out.mono (Nat.le_trans hB Z1.out)))
     have Z2 := hid (Nat.le_trans Z1.out bel.out.size)
     have FB := hid (show Blk ((((wx.alloc (.cells #[.bool true, .int .i64 0, .int .i64 0] 46)).drewN 1).setCell ⟨wx.heap.size, 1, none⟩ (.int .i64 x.1)).setCell ⟨wx.heap.size, 2, none⟩ (.int .i64 x.2)) wx.heap.size 46 #[.bool true, .int .i64 x.1, .int .i64 x.2] from Blk.set_ (Blk.set_ (show Blk ((wx.alloc (.cells #[.bool true, .int .i64 0, .int .i64 0] 46)).drewN 1) wx.heap.size 46 #[.bool true, .int .i64 0, .int .i64 0] from Blk.new wx _ _) 1 (.int .i64 x.1)) 2 (.int .i64 x.2))
     go_wp2_with fail
     go_region_with (first
      | ((with_reducible refine (show Calls _ fK _ _ _ from ?_)); refine K1.out.mono ?_; rintro e wz ⟨rfl, rfl⟩)
      | ((with_reducible refine (show Calls _ fV _ _ _ from ?_)); refine V1.out.mono ?_; rintro e wz ⟨rfl, rfl⟩))
     all_goals
      clear K1 V1 IA bel O1 I1 B1 Z1
      generalize (((wx.alloc (.cells #[.bool true, .int .i64 0, .int .i64 0] 46)).drewN 1).setCell ⟨wx.heap.size, 1, none⟩ (.int .i64 x.1)).setCell ⟨wx.heap.size, 2, none⟩ (.int .i64 x.2) = w2 at *
      have hf0 : w2.cell? ⟨wx.heap.size, 0, none⟩ = some (.bool true) := FB.out.cell 0
      have hf1 : w2.cell? ⟨wx.heap.size, 1, none⟩ = some (.int .i64 x.1) := FB.out.cell 1
      have hf2 : w2.cell? ⟨wx.heap.size, 2, none⟩ = some (.int .i64 x.2) := FB.out.cell 2
      go_wp2_with (at_builtin; refine Hid.out ?_)
      delta Hid
      refine wpList_appT Tryz.underlying28 seen_info rfl (by omega) rfl _ _ rfl w.heap.size (.slice A' k cap') k (seenCells (walkFrom ls p (moves.take k))) rfl (O2.out.alloc _) (some ⟨w2.heap.size, 0, none⟩) 1 1 (seenCells [some x]) rfl (src_blk (Blk.newAt rfl _ _) rfl) (seenCells_one _) (by omega) (by omega) (by have := Z2.out; simp; omega) ?_
      intro v1 w3 own3 gr3 _
      have b3 : Below w.heap.size w2 w3 := ((Below.refl w.heap.size w2).alloc Z2.out _).grown gr3 (by have := Z2.out; simp; omega) (fun k hk => (O2.out.lt k hk).1)
      rw [← seenCells_append, ← FS.out] at own3
      obtain ⟨A3, cap3, rfl, _, _⟩ := own_slice own3
      have i3 := HM.out.bel I2.out b3 HZ.out
      rw [← FP.out] at i3
      have F := hid (show _ ∧ _ ∧ _ from ⟨own3, i3, B2.out.trans (b3.mono hB)⟩)
      clear own3 gr3 b3 i3 O2 I2 B2 Z2
      go_wp2_with fail
      go_roundw
      case rel => exact ⟨k + 1, A3, cap3, by omega, by go_num, rfl, F.out.1, F.out.2.1, F.out.2.2⟩
      case measure => simp [intOf]; omega
    ·rw [decide_eq_false CL0] at c
     have CL := hid CL0
     rw [show seenAt ls (P - 1) = none by unfold seenAt; rw [if_pos (by have := CL.out; omega)]] at fs
     have FS := hid fs
     have C := hid c
     clear c h1 fs CL0
     go_wp2_with fail
     refine C.out.mono ?_
     rintro e wx ⟨rfl, h1, on1⟩
     have I1 := hid h1
     have O1 := hid (own_keep OW.out fun g hg hgl => on1.block g hgl (by simp only [List.mem_singleton]; intro e; have := HM.out.lt; have := HZ.out; omega))
     have B1 := hid (BW.out.trans (on1.below (fun b hb => by simp only [List.mem_singleton] at hb; subst hb; exact HLO.out) (Nat.le_trans hB BW.out.size)))
     have Z1 := hid (Nat.le_trans hz.out on1.size)
     clear h1 on1
     have bel := hid (show Below wx.heap.size wx (wx.alloc (.cells #[.bool false, .int .i64 0, .int .i64 0] 46)) from (Below.refl _ _).alloc (Nat.le_refl _) _)
     have O2 := hid (own_below O1.out bel.out)
     have I2 := hid (HM.out.bel I1.out (bel.out.mono Z1.out) HZ.out)
     have B2 := hid (B1.out.trans (bel.out.mono (Nat.le_trans hB Z1.out)))
     have Z2 := hid (Nat.le_trans Z1.out bel.out.size)
     have HZZ := hid (show wx.heap.size + 1 = (wx.alloc (.cells #[.bool false, .int .i64 0, .int .i64 0] 46)).heap.size by simp)
     clear bel O1 I1 B1 Z1
     go_wp2_with (at_builtin; refine Hid.out ?_)
     delta Hid
     generalize wx.alloc (.cells #[.bool false, .int .i64 0, .int .i64 0] 46) = w2 at *
     refine wpList_appT Tryz.underlying28 seen_info rfl (by omega) rfl _ _ rfl w.heap.size (.slice A' k cap') k (seenCells (walkFrom ls p (moves.take k))) rfl (O2.out.alloc _) (some ⟨wx.heap.size + 1, 0, none⟩) 1 1 (seenCells [none]) rfl (src_blk (Blk.newAt HZZ.out _ _) rfl) (seenCells_one _) (by omega) (by omega) (by have := Z2.out; simp; omega) ?_
     intro v1 w3 own3 gr3 _
     have b3 : Below w.heap.size w2 w3 := ((Below.refl w.heap.size w2).alloc Z2.out _).grown gr3 (by have := Z2.out; simp; omega) (fun k hk => (O2.out.lt k hk).1)
     rw [← seenCells_append, ← FS.out] at own3
     obtain ⟨A3, cap3, rfl, _, _⟩ := own_slice own3
     have i3 := HM.out.bel I2.out b3 HZ.out
     rw [← FP.out] at i3
     have F := hid (show _ ∧ _ ∧ _ from ⟨own3, i3, B2.out.trans (b3.mono hB)⟩)
     clear own3 gr3 b3 i3 O2 I2 B2 Z2
     go_wp2_with fail
     go_roundw
     case rel => exact ⟨k + 1, A3, cap3, by omega, by go_num, rfl, F.out.1, F.out.2.1, F.out.2.2⟩
     case measure => simp [intOf]; omega
   have n2 : ¬ d.op = 2 := h1
   clear h1
   by_cases h1 : d.op = 3
   ·have e1 : mvPos ls P d = 1 := by unfold mvPos; rw [if_neg (by omega), if_neg (by omega), if_pos h1]
    have e2 : mvSeen ls P d = seenAt ls (1) := by unfold mvSeen mvTell; rw [e1, h1]; simp
    have fp := FF.out.2
    have fs := FF.out.1
    rw [e1] at fp
    rw [e2] at fs
    have FP := hid fp
    have c := HM.out.first IT0.out
    clear fp e1 e2
    rw [h1] at c0 MB IT0 OW BW hz c
    by_cases CL0 : 0 < cn
    ·rw [decide_eq_true CL0] at c
     have hqb : 0 < cn := by exact CL0
     obtain ⟨x, hx⟩ : ∃ x, ls[0]? = some x := ⟨_, List.getElem?_eq_getElem (by rw [KL.out]; exact hqb)⟩
     have CL := hid CL0
     rw [show seenAt ls (1) = some x by unfold seenAt; rw [if_neg (by have := CL.out; omega)]; rw [show 1 - 1 = 0 by have := CL.out; omega]; exact hx] at fs
     have FS := hid fs
     have X := hid hx
     have C := hid c
     clear c hx h1 fs hqb CL0
     go_wp2_with fail
     refine C.out.mono ?_
     rintro e wx ⟨rfl, h1, on1⟩
     rw [show 1 = 0 + 1 from rfl] at h1
     obtain ⟨q, hq⟩ : ∃ q, q = 0 := ⟨_, rfl⟩
     rw [← hq] at h1 X
     have I1 := hid h1
     have FPq := hid (show goFrom ls p (moves.take (k + 1)) = q + 1 by first | (rw [FP.out, hq]; done) | (rw [FP.out, hq]; have := CL.out; omega))
     have FP := hid FPq.out
     clear FPq hq
     have O1 := hid (own_keep OW.out fun g hg hgl => on1.block g hgl (by simp only [List.mem_singleton]; intro e; have := HM.out.lt; have := HZ.out; omega))
     have B1 := hid (BW.out.trans (on1.below (fun b hb => by simp only [List.mem_singleton] at hb; subst hb; exact HLO.out) (Nat.le_trans hB BW.out.size)))
     have Z1 := hid (Nat.le_trans hz.out on1.size)
     clear h1 on1
     have IA := hid (HM.out.bel I1.out ((Below.refl w.heap.size wx).alloc Z1.out (.cells #[.bool true, .int .i64 0, .int .i64 0] 46)) HZ.out)
     have K1 := hid (HM.out.key (HM.out.drewN IA.out 1) (show ls[q]? = some (x.1, x.2) from X.out))
     have V1 := hid (HM.out.value (HM.out.drewN IA.out 1) (show ls[q]? = some (x.1, x.2) from X.out))
     have bel := hid (show Below wx.heap.size wx ((((wx.alloc (.cells #[.bool true, .int .i64 0, .int .i64 0] 46)).drewN 1).setCell ⟨wx.heap.size, 1, none⟩ (.int .i64 x.1)).setCell ⟨wx.heap.size, 2, none⟩ (.int .i64 x.2)) from ((Below.drewN' ((Below.refl _ _).alloc (Nat.le_refl _) _) 1).setCell (p := ⟨wx.heap.size, 1, none⟩) (Nat.le_refl _) _).setCell (p := ⟨wx.heap.size, 2, none⟩) (Nat.le_refl _) _)
     have O2 := hid (own_below O1.out bel.out)
     have I2 := hid (HM.out.bel I1.out (bel.out.mono Z1.out) HZ.out)
     have B2 := hid (B1.out.trans (bel.out.mono (Nat.le_trans hB Z1.out)))
     have Z2 := hid (Nat.le_trans Z1.out bel.out.size)
     have FB := hid (show Blk ((((wx.alloc (.cells #[.bool true, .int .i64 0, .int .i64 0] 46)).drewN 1).setCell ⟨wx.heap.size, 1, none⟩ (.int .i64 x.1)).setCell ⟨wx.heap.size, 2, none⟩ (.int .i64 x.2)) wx.heap.size 46 #[.bool true, .int .i64 x.1, .int .i64 x.2] from Blk.set_ (Blk.set_ (show Blk ((wx.alloc (.cells #[.bool true, .int .i64 0, .int .i64 0] 46)).drewN 1) wx.heap.size 46 #[.bool true, .int .i64 0, .int .i64 0] from Blk.new wx _ _) 1 (.int .i64 x.1)) 2 (.int .i64 x.2))
     go_wp2_with fail
     go_region_with (first
      | ((with_reducible refine (show Calls _ fK _ _ _ from ?_)); refine K1.out.mono ?_; rintro e wz ⟨rfl, rfl⟩)
      | ((with_reducible refine (show Calls _ fV _ _ _ from ?_)); refine V1.out.mono ?_; rintro e wz ⟨rfl, rfl⟩))
     all_goals
      clear K1 V1 IA bel O1 I1 B1 Z1
      generalize (((wx.alloc (.cells #[.bool true, .int .i64 0, .int .i64 0] 46)).drewN 1).setCell ⟨wx.heap.size, 1, none⟩ (.int .i64 x.1)).setCell ⟨wx.heap.size, 2, none⟩ (.int .i64 x.2) = w2 at *
      have hf0 : w2.cell? ⟨wx.heap.size, 0, none⟩ = some (.bool true) := FB.out.cell 0
      have hf1 : w2.cell? ⟨wx.heap.size, 1, none⟩ = some (.int .i64 x.1) := FB.out.cell 1
      have hf2 : w2.cell? ⟨wx.heap.size, 2, none⟩ = some (.int .i64 x.2) := FB.out.cell 2
      go_wp2_with (at_builtin; refine Hid.out ?_)
      delta Hid
      refine wpList_appT Tryz.underlying28 seen_info rfl (by omega) rfl _ _ rfl w.heap.size (.slice A' k cap') k (seenCells (walkFrom ls p (moves.take k))) rfl (O2.out.alloc _) (some ⟨w2.heap.size, 0, none⟩) 1 1 (seenCells [some x]) rfl (src_blk (Blk.newAt rfl _ _) rfl) (seenCells_one _) (by omega) (by omega) (by have := Z2.out; simp; omega) ?_
      intro v1 w3 own3 gr3 _
      have b3 : Below w.heap.size w2 w3 := ((Below.refl w.heap.size w2).alloc Z2.out _).grown gr3 (by have := Z2.out; simp; omega) (fun k hk => (O2.out.lt k hk).1)
      rw [← seenCells_append, ← FS.out] at own3
      obtain ⟨A3, cap3, rfl, _, _⟩ := own_slice own3
      have i3 := HM.out.bel I2.out b3 HZ.out
      rw [← FP.out] at i3
      have F := hid (show _ ∧ _ ∧ _ from ⟨own3, i3, B2.out.trans (b3.mono hB)⟩)
      clear own3 gr3 b3 i3 O2 I2 B2 Z2
      go_wp2_with fail
      go_roundw
      case rel => exact ⟨k + 1, A3, cap3, by omega, by go_num, rfl, F.out.1, F.out.2.1, F.out.2.2⟩
      case measure => simp [intOf]; omega
    ·rw [decide_eq_false CL0] at c
     have CL := hid CL0
     rw [show seenAt ls (1) = none by unfold seenAt; rw [if_neg (by omega)]; exact List.getElem?_eq_none (by rw [KL.out]; have := CL.out; omega)] at fs
     have FS := hid fs
     have C := hid c
     clear c h1 fs CL0
     go_wp2_with fail
     refine C.out.mono ?_
     rintro e wx ⟨rfl, h1, on1⟩
     have I1 := hid h1
     have O1 := hid (own_keep OW.out fun g hg hgl => on1.block g hgl (by simp only [List.mem_singleton]; intro e; have := HM.out.lt; have := HZ.out; omega))
     have B1 := hid (BW.out.trans (on1.below (fun b hb => by simp only [List.mem_singleton] at hb; subst hb; exact HLO.out) (Nat.le_trans hB BW.out.size)))
     have Z1 := hid (Nat.le_trans hz.out on1.size)
     clear h1 on1
     have bel := hid (show Below wx.heap.size wx (wx.alloc (.cells #[.bool false, .int .i64 0, .int .i64 0] 46)) from (Below.refl _ _).alloc (Nat.le_refl _) _)
     have O2 := hid (own_below O1.out bel.out)
     have I2 := hid (HM.out.bel I1.out (bel.out.mono Z1.out) HZ.out)
     have B2 := hid (B1.out.trans (bel.out.mono (Nat.le_trans hB Z1.out)))
     have Z2 := hid (Nat.le_trans Z1.out bel.out.size)
     have HZZ := hid (show wx.heap.size + 1 = (wx.alloc (.cells #[.bool false, .int .i64 0, .int .i64 0] 46)).heap.size by simp)
     clear bel O1 I1 B1 Z1
     go_wp2_with (at_builtin; refine Hid.out ?_)
     delta Hid
     generalize wx.alloc (.cells #[.bool false, .int .i64 0, .int .i64 0] 46) = w2 at *
     refine wpList_appT Tryz.underlying28 seen_info rfl (by omega) rfl _ _ rfl w.heap.size (.slice A' k cap') k (seenCells (walkFrom ls p (moves.take k))) rfl (O2.out.alloc _) (some ⟨wx.heap.size + 1, 0, none⟩) 1 1 (seenCells [none]) rfl (src_blk (Blk.newAt HZZ.out _ _) rfl) (seenCells_one _) (by omega) (by omega) (by have := Z2.out; simp; omega) ?_
     intro v1 w3 own3 gr3 _
     have b3 : Below w.heap.size w2 w3 := ((Below.refl w.heap.size w2).alloc Z2.out _).grown gr3 (by have := Z2.out; simp; omega) (fun k hk => (O2.out.lt k hk).1)
     rw [← seenCells_append, ← FS.out] at own3
     obtain ⟨A3, cap3, rfl, _, _⟩ := own_slice own3
     have i3 := HM.out.bel I2.out b3 HZ.out
     rw [← FP.out] at i3
     have F := hid (show _ ∧ _ ∧ _ from ⟨own3, i3, B2.out.trans (b3.mono hB)⟩)
     clear own3 gr3 b3 i3 O2 I2 B2 Z2
     go_wp2_with fail
     go_roundw
     case rel => exact ⟨k + 1, A3, cap3, by omega, by go_num, rfl, F.out.1, F.out.2.1, F.out.2.2⟩
     case measure => simp [intOf]; omega
   have n3 : ¬ d.op = 3 := h1
   clear h1
   by_cases h1 : d.op = 4
   ·have e1 : mvPos ls P d = cn := by unfold mvPos; rw [if_neg (by omega), if_neg (by omega), if_neg (by omega), if_pos h1, KL.out]
    have e2 : mvSeen ls P d = seenAt ls (cn) := by unfold mvSeen mvTell; rw [e1, h1]; simp
    have fp := FF.out.2
    have fs := FF.out.1
    rw [e1] at fp
    rw [e2] at fs
    have FP := hid fp
    have c := HM.out.last IT0.out
    clear fp e1 e2
    rw [h1] at c0 MB IT0 OW BW hz c
    by_cases CL0 : 0 < cn
    ·rw [decide_eq_true CL0] at c
     have hqb : (cn - 1) < cn := by omega
     obtain ⟨x, hx⟩ : ∃ x, ls[(cn - 1)]? = some x := ⟨_, List.getElem?_eq_getElem (by rw [KL.out]; exact hqb)⟩
     have CL := hid CL0
     rw [show seenAt ls (cn) = some x by unfold seenAt; rw [if_neg (by have := CL.out; omega)]; rw [show cn - 1 = (cn - 1) by have := CL.out; omega]; exact hx] at fs
     have FS := hid fs
     have X := hid hx
     have C := hid c
     clear c hx h1 fs hqb CL0
     go_wp2_with fail
     refine C.out.mono ?_
     rintro e wx ⟨rfl, h1, on1⟩
     rw [show cn = cn - 1 + 1 by have := CL.out; omega] at h1
     obtain ⟨q, hq⟩ : ∃ q, q = (cn - 1) := ⟨_, rfl⟩
     rw [← hq] at h1 X
     have I1 := hid h1
     have FPq := hid (show goFrom ls p (moves.take (k + 1)) = q + 1 by first | (rw [FP.out, hq]; done) | (rw [FP.out, hq]; have := CL.out; omega))
     have FP := hid FPq.out
     clear FPq hq
     have O1 := hid (own_keep OW.out fun g hg hgl => on1.block g hgl (by simp only [List.mem_singleton]; intro e; have := HM.out.lt; have := HZ.out; omega))
     have B1 := hid (BW.out.trans (on1.below (fun b hb => by simp only [List.mem_singleton] at hb; subst hb; exact HLO.out) (Nat.le_trans hB BW.out.size)))
     have Z1 := hid (Nat.le_trans hz.out on1.size)
     clear h1 on1
     have IA := hid (HM.out.bel I1.out ((Below.refl w.heap.size wx).alloc Z1.out (.cells #[.bool true, .int .i64 0, .int .i64 0] 46)) HZ.out)
     have K1 := hid (HM.out.key (HM.out.drewN IA.out 1) (show ls[q]? = some (x.1, x.2) from X.out))
     have V1 := hid (HM.out.value (HM.out.drewN IA.out 1) (show ls[q]? = some (x.1, x.2) from X.out))
     have bel := hid (show Below wx.heap.size wx ((((wx.alloc (.cells #[.bool true, .int .i64 0, .int .i64 0] 46)).drewN 1).setCell ⟨wx.heap.size, 1, none⟩ (.int .i64 x.1)).setCell ⟨wx.heap.size, 2, none⟩ (.int .i64 x.2)) from ((Below.drewN' ((Below.refl _ _).alloc (Nat.le_refl _) _) 1).setCell (p := ⟨wx.heap.size, 1, none⟩) (Nat.le_refl _) _).setCell (p := ⟨wx.heap.size, 2, none⟩) (Nat.le_refl _) _)
     have O2 := hid (own_below O1.out bel.out)
     have I2 := hid (HM.out.bel I1.out (bel.out.mono Z1.out) HZ.out)
     have B2 := hid (B1.out.trans (bel.out.mono (Nat.le_trans hB Z1.out)))
     have Z2 := hid (Nat.le_trans Z1.out bel.out.size)
     have FB := hid (show Blk ((((wx.alloc (.cells #[.bool true, .int .i64 0, .int .i64 0] 46)).drewN 1).setCell ⟨wx.heap.size, 1, none⟩ (.int .i64 x.1)).setCell ⟨wx.heap.size, 2, none⟩ (.int .i64 x.2)) wx.heap.size 46 #[.bool true, .int .i64 x.1, .int .i64 x.2] from Blk.set_ (Blk.set_ (show Blk ((wx.alloc (.cells #[.bool true, .int .i64 0, .int .i64 0] 46)).drewN 1) wx.heap.size 46 #[.bool true, .int .i64 0, .int .i64 0] from Blk.new wx _ _) 1 (.int .i64 x.1)) 2 (.int .i64 x.2))
     go_wp2_with fail
     go_region_with (first
      | ((with_reducible refine (show Calls _ fK _ _ _ from ?_)); refine K1.out.mono ?_; rintro e wz ⟨rfl, rfl⟩)
      | ((with_reducible refine (show Calls _ fV _ _ _ from ?_)); refine V1.out.mono ?_; rintro e wz ⟨rfl, rfl⟩))
     all_goals
      clear K1 V1 IA bel O1 I1 B1 Z1
      generalize (((wx.alloc (.cells #[.bool true, .int .i64 0, .int .i64 0] 46)).drewN 1).setCell ⟨wx.heap.size, 1, none⟩ (.int .i64 x.1)).setCell ⟨wx.heap.size, 2, none⟩ (.int .i64 x.2) = w2 at *
      have hf0 : w2.cell? ⟨wx.heap.size, 0, none⟩ = some (.bool true) := FB.out.cell 0
      have hf1 : w2.cell? ⟨wx.heap.size, 1, none⟩ = some (.int .i64 x.1) := FB.out.cell 1
      have hf2 : w2.cell? ⟨wx.heap.size, 2, none⟩ = some (.int .i64 x.2) := FB.out.cell 2
      go_wp2_with (at_builtin; refine Hid.out ?_)
      delta Hid
      refine wpList_appT Tryz.underlying28 seen_info rfl (by omega) rfl _ _ rfl w.heap.size (.slice A' k cap') k (seenCells (walkFrom ls p (moves.take k))) rfl (O2.out.alloc _) (some ⟨w2.heap.size, 0, none⟩) 1 1 (seenCells [some x]) rfl (src_blk (Blk.newAt rfl _ _) rfl) (seenCells_one _) (by omega) (by omega) (by have := Z2.out; simp; omega) ?_
      intro v1 w3 own3 gr3 _
      have b3 : Below w.heap.size w2 w3 := ((Below.refl w.heap.size w2).alloc Z2.out _).grown gr3 (by have := Z2.out; simp; omega) (fun k hk => (O2.out.lt k hk).1)
      rw [← seenCells_append, ← FS.out] at own3
      obtain ⟨A3, cap3, rfl, _, _⟩ := own_slice own3
      have i3 := HM.out.bel I2.out b3 HZ.out
      rw [← FP.out] at i3
      have F := hid (show _ ∧ _ ∧ _ from ⟨own3, i3, B2.out.trans (b3.mono hB)⟩)
      clear own3 gr3 b3 i3 O2 I2 B2 Z2
      go_wp2_with fail
      go_roundw
      case rel => exact ⟨k + 1, A3, cap3, by omega, by go_num, rfl, F.out.1, F.out.2.1, F.out.2.2⟩
      case measure => simp [intOf]; omega
    ·rw [decide_eq_false CL0] at c
     have CL := hid CL0
     rw [show seenAt ls (cn) = none by unfold seenAt; rw [if_pos (by have := CL.out; omega)]] at fs
     have FS := hid fs
     have C := hid c
     clear c h1 fs CL0
     go_wp2_with fail
     refine C.out.mono ?_
     rintro e wx ⟨rfl, h1, on1⟩
     have I1 := hid h1
     have O1 := hid (own_keep OW.out fun g hg hgl => on1.block g hgl (by simp only [List.mem_singleton]; intro e; have := HM.out.lt; have := HZ.out; omega))
     have B1 := hid (BW.out.trans (on1.below (fun b hb => by simp only [List.mem_singleton] at hb; subst hb; exact HLO.out) (Nat.le_trans hB BW.out.size)))
     have Z1 := hid (Nat.le_trans hz.out on1.size)
     clear h1 on1
     have bel := hid (show Below wx.heap.size wx (wx.alloc (.cells #[.bool false, .int .i64 0, .int .i64 0] 46)) from (Below.refl _ _).alloc (Nat.le_refl _) _)
     have O2 := hid (own_below O1.out bel.out)
     have I2 := hid (HM.out.bel I1.out (bel.out.mono Z1.out) HZ.out)
     have B2 := hid (B1.out.trans (bel.out.mono (Nat.le_trans hB Z1.out)))
     have Z2 := hid (Nat.le_trans Z1.out bel.out.size)
     have HZZ := hid (show wx.heap.size + 1 = (wx.alloc (.cells #[.bool false, .int .i64 0, .int .i64 0] 46)).heap.size by simp)
     clear bel O1 I1 B1 Z1
     go_wp2_with (at_builtin; refine Hid.out ?_)
     delta Hid
     generalize wx.alloc (.cells #[.bool false, .int .i64 0, .int .i64 0] 46) = w2 at *
     refine wpList_appT Tryz.underlying28 seen_info rfl (by omega) rfl _ _ rfl w.heap.size (.slice A' k cap') k (seenCells (walkFrom ls p (moves.take k))) rfl (O2.out.alloc _) (some ⟨wx.heap.size + 1, 0, none⟩) 1 1 (seenCells [none]) rfl (src_blk (Blk.newAt HZZ.out _ _) rfl) (seenCells_one _) (by omega) (by omega) (by have := Z2.out; simp; omega) ?_
     intro v1 w3 own3 gr3 _
     have b3 : Below w.heap.size w2 w3 := ((Below.refl w.heap.size w2).alloc Z2.out _).grown gr3 (by have := Z2.out; simp; omega) (fun k hk => (O2.out.lt k hk).1)
     rw [← seenCells_append, ← FS.out] at own3
     obtain ⟨A3, cap3, rfl, _, _⟩ := own_slice own3
     have i3 := HM.out.bel I2.out b3 HZ.out
     rw [← FP.out] at i3
     have F := hid (show _ ∧ _ ∧ _ from ⟨own3, i3, B2.out.trans (b3.mono hB)⟩)
     clear own3 gr3 b3 i3 O2 I2 B2 Z2
     go_wp2_with fail
     go_roundw
     case rel => exact ⟨k + 1, A3, cap3, by omega, by go_num, rfl, F.out.1, F.out.2.1, F.out.2.2⟩
     case measure => simp [intOf]; omega
   have n4 : ¬ d.op = 4 := h1
   clear h1
   by_cases h1 : d.op = 5
   ·have e1 : mvPos ls P d = 0 := by unfold mvPos; rw [if_neg (by omega), if_neg (by omega), if_neg (by omega), if_neg (by omega), if_pos h1]
    have e2 : mvSeen ls P d = none := by unfold mvSeen mvTell; rw [h1]; simp
    have fp := FF.out.2
    have fs := FF.out.1
    rw [e1] at fp
    rw [e2] at fs
    have FP := hid fp
    have FS := hid fs
    have c := HM.out.begin_ IT0.out
    clear fp fs e1 e2
    rw [h1] at c0 MB IT0 OW BW hz c
    have C := hid c
    clear c h1
    go_wp2_with fail
    refine C.out.mono ?_
    rintro e wx ⟨rfl, h1, on1⟩
    have I1 := hid h1
    have O1 := hid (own_keep OW.out fun g hg hgl => on1.block g hgl (by simp only [List.mem_singleton]; intro e; have := HM.out.lt; have := HZ.out; omega))
    have B1 := hid (BW.out.trans (on1.below (fun b hb => by simp only [List.mem_singleton] at hb; subst hb; exact HLO.out) (Nat.le_trans hB BW.out.size)))
    have Z1 := hid (Nat.le_trans hz.out on1.size)
    clear h1 on1
    have bel := hid (show Below wx.heap.size wx (wx.alloc (.cells #[.bool false, .int .i64 0, .int .i64 0] 46)) from (Below.refl _ _).alloc (Nat.le_refl _) _)
    have O2 := hid (own_below O1.out bel.out)
    have I2 := hid (HM.out.bel I1.out (bel.out.mono Z1.out) HZ.out)
    have B2 := hid (B1.out.trans (bel.out.mono (Nat.le_trans hB Z1.out)))
    have Z2 := hid (Nat.le_trans Z1.out bel.out.size)
    have HZZ := hid (show wx.heap.size + 1 = (wx.alloc (.cells #[.bool false, .int .i64 0, .int .i64 0] 46)).heap.size by simp)
    clear bel O1 I1 B1 Z1
    go_wp2_with (at_builtin; refine Hid.out ?_)
    delta Hid
    generalize wx.alloc (.cells #[.bool false, .int .i64 0, .int .i64 0] 46) = w2 at *
    refine wpList_appT Tryz.underlying28 seen_info rfl (by omega) rfl _ _ rfl w.heap.size (.slice A' k cap') k (seenCells (walkFrom ls p (moves.take k))) rfl (O2.out.alloc _) (some ⟨wx.heap.size + 1, 0, none⟩) 1 1 (seenCells [none]) rfl (src_blk (Blk.newAt HZZ.out _ _) rfl) (seenCells_one _) (by omega) (by omega) (by have := Z2.out; simp; omega) ?_
    intro v1 w3 own3 gr3 _
    have b3 : Below w.heap.size w2 w3 := ((Below.refl w.heap.size w2).alloc Z2.out _).grown gr3 (by have := Z2.out; simp; omega) (fun k hk => (O2.out.lt k hk).1)
    rw [← seenCells_append, ← FS.out] at own3
    obtain ⟨A3, cap3, rfl, _, _⟩ := own_slice own3
    have i3 := HM.out.bel I2.out b3 HZ.out
    rw [← FP.out] at i3
    have F := hid (show _ ∧ _ ∧ _ from ⟨own3, i3, B2.out.trans (b3.mono hB)⟩)
    clear own3 gr3 b3 i3 O2 I2 B2 Z2
    go_wp2_with fail
    go_roundw
    case rel => exact ⟨k + 1, A3, cap3, by omega, by go_num, rfl, F.out.1, F.out.2.1, F.out.2.2⟩
    case measure => simp [intOf]; omega
   have n5 : ¬ d.op = 5 := h1
   clear h1
   by_cases h1 : d.op = 6
   ·have e1 : mvPos ls P d = cn + 1 := by unfold mvPos; rw [if_neg (by omega), if_neg (by omega), if_neg (by omega), if_neg (by omega), if_neg (by omega), if_pos h1, KL.out]
    have e2 : mvSeen ls P d = none := by unfold mvSeen mvTell; rw [h1]; simp
    have fp := FF.out.2
    have fs := FF.out.1
    rw [e1] at fp
    rw [e2] at fs
    have FP := hid fp
    have FS := hid fs
    have c := HM.out.end_ IT0.out
    clear fp fs e1 e2
    rw [h1] at c0 MB IT0 OW BW hz c
    have C := hid c
    clear c h1
    go_wp2_with fail
    refine C.out.mono ?_
    rintro e wx ⟨rfl, h1, on1⟩
    have I1 := hid h1
    have O1 := hid (own_keep OW.out fun g hg hgl => on1.block g hgl (by simp only [List.mem_singleton]; intro e; have := HM.out.lt; have := HZ.out; omega))
    have B1 := hid (BW.out.trans (on1.below (fun b hb => by simp only [List.mem_singleton] at hb; subst hb; exact HLO.out) (Nat.le_trans hB BW.out.size)))
    have Z1 := hid (Nat.le_trans hz.out on1.size)
    clear h1 on1
    have bel := hid (show Below wx.heap.size wx (wx.alloc (.cells #[.bool false, .int .i64 0, .int .i64 0] 46)) from (Below.refl _ _).alloc (Nat.le_refl _) _)
    have O2 := hid (own_below O1.out bel.out)
    have I2 := hid (HM.out.bel I1.out (bel.out.mono Z1.out) HZ.out)
    have B2 := hid (B1.out.trans (bel.out.mono (Nat.le_trans hB Z1.out)))
    have Z2 := hid (Nat.le_trans Z1.out bel.out.size)
    have HZZ := hid (show wx.heap.size + 1 = (wx.alloc (.cells #[.bool false, .int .i64 0, .int .i64 0] 46)).heap.size by simp)
    clear bel O1 I1 B1 Z1
    go_wp2_with (at_builtin; refine Hid.out ?_)
    delta Hid
    generalize wx.alloc (.cells #[.bool false, .int .i64 0, .int .i64 0] 46) = w2 at *
    refine wpList_appT Tryz.underlying28 seen_info rfl (by omega) rfl _ _ rfl w.heap.size (.slice A' k cap') k (seenCells (walkFrom ls p (moves.take k))) rfl (O2.out.alloc _) (some ⟨wx.heap.size + 1, 0, none⟩) 1 1 (seenCells [none]) rfl (src_blk (Blk.newAt HZZ.out _ _) rfl) (seenCells_one _) (by omega) (by omega) (by have := Z2.out; simp; omega) ?_
    intro v1 w3 own3 gr3 _
    have b3 : Below w.heap.size w2 w3 := ((Below.refl w.heap.size w2).alloc Z2.out _).grown gr3 (by have := Z2.out; simp; omega) (fun k hk => (O2.out.lt k hk).1)
    rw [← seenCells_append, ← FS.out] at own3
    obtain ⟨A3, cap3, rfl, _, _⟩ := own_slice own3
    have i3 := HM.out.bel I2.out b3 HZ.out
    rw [← FP.out] at i3
    have F := hid (show _ ∧ _ ∧ _ from ⟨own3, i3, B2.out.trans (b3.mono hB)⟩)
    clear own3 gr3 b3 i3 O2 I2 B2 Z2
    go_wp2_with fail
    go_roundw
    case rel => exact ⟨k + 1, A3, cap3, by omega, by go_num, rfl, F.out.1, F.out.2.1, F.out.2.2⟩
    case measure => simp [intOf]; omega
   have n6 : ¬ d.op = 6 := h1
   clear h1
   by_cases h1 : d.op = 7
   ·have e1 : mvPos ls P d = up d ls (min P cn) + 1 := by unfold mvPos; rw [if_neg (by omega), if_neg (by omega), if_neg (by omega), if_neg (by omega), if_neg (by omega), if_neg (by omega), if_pos h1, KL.out]
    have e2 : mvSeen ls P d = seenAt ls (up d ls (min P cn) + 1) := by unfold mvSeen mvTell; rw [e1, h1]; simp
    have fp := FF.out.2
    have fs := FF.out.1
    rw [e1] at fp
    rw [e2] at fs
    have FP := hid fp
    have c := HM.out.nextTo IT0.out d wr.heap.size (OKD.out (.inl h1)).1 (OKD.out (.inl h1)).2 MB.out MN.out
    clear fp e1 e2
    rw [h1] at c0 MB IT0 OW BW hz c
    by_cases CL0 : up d ls (min P cn) < cn
    ·rw [decide_eq_true CL0] at c
     have hqb : (up d ls (min P cn)) < cn := by exact CL0
     obtain ⟨x, hx⟩ : ∃ x, ls[(up d ls (min P cn))]? = some x := ⟨_, List.getElem?_eq_getElem (by rw [KL.out]; exact hqb)⟩
     have CL := hid CL0
     rw [show seenAt ls (up d ls (min P cn) + 1) = some x by unfold seenAt; rw [if_neg (by have := CL.out; omega)]; rw [show up d ls (min P cn) + 1 - 1 = (up d ls (min P cn)) by have := CL.out; omega]; exact hx] at fs
     have FS := hid fs
     have X := hid hx
     have C := hid c
     clear c hx h1 fs hqb CL0
     go_wp2_with fail
     refine C.out.mono ?_
     rintro e wx ⟨rfl, h1, on1⟩
     obtain ⟨q, hq⟩ : ∃ q, q = (up d ls (min P cn)) := ⟨_, rfl⟩
     rw [← hq] at h1 X
     have I1 := hid h1
     have FPq := hid (show goFrom ls p (moves.take (k + 1)) = q + 1 by first | (rw [FP.out, hq]; done) | (rw [FP.out, hq]; have := CL.out; omega))
     have FP := hid FPq.out
     clear FPq hq
     have O1 := hid (own_keep OW.out fun g hg hgl => on1.block g hgl (by simp only [List.mem_singleton]; intro e; have := HM.out.lt; have := HZ.out; omega))
     have B1 := hid (BW.out.trans (on1.below (fun b hb => by simp only [List.mem_singleton] at hb; subst hb; exact HLO.out) (Nat.le_trans hB BW.out.size)))
     have Z1 := hid (Nat.le_trans hz.out on1.size)
     clear h1 on1
     have IA := hid (HM.out.bel I1.out ((Below.refl w.heap.size wx).alloc Z1.out (.cells #[.bool true, .int .i64 0, .int .i64 0] 46)) HZ.out)
     have K1 := hid (HM.out.key (HM.out.drewN IA.out 1) (show ls[q]? = some (x.1, x.2) from X.out))
     have V1 := hid (HM.out.value (HM.out.drewN IA.out 1) (show ls[q]? = some (x.1, x.2) from X.out))
     have bel := hid (show Below wx.heap.size wx ((((wx.alloc (.cells #[.bool true, .int .i64 0, .int .i64 0] 46)).drewN 1).setCell ⟨wx.heap.size, 1, none⟩ (.int .i64 x.1)).setCell ⟨wx.heap.size, 2, none⟩ (.int .i64 x.2)) from ((Below.drewN' ((Below.refl _ _).alloc (Nat.le_refl _) _) 1).setCell (p := ⟨wx.heap.size, 1, none⟩) (Nat.le_refl _) _).setCell (p := ⟨wx.heap.size, 2, none⟩) (Nat.le_refl _) _)
     have O2 := hid (own_below O1.out bel.out)
     have I2 := hid (HM.out.bel I1.out (bel.out.mono Z1.out) HZ.out)
     have B2 := hid (B1.out.trans (bel.out.mono (Nat.le_trans hB Z1.out)))
     have Z2 := hid (Nat.le_trans Z1.out bel.out.size)
     have FB := hid (show Blk ((((wx.alloc (.cells #[.bool true, .int .i64 0, .int .i64 0] 46)).drewN 1).setCell ⟨wx.heap.size, 1, none⟩ (.int .i64 x.1)).setCell ⟨wx.heap.size, 2, none⟩ (.int .i64 x.2)) wx.heap.size 46 #[.bool true, .int .i64 x.1, .int .i64 x.2] from Blk.set_ (Blk.set_ (show Blk ((wx.alloc (.cells #[.bool true, .int .i64 0, .int .i64 0] 46)).drewN 1) wx.heap.size 46 #[.bool true, .int .i64 0, .int .i64 0] from Blk.new wx _ _) 1 (.int .i64 x.1)) 2 (.int .i64 x.2))
     go_wp2_with fail
     go_region_with (first
      | ((with_reducible refine (show Calls _ fK _ _ _ from ?_)); refine K1.out.mono ?_; rintro e wz ⟨rfl, rfl⟩)
      | ((with_reducible refine (show Calls _ fV _ _ _ from ?_)); refine V1.out.mono ?_; rintro e wz ⟨rfl, rfl⟩))
     all_goals
      clear K1 V1 IA bel O1 I1 B1 Z1
      generalize (((wx.alloc (.cells #[.bool true, .int .i64 0, .int .i64 0] 46)).drewN 1).setCell ⟨wx.heap.size, 1, none⟩ (.int .i64 x.1)).setCell ⟨wx.heap.size, 2, none⟩ (.int .i64 x.2) = w2 at *
      have hf0 : w2.cell? ⟨wx.heap.size, 0, none⟩ = some (.bool true) := FB.out.cell 0
      have hf1 : w2.cell? ⟨wx.heap.size, 1, none⟩ = some (.int .i64 x.1) := FB.out.cell 1
      have hf2 : w2.cell? ⟨wx.heap.size, 2, none⟩ = some (.int .i64 x.2) := FB.out.cell 2
      go_wp2_with (at_builtin; refine Hid.out ?_)
      delta Hid
      refine wpList_appT Tryz.underlying28 seen_info rfl (by omega) rfl _ _ rfl w.heap.size (.slice A' k cap') k (seenCells (walkFrom ls p (moves.take k))) rfl (O2.out.alloc _) (some ⟨w2.heap.size, 0, none⟩) 1 1 (seenCells [some x]) rfl (src_blk (Blk.newAt rfl _ _) rfl) (seenCells_one _) (by omega) (by omega) (by have := Z2.out; simp; omega) ?_
      intro v1 w3 own3 gr3 _
      have b3 : Below w.heap.size w2 w3 := ((Below.refl w.heap.size w2).alloc Z2.out _).grown gr3 (by have := Z2.out; simp; omega) (fun k hk => (O2.out.lt k hk).1)
      rw [← seenCells_append, ← FS.out] at own3
      obtain ⟨A3, cap3, rfl, _, _⟩ := own_slice own3
      have i3 := HM.out.bel I2.out b3 HZ.out
      rw [← FP.out] at i3
      have F := hid (show _ ∧ _ ∧ _ from ⟨own3, i3, B2.out.trans (b3.mono hB)⟩)
      clear own3 gr3 b3 i3 O2 I2 B2 Z2
      go_wp2_with fail
      go_roundw
      case rel => exact ⟨k + 1, A3, cap3, by omega, by go_num, rfl, F.out.1, F.out.2.1, F.out.2.2⟩
      case measure => simp [intOf]; omega
    ·rw [decide_eq_false CL0] at c
     have CL := hid CL0
     rw [show seenAt ls (up d ls (min P cn) + 1) = none by unfold seenAt; rw [if_neg (by omega)]; exact List.getElem?_eq_none (by rw [KL.out]; have := CL.out; omega)] at fs
     have FS := hid fs
     have C := hid c
     clear c h1 fs CL0
     go_wp2_with fail
     refine C.out.mono ?_
     rintro e wx ⟨rfl, h1, on1⟩
     have I1 := hid h1
     have O1 := hid (own_keep OW.out fun g hg hgl => on1.block g hgl (by simp only [List.mem_singleton]; intro e; have := HM.out.lt; have := HZ.out; omega))
     have B1 := hid (BW.out.trans (on1.below (fun b hb => by simp only [List.mem_singleton] at hb; subst hb; exact HLO.out) (Nat.le_trans hB BW.out.size)))
     have Z1 := hid (Nat.le_trans hz.out on1.size)
     clear h1 on1
     have bel := hid (show Below wx.heap.size wx (wx.alloc (.cells #[.bool false, .int .i64 0, .int .i64 0] 46)) from (Below.refl _ _).alloc (Nat.le_refl _) _)
     have O2 := hid (own_below O1.out bel.out)
     have I2 := hid (HM.out.bel I1.out (bel.out.mono Z1.out) HZ.out)
     have B2 := hid (B1.out.trans (bel.out.mono (Nat.le_trans hB Z1.out)))
     have Z2 := hid (Nat.le_trans Z1.out bel.out.size)
     have HZZ := hid (show wx.heap.size + 1 = (wx.alloc (.cells #[.bool false, .int .i64 0, .int .i64 0] 46)).heap.size by simp)
     clear bel O1 I1 B1 Z1
     go_wp2_with (at_builtin; refine Hid.out ?_)
     delta Hid
     generalize wx.alloc (.cells #[.bool false, .int .i64 0, .int .i64 0] 46) = w2 at *
     refine wpList_appT Tryz.underlying28 seen_info rfl (by omega) rfl _ _ rfl w.heap.size (.slice A' k cap') k (seenCells (walkFrom ls p (moves.take k))) rfl (O2.out.alloc _) (some ⟨wx.heap.size + 1, 0, none⟩) 1 1 (seenCells [none]) rfl (src_blk (Blk.newAt HZZ.out _ _) rfl) (seenCells_one _) (by omega) (by omega) (by have := Z2.out; simp; omega) ?_
     intro v1 w3 own3 gr3 _
     have b3 : Below w.heap.size w2 w3 := ((Below.refl w.heap.size w2).alloc Z2.out _).grown gr3 (by have := Z2.out; simp; omega) (fun k hk => (O2.out.lt k hk).1)
     rw [← seenCells_append, ← FS.out] at own3
     obtain ⟨A3, cap3, rfl, _, _⟩ := own_slice own3
     have i3 := HM.out.bel I2.out b3 HZ.out
     rw [← FP.out] at i3
     have F := hid (show _ ∧ _ ∧ _ from ⟨own3, i3, B2.out.trans (b3.mono hB)⟩)
     clear own3 gr3 b3 i3 O2 I2 B2 Z2
     go_wp2_with fail
     go_roundw
     case rel => exact ⟨k + 1, A3, cap3, by omega, by go_num, rfl, F.out.1, F.out.2.1, F.out.2.2⟩
     case measure => simp [intOf]; omega
   have n7 : ¬ d.op = 7 := h1
   clear h1
   by_cases h1 : d.op = 8
   ·have e1 : mvPos ls P d = dn d ls (P - 1) := by unfold mvPos; rw [if_neg (by omega), if_neg (by omega), if_neg (by omega), if_neg (by omega), if_neg (by omega), if_neg (by omega), if_neg (by omega), if_pos h1]
    have e2 : mvSeen ls P d = seenAt ls (dn d ls (P - 1)) := by unfold mvSeen mvTell; rw [e1, h1]; simp
    have fp := FF.out.2
    have fs := FF.out.1
    rw [e1] at fp
    rw [e2] at fs
    have FP := hid fp
    have c := HM.out.prevTo IT0.out d wr.heap.size (OKD.out (.inr h1)).1 (OKD.out (.inr h1)).2 MB.out MN.out
    clear fp e1 e2
    rw [h1] at c0 MB IT0 OW BW hz c
    by_cases CL0 : 0 < dn d ls (P - 1)
    ·rw [decide_eq_true CL0] at c
     have hqb : (dn d ls (P - 1) - 1) < cn := by have := dn_le d ls (P - 1); have := PLE.out; omega
     obtain ⟨x, hx⟩ : ∃ x, ls[(dn d ls (P - 1) - 1)]? = some x := ⟨_, List.getElem?_eq_getElem (by rw [KL.out]; exact hqb)⟩
     have CL := hid CL0
     rw [show seenAt ls (dn d ls (P - 1)) = some x by unfold seenAt; rw [if_neg (by have := CL.out; omega)]; rw [show dn d ls (P - 1) - 1 = (dn d ls (P - 1) - 1) by have := CL.out; omega]; exact hx] at fs
     have FS := hid fs
     have X := hid hx
     have C := hid c
     clear c hx h1 fs hqb CL0
     go_wp2_with fail
     refine C.out.mono ?_
     rintro e wx ⟨rfl, h1, on1⟩
     rw [show dn d ls (P - 1) = dn d ls (P - 1) - 1 + 1 by have := CL.out; omega] at h1
     obtain ⟨q, hq⟩ : ∃ q, q = (dn d ls (P - 1) - 1) := ⟨_, rfl⟩
     rw [← hq] at h1 X
     have I1 := hid h1
     have FPq := hid (show goFrom ls p (moves.take (k + 1)) = q + 1 by first | (rw [FP.out, hq]; done) | (rw [FP.out, hq]; have := CL.out; omega))
     have FP := hid FPq.out
     clear FPq hq
     have O1 := hid (own_keep OW.out fun g hg hgl => on1.block g hgl (by simp only [List.mem_singleton]; intro e; have := HM.out.lt; have := HZ.out; omega))
     have B1 := hid (BW.out.trans (on1.below (fun b hb => by simp only [List.mem_singleton] at hb; subst hb; exact HLO.out) (Nat.le_trans hB BW.out.size)))
     have Z1 := hid (Nat.le_trans hz.out on1.size)
     clear h1 on1
     have IA := hid (HM.out.bel I1.out ((Below.refl w.heap.size wx).alloc Z1.out (.cells #[.bool true, .int .i64 0, .int .i64 0] 46)) HZ.out)
     have K1 := hid (HM.out.key (HM.out.drewN IA.out 1) (show ls[q]? = some (x.1, x.2) from X.out))
     have V1 := hid (HM.out.value (HM.out.drewN IA.out 1) (show ls[q]? = some (x.1, x.2) from X.out))
     have bel := hid (show Below wx.heap.size wx ((((wx.alloc (.cells #[.bool true, .int .i64 0, .int .i64 0] 46)).drewN 1).setCell ⟨wx.heap.size, 1, none⟩ (.int .i64 x.1)).setCell ⟨wx.heap.size, 2, none⟩ (.int .i64 x.2)) from ((Below.drewN' ((Below.refl _ _).alloc (Nat.le_refl _) _) 1).setCell (p := ⟨wx.heap.size, 1, none⟩) (Nat.le_refl _) _).setCell (p := ⟨wx.heap.size, 2, none⟩) (Nat.le_refl _) _)
     have O2 := hid (own_below O1.out bel.out)
     have I2 := hid (HM.out.bel I1.out (bel.out.mono Z1.out) HZ.out)
     have B2 := hid (B1.out.trans (bel.out.mono (Nat.le_trans hB Z1.out)))
     have Z2 := hid (Nat.le_trans Z1.out bel.out.size)
     have FB := hid (show Blk ((((wx.alloc (.cells #[.bool true, .int .i64 0, .int .i64 0] 46)).drewN 1).setCell ⟨wx.heap.size, 1, none⟩ (.int .i64 x.1)).setCell ⟨wx.heap.size, 2, none⟩ (.int .i64 x.2)) wx.heap.size 46 #[.bool true, .int .i64 x.1, .int .i64 x.2] from Blk.set_ (Blk.set_ (show Blk ((wx.alloc (.cells #[.bool true, .int .i64 0, .int .i64 0] 46)).drewN 1) wx.heap.size 46 #[.bool true, .int .i64 0, .int .i64 0] from Blk.new wx _ _) 1 (.int .i64 x.1)) 2 (.int .i64 x.2))
     go_wp2_with fail
     go_region_with (first
      | ((with_reducible refine (show Calls _ fK _ _ _ from ?_)); refine K1.out.mono ?_; rintro e wz ⟨rfl, rfl⟩)
      | ((with_reducible refine (show Calls _ fV _ _ _ from ?_)); refine V1.out.mono ?_; rintro e wz ⟨rfl, rfl⟩))
     all_goals
      clear K1 V1 IA bel O1 I1 B1 Z1
      generalize (((wx.alloc (.cells #[.bool true, .int .i64 0, .int .i64 0] 46)).drewN 1).setCell ⟨wx.heap.size, 1, none⟩ (.int .i64 x.1)).setCell ⟨wx.heap.size, 2, none⟩ (.int .i64 x.2) = w2 at *
      have hf0 : w2.cell? ⟨wx.heap.size, 0, none⟩ = some (.bool true) := FB.out.cell 0
      have hf1 : w2.cell? ⟨wx.heap.size, 1, none⟩ = some (.int .i64 x.1) := FB.out.cell 1
      have hf2 : w2.cell? ⟨wx.heap.size, 2, none⟩ = some (.int .i64 x.2) := FB.out.cell 2
      go_wp2_with (at_builtin; refine Hid.out ?_)
      delta Hid
      refine wpList_appT Tryz.underlying28 seen_info rfl (by omega) rfl _ _ rfl w.heap.size (.slice A' k cap') k (seenCells (walkFrom ls p (moves.take k))) rfl (O2.out.alloc _) (some ⟨w2.heap.size, 0, none⟩) 1 1 (seenCells [some x]) rfl (src_blk (Blk.newAt rfl _ _) rfl) (seenCells_one _) (by omega) (by omega) (by have := Z2.out; simp; omega) ?_
      intro v1 w3 own3 gr3 _
      have b3 : Below w.heap.size w2 w3 := ((Below.refl w.heap.size w2).alloc Z2.out _).grown gr3 (by have := Z2.out; simp; omega) (fun k hk => (O2.out.lt k hk).1)
      rw [← seenCells_append, ← FS.out] at own3
      obtain ⟨A3, cap3, rfl, _, _⟩ := own_slice own3
      have i3 := HM.out.bel I2.out b3 HZ.out
      rw [← FP.out] at i3
      have F := hid (show _ ∧ _ ∧ _ from ⟨own3, i3, B2.out.trans (b3.mono hB)⟩)
      clear own3 gr3 b3 i3 O2 I2 B2 Z2
      go_wp2_with fail
      go_roundw
      case rel => exact ⟨k + 1, A3, cap3, by omega, by go_num, rfl, F.out.1, F.out.2.1, F.out.2.2⟩
      case measure => simp [intOf]; omega
    ·rw [decide_eq_false CL0] at c
     have CL := hid CL0
     rw [show seenAt ls (dn d ls (P - 1)) = none by unfold seenAt; rw [if_pos (by have := CL.out; omega)]] at fs
     have FS := hid fs
     have C := hid c
     clear c h1 fs CL0
     go_wp2_with fail
     refine C.out.mono ?_
     rintro e wx ⟨rfl, h1, on1⟩
     have I1 := hid h1
     have O1 := hid (own_keep OW.out fun g hg hgl => on1.block g hgl (by simp only [List.mem_singleton]; intro e; have := HM.out.lt; have := HZ.out; omega))
     have B1 := hid (BW.out.trans (on1.below (fun b hb => by simp only [List.mem_singleton] at hb; subst hb; exact HLO.out) (Nat.le_trans hB BW.out.size)))
     have Z1 := hid (Nat.le_trans hz.out on1.size)
     clear h1 on1
     have bel := hid (show Below wx.heap.size wx (wx.alloc (.cells #[.bool false, .int .i64 0, .int .i64 0] 46)) from (Below.refl _ _).alloc (Nat.le_refl _) _)
     have O2 := hid (own_below O1.out bel.out)
     have I2 := hid (HM.out.bel I1.out (bel.out.mono Z1.out) HZ.out)
     have B2 := hid (B1.out.trans (bel.out.mono (Nat.le_trans hB Z1.out)))
     have Z2 := hid (Nat.le_trans Z1.out bel.out.size)
     have HZZ := hid (show wx.heap.size + 1 = (wx.alloc (.cells #[.bool false, .int .i64 0, .int .i64 0] 46)).heap.size by simp)
     clear bel O1 I1 B1 Z1
     go_wp2_with (at_builtin; refine Hid.out ?_)
     delta Hid
     generalize wx.alloc (.cells #[.bool false, .int .i64 0, .int .i64 0] 46) = w2 at *
     refine wpList_appT Tryz.underlying28 seen_info rfl (by omega) rfl _ _ rfl w.heap.size (.slice A' k cap') k (seenCells (walkFrom ls p (moves.take k))) rfl (O2.out.alloc _) (some ⟨wx.heap.size + 1, 0, none⟩) 1 1 (seenCells [none]) rfl (src_blk (Blk.newAt HZZ.out _ _) rfl) (seenCells_one _) (by omega) (by omega) (by have := Z2.out; simp; omega) ?_
     intro v1 w3 own3 gr3 _
     have b3 : Below w.heap.size w2 w3 := ((Below.refl w.heap.size w2).alloc Z2.out _).grown gr3 (by have := Z2.out; simp; omega) (fun k hk => (O2.out.lt k hk).1)
     rw [← seenCells_append, ← FS.out] at own3
     obtain ⟨A3, cap3, rfl, _, _⟩ := own_slice own3
     have i3 := HM.out.bel I2.out b3 HZ.out
     rw [← FP.out] at i3
     have F := hid (show _ ∧ _ ∧ _ from ⟨own3, i3, B2.out.trans (b3.mono hB)⟩)
     clear own3 gr3 b3 i3 O2 I2 B2 Z2
     go_wp2_with fail
     go_roundw
     case rel => exact ⟨k + 1, A3, cap3, by omega, by go_num, rfl, F.out.1, F.out.2.1, F.out.2.2⟩
     case measure => simp [intOf]; omega
   have n8 : ¬ d.op = 8 := h1
   clear h1
   have e1 : mvPos ls P d = P := by unfold mvPos; simp only [n1, n2, n3, n4, n5, n6, n7, n8, if_false]
   have e2 : mvSeen ls P d = none := by unfold mvSeen mvTell; simp [n1, n2, n3, n4, n7, n8]
   have fp := FF.out.2
   have fs := FF.out.1
   rw [e1] at fp
   rw [e2] at fs
   have FP := hid fp
   have FS := hid fs
   have b1 : (d.op == 1) = false := by simpa using n1
   have b2 : (d.op == 2) = false := by simpa using n2
   have b3 : (d.op == 3) = false := by simpa using n3
   have b4 : (d.op == 4) = false := by simpa using n4
   have b5 : (d.op == 5) = false := by simpa using n5
   have b6 : (d.op == 6) = false := by simpa using n6
   have b7 : (d.op == 7) = false := by simpa using n7
   have b8 : (d.op == 8) = false := by simpa using n8
   have O1 := OW
   have I1 := IT0
   have B1 := BW
   have Z1 := hz
   clear fp fs e1 e2 n1 n2 n3 n4 n5 n6 n7 n8
   have bel := hid (show Below (wr.alloc (.cells #[.int .i64 d.op, .int .i64 d.key, .int .i64 d.val] 35)).heap.size (wr.alloc (.cells #[.int .i64 d.op, .int .i64 d.key, .int .i64 d.val] 35)) ((wr.alloc (.cells #[.int .i64 d.op, .int .i64 d.key, .int .i64 d.val] 35)).alloc (.cells #[.bool false, .int .i64 0, .int .i64 0] 46)) from (Below.refl _ _).alloc (Nat.le_refl _) _)
   have O2 := hid (own_below O1.out bel.out)
   have I2 := hid (HM.out.bel I1.out (bel.out.mono Z1.out) HZ.out)
   have B2 := hid (B1.out.trans (bel.out.mono (Nat.le_trans hB Z1.out)))
   have Z2 := hid (Nat.le_trans Z1.out bel.out.size)
   have HZZ := hid (show wr.heap.size + 1 + 1 = ((wr.alloc (.cells #[.int .i64 d.op, .int .i64 d.key, .int .i64 d.val] 35)).alloc (.cells #[.bool false, .int .i64 0, .int .i64 0] 46)).heap.size by simp)
   clear bel O1 I1 B1 Z1
   go_wp2_with (at_builtin; refine Hid.out ?_)
   delta Hid
   generalize (wr.alloc (.cells #[.int .i64 d.op, .int .i64 d.key, .int .i64 d.val] 35)).alloc (.cells #[.bool false, .int .i64 0, .int .i64 0] 46) = w2 at *
   refine wpList_appT Tryz.underlying28 seen_info rfl (by omega) rfl _ _ rfl w.heap.size (.slice A' k cap') k (seenCells (walkFrom ls p (moves.take k))) rfl (O2.out.alloc _) (some ⟨wr.heap.size + 1 + 1, 0, none⟩) 1 1 (seenCells [none]) rfl (src_blk (Blk.newAt HZZ.out _ _) rfl) (seenCells_one _) (by omega) (by omega) (by have := Z2.out; simp; omega) ?_
   intro v1 w3 own3 gr3 _
   have b3 : Below w.heap.size w2 w3 := ((Below.refl w.heap.size w2).alloc Z2.out _).grown gr3 (by have := Z2.out; simp; omega) (fun k hk => (O2.out.lt k hk).1)
   rw [← seenCells_append, ← FS.out] at own3
   obtain ⟨A3, cap3, rfl, _, _⟩ := own_slice own3
   have i3 := HM.out.bel I2.out b3 HZ.out
   rw [← FP.out] at i3
   have F := hid (show _ ∧ _ ∧ _ from ⟨own3, i3, B2.out.trans (b3.mono hB)⟩)
   clear own3 gr3 b3 i3 O2 I2 B2 Z2
   go_wp2_with fail
   go_roundw
   case rel => exact ⟨k + 1, A3, cap3, by omega, by go_num, rfl, F.out.1, F.out.2.1, F.out.2.2⟩
   case measure => simp [intOf]; omega
  ·obtain rfl : k = n := by omega
   rw [List.take_of_length_le (by have := HN.out; omega)] at hown
   have F := hid (show wr.ownsRow _ _ _ _ _ _ ∧ Below _ _ _ from ⟨hown, hw⟩)
   clear hown hw hit
   go_wp2_with fail
   go_ret
   exact ⟨A', cap', rfl, F.out⟩
end
end Go.Proofs.YtjjolokeceldmaaGreat
