/-
  Several texts as one (AvlRot, AvlFix, AvlGrow, AvlPut, AvlDel, AvlMin, AvlRem, AvlTree): each says its own in its remarks.
-/
import Derived.Test.YtbdcepkahdecjaaGreatCmp
import Derived.Test.YtbdcepkahdecjaaGreatAvlPure
import Derived.RegionTactic
import Derived.ChangeAlike
import Derived.BigRegion
import Derived.RegionCalls
import Derived.Deep.RegionWith
namespace Go.Proofs.YtbdcepkahdecjaaGreat
open Go.RowKit
abbrev avlL : Lay := ⟨112, 65, 3, true⟩
theorem xor_i8_11 : bits BinOp.xor IntKind.i8 1 1 = 0 := by kernel_rfl
theorem xor_i8_01 : bits BinOp.xor IntKind.i8 0 1 = 1 := by kernel_rfl
theorem IsT.setC {w : World} {i : Nat} {l r : BT} {k v c : Int} {p : Option Nat} (h : IsT avlL w (.node i l k v c r) p) (hn : (BT.ids (.node i l k v c r)).Nodup) (x : Int) :
    IsT avlL (w.setCell ⟨i, 5, none⟩ (.int .i8 x)) (.node i l k v x r) p := by
  obtain ⟨h1, h2, h3⟩ := h
  simp only [BT.ids, List.nodup_cons, List.mem_append, not_or] at hn
  exact ⟨Nd.setC (L := avlL) h1 x, h2.far hn.1.1 _, h3.far hn.1.2 _⟩
theorem rotR_walk {w : World} {s r : Nat} {l rl rr : BT} {k v b k' v' b' : Int} {p : Option Nat} (h : IsT avlL w (.node s l k v b (.node r rl k' v' b' rr)) p)
    (hn : (BT.ids (.node s l k v b (.node r rl k' v' b' rr))).Nodup) :
    Calls Tryz.prog 89 #[.int .i8 1, .pointer (some ⟨s, 0, none⟩)] w fun e w' => e = .returned (.pointer (some ⟨r, 0, none⟩)) ∧ IsT avlL w' (.node r (.node s l k v b rl) k' v' b' rr) p ∧
      Only (BT.ids (.node s l k v b (.node r rl k' v' b' rr))) w w' := by
  obtain ⟨hs, hl, hr, hrl, hrr⟩ := h
  have hx := xor_i8_11
  have hn' := hn
  simp only [BT.ids, List.nodup_cons, List.mem_cons, List.mem_append, List.nodup_append, not_or] at hn'
  have hsr : ¬ s = r := by grind
  have hrs : ¬ r = s := by grind
  obtain ⟨hs0, hs1, hs3, hs4⟩ := hs.cells_
  have hs2 := hs.cellP
  obtain ⟨hr0, hr1, hr3, hr4⟩ := hr.cells_
  have hr2 := hr.cellP
  have fs := hs.frozen
  have fr := hr.frozen
  simp only [BT.root, ptr, Option.map_some, Lay.op, if_true] at hs2 hs3 hs4 hr2 hr3 hr4
  cases rl with
  | nil =>
    simp only [Option.map_none] at hr3
    have Hs := Lib.hid hs
    have Hr := Lib.hid hr
    have Hn := Lib.hid hn'
    clear hs hr hn hn' hs0 hs1 hr0 hr1
    go_enter Tryz.func89, Tryz.ntmps89
    go_wp2
    go_region
    go_wp2
    go_ret
    have hO : Only [s, r] w ((((w.setCell ⟨s, 4, none⟩ (.pointer none)).setCell ⟨r, 3, none⟩ (.pointer (some ⟨s, 0, none⟩))).setCell ⟨r, 2, none⟩ (ptr p)).setCell ⟨s, 2, none⟩ (.pointer (some ⟨r, 0, none⟩))).drew :=
      (((((Only.refl _ _).setCell (.inl (by simp)) _).setCell (.inl (by simp)) _).setCell (.inl (by simp)) _).setCell (.inl (by simp)) _).drew
    have g1 := Nd.drew (Nd.far (a := ⟨s, 2, none⟩) (Nd.setP (L := avlL) (p := some s) (Nd.setL (l := none) (Nd.far (a := ⟨s, 4, none⟩) Hr.out hrs (.pointer none)) (some s)) p) hrs (.pointer (some ⟨r, 0, none⟩)))
    have g2 := Nd.drew (Nd.setP (L := avlL) (p := p) (Nd.far (a := ⟨r, 2, none⟩) (Nd.far (a := ⟨r, 3, none⟩) (Nd.setR Hs.out none) hsr (.pointer (some ⟨s, 0, none⟩))) hsr (ptr p)) (some r))
    refine ⟨rfl, ⟨?_, ⟨?_, ?_, ?_⟩, ?_⟩, ?_⟩
    · exact g1
    · exact g2
    · exact hl.only hO (by have := Hn.out; grind)
    · trivial
    · exact hrr.only hO (by have := Hn.out; grind)
    · exact hO.mono (by simp [BT.ids]; grind)
  | node x xl kx vx bx xr =>
    obtain ⟨hx', hxl, hxr⟩ := hrl
    simp only [Option.map_some] at hr3
    have hsx : ¬ s = x := by simp only [BT.ids] at hn'; grind
    have hxs : ¬ x = s := by simp only [BT.ids] at hn'; grind
    have hrx : ¬ r = x := by simp only [BT.ids] at hn'; grind
    have hxr' : ¬ x = r := by simp only [BT.ids] at hn'; grind
    have hx2 := hx'.cellP
    have fx := hx'.frozen
    simp only [ptr, Option.map_some, Lay.op, if_true] at hx2
    have Hs := Lib.hid hs
    have Hr := Lib.hid hr
    have Hx := Lib.hid hx'
    have Hn := Lib.hid hn'
    clear hs hr hx' hn hn' hs0 hs1 hr0 hr1
    go_enter Tryz.func89, Tryz.ntmps89
    go_wp2
    go_region
    go_wp2
    go_ret
    have hO : Only [s, r, x] w (((((w.setCell ⟨s, 4, none⟩ (.pointer (some ⟨x, 0, none⟩))).setCell ⟨x, 2, none⟩ (.pointer (some ⟨s, 0, none⟩))).setCell ⟨r, 3, none⟩ (.pointer (some ⟨s, 0, none⟩))).setCell ⟨r, 2, none⟩ (ptr p)).setCell ⟨s, 2, none⟩ (.pointer (some ⟨r, 0, none⟩))).drew :=
      ((((((Only.refl _ _).setCell (.inl (by simp)) _).setCell (.inl (by simp)) _).setCell (.inl (by simp)) _).setCell (.inl (by simp)) _).setCell (.inl (by simp)) _).drew
    have g1 := Nd.drew (Nd.far (a := ⟨s, 2, none⟩) (Nd.setP (L := avlL) (p := some s) (Nd.setL (l := some x) (Nd.far (a := ⟨x, 2, none⟩) (Nd.far (a := ⟨s, 4, none⟩) Hr.out hrs (.pointer (some ⟨x, 0, none⟩))) hrx (.pointer (some ⟨s, 0, none⟩))) (some s)) p) hrs (.pointer (some ⟨r, 0, none⟩)))
    have g2 := Nd.drew (Nd.setP (L := avlL) (p := p) (Nd.far (a := ⟨r, 2, none⟩) (Nd.far (a := ⟨r, 3, none⟩) (Nd.far (a := ⟨x, 2, none⟩) (Nd.setR Hs.out (some x)) hsx (.pointer (some ⟨s, 0, none⟩))) hsr (.pointer (some ⟨s, 0, none⟩))) hsr (ptr p)) (some r))
    have g3 := Nd.drew (Nd.far (a := ⟨s, 2, none⟩) (Nd.far (a := ⟨r, 2, none⟩) (Nd.far (a := ⟨r, 3, none⟩) (Nd.setP (L := avlL) (p := some r) (Nd.far (a := ⟨s, 4, none⟩) Hx.out hxs (.pointer (some ⟨x, 0, none⟩))) (some s)) hxr' (.pointer (some ⟨s, 0, none⟩))) hxr' (ptr p)) hxs (.pointer (some ⟨r, 0, none⟩)))
    have d1 : ∀ y ∈ [s, r, x], y ∉ l.ids ∧ y ∉ rr.ids ∧ y ∉ xl.ids ∧ y ∉ xr.ids := by
      have := Hn.out; simp only [BT.ids, List.nodup_cons, List.nodup_append, List.mem_cons, List.mem_append, not_or] at this; simp only [List.mem_cons, List.not_mem_nil, or_false]; grind
    refine ⟨rfl, ⟨?_, ⟨?_, ?_, ?_⟩, ?_⟩, ?_⟩
    · exact g1
    · exact g2
    · exact hl.only hO (fun b hb hm => (d1 b hm).1 hb)
    · exact ⟨g3, hxl.only hO (fun b hb hm => (d1 b hm).2.2.1 hb), hxr.only hO (fun b hb hm => (d1 b hm).2.2.2 hb)⟩
    · exact hrr.only hO (fun b hb hm => (d1 b hm).2.1 hb)
    · exact hO.mono (by simp [BT.ids]; grind)
theorem rotL_walk {w : World} {s r : Nat} {l rl rr : BT} {k v b k' v' b' : Int} {p : Option Nat} (h : IsT avlL w (.node s (.node r rr k' v' b' rl) k v b l) p)
    (hn : (BT.ids (.node s (.node r rr k' v' b' rl) k v b l)).Nodup) :
    Calls Tryz.prog 89 #[.int .i8 (-1), .pointer (some ⟨s, 0, none⟩)] w fun e w' => e = .returned (.pointer (some ⟨r, 0, none⟩)) ∧ IsT avlL w' (.node r rr k' v' b' (.node s rl k v b l)) p ∧
      Only (BT.ids (.node s (.node r rr k' v' b' rl) k v b l)) w w' := by
  obtain ⟨hs, ⟨hr, hrr, hrl⟩, hl⟩ := h
  have hx := xor_i8_01
  have hn' := hn
  simp only [BT.ids, List.nodup_cons, List.mem_cons, List.mem_append, List.nodup_append, not_or] at hn'
  have hsr : ¬ s = r := by grind
  have hrs : ¬ r = s := by grind
  obtain ⟨hs0, hs1, hs3, hs4⟩ := hs.cells_
  have hs2 := hs.cellP
  obtain ⟨hr0, hr1, hr3, hr4⟩ := hr.cells_
  have hr2 := hr.cellP
  have fs := hs.frozen
  have fr := hr.frozen
  simp only [BT.root, ptr, Option.map_some, Lay.op, if_true] at hs2 hs3 hs4 hr2 hr3 hr4
  cases rl with
  | nil =>
    simp only [Option.map_none] at hr4
    have Hs := Lib.hid hs
    have Hr := Lib.hid hr
    have Hn := Lib.hid hn'
    clear hs hr hn hn' hs0 hs1 hr0 hr1
    go_enter Tryz.func89, Tryz.ntmps89
    go_wp2
    go_region
    go_wp2
    go_ret
    have hO : Only [s, r] w ((((w.setCell ⟨s, 3, none⟩ (.pointer none)).setCell ⟨r, 4, none⟩ (.pointer (some ⟨s, 0, none⟩))).setCell ⟨r, 2, none⟩ (ptr p)).setCell ⟨s, 2, none⟩ (.pointer (some ⟨r, 0, none⟩))).drew :=
      (((((Only.refl _ _).setCell (.inl (by simp)) _).setCell (.inl (by simp)) _).setCell (.inl (by simp)) _).setCell (.inl (by simp)) _).drew
    have g1 := Nd.drew (Nd.far (a := ⟨s, 2, none⟩) (Nd.setP (L := avlL) (p := some s) (Nd.setR (r := none) (Nd.far (a := ⟨s, 3, none⟩) Hr.out hrs (.pointer none)) (some s)) p) hrs (.pointer (some ⟨r, 0, none⟩)))
    have g2 := Nd.drew (Nd.setP (L := avlL) (p := p) (Nd.far (a := ⟨r, 2, none⟩) (Nd.far (a := ⟨r, 4, none⟩) (Nd.setL Hs.out none) hsr (.pointer (some ⟨s, 0, none⟩))) hsr (ptr p)) (some r))
    refine ⟨rfl, ⟨?_, ?_, ⟨?_, ?_, ?_⟩⟩, ?_⟩
    · exact g1
    · exact hrr.only hO (by have := Hn.out; grind)
    · exact g2
    · trivial
    · exact hl.only hO (by have := Hn.out; grind)
    · exact hO.mono (by simp [BT.ids]; grind)
  | node x xl kx vx bx xr =>
    obtain ⟨hx', hxl, hxr⟩ := hrl
    simp only [Option.map_some] at hr4
    have hsx : ¬ s = x := by simp only [BT.ids] at hn'; grind
    have hxs : ¬ x = s := by simp only [BT.ids] at hn'; grind
    have hrx : ¬ r = x := by simp only [BT.ids] at hn'; grind
    have hxr' : ¬ x = r := by simp only [BT.ids] at hn'; grind
    have hx2 := hx'.cellP
    have fx := hx'.frozen
    simp only [ptr, Option.map_some, Lay.op, if_true] at hx2
    have Hs := Lib.hid hs
    have Hr := Lib.hid hr
    have Hx := Lib.hid hx'
    have Hn := Lib.hid hn'
    clear hs hr hx' hn hn' hs0 hs1 hr0 hr1
    go_enter Tryz.func89, Tryz.ntmps89
    go_wp2
    go_region
    go_wp2
    go_ret
    have hO : Only [s, r, x] w (((((w.setCell ⟨s, 3, none⟩ (.pointer (some ⟨x, 0, none⟩))).setCell ⟨x, 2, none⟩ (.pointer (some ⟨s, 0, none⟩))).setCell ⟨r, 4, none⟩ (.pointer (some ⟨s, 0, none⟩))).setCell ⟨r, 2, none⟩ (ptr p)).setCell ⟨s, 2, none⟩ (.pointer (some ⟨r, 0, none⟩))).drew :=
      ((((((Only.refl _ _).setCell (.inl (by simp)) _).setCell (.inl (by simp)) _).setCell (.inl (by simp)) _).setCell (.inl (by simp)) _).setCell (.inl (by simp)) _).drew
    have g1 := Nd.drew (Nd.far (a := ⟨s, 2, none⟩) (Nd.setP (L := avlL) (p := some s) (Nd.setR (r := some x) (Nd.far (a := ⟨x, 2, none⟩) (Nd.far (a := ⟨s, 3, none⟩) Hr.out hrs (.pointer (some ⟨x, 0, none⟩))) hrx (.pointer (some ⟨s, 0, none⟩))) (some s)) p) hrs (.pointer (some ⟨r, 0, none⟩)))
    have g2 := Nd.drew (Nd.setP (L := avlL) (p := p) (Nd.far (a := ⟨r, 2, none⟩) (Nd.far (a := ⟨r, 4, none⟩) (Nd.far (a := ⟨x, 2, none⟩) (Nd.setL Hs.out (some x)) hsx (.pointer (some ⟨s, 0, none⟩))) hsr (.pointer (some ⟨s, 0, none⟩))) hsr (ptr p)) (some r))
    have g3 := Nd.drew (Nd.far (a := ⟨s, 2, none⟩) (Nd.far (a := ⟨r, 2, none⟩) (Nd.far (a := ⟨r, 4, none⟩) (Nd.setP (L := avlL) (p := some r) (Nd.far (a := ⟨s, 3, none⟩) Hx.out hxs (.pointer (some ⟨x, 0, none⟩))) (some s)) hxr' (.pointer (some ⟨s, 0, none⟩))) hxr' (ptr p)) hxs (.pointer (some ⟨r, 0, none⟩)))
    have d1 : ∀ y ∈ [s, r, x], y ∉ l.ids ∧ y ∉ rr.ids ∧ y ∉ xl.ids ∧ y ∉ xr.ids := by
      have := Hn.out; simp only [BT.ids, List.nodup_cons, List.nodup_append, List.mem_cons, List.mem_append, not_or] at this; simp only [List.mem_cons, List.not_mem_nil, or_false]; grind
    refine ⟨rfl, ⟨?_, ?_, ⟨?_, ?_, ?_⟩⟩, ?_⟩
    · exact g1
    · exact hrr.only hO (fun b hb hm => (d1 b hm).2.1 hb)
    · exact g2
    · exact ⟨g3, hxl.only hO (fun b hb hm => (d1 b hm).2.2.1 hb), hxr.only hO (fun b hb hm => (d1 b hm).2.2.2 hb)⟩
    · exact hl.only hO (fun b hb hm => (d1 b hm).1 hb)
    · exact hO.mono (by simp [BT.ids]; grind)
end Go.Proofs.YtbdcepkahdecjaaGreat

namespace Go.Proofs.YtbdcepkahdecjaaGreat
open Go.RowKit
theorem singleR_walk {w : World} {s r : Nat} {l rl rr : BT} {k v b k' v' b' : Int} {p : Option Nat} (h : IsT avlL w (.node s l k v b (.node r rl k' v' b' rr)) p)
    (hn : (BT.ids (.node s l k v b (.node r rl k' v' b' rr))).Nodup) :
    Calls Tryz.prog 87 #[.int .i8 1, .pointer (some ⟨s, 0, none⟩)] w fun e w' => e = .returned (.pointer (some ⟨r, 0, none⟩)) ∧ IsT avlL w' (.node r (.node s l k v 0 rl) k' v' 0 rr) p ∧
      Only (BT.ids (.node s l k v b (.node r rl k' v' b' rr))) w w' := by
  have hs5 := h.1.cellC
  have fs := h.1.frozen 5
  simp only [Lay.oc, Lay.cv, if_true] at hs5
  have H := Lib.hid h
  have Hn := Lib.hid hn
  clear h hn
  go_enter Tryz.func87, Tryz.ntmps87
  go_wp2_with fail
  refine (rotR_walk (IsT.setC H.out Hn.out 0) Hn.out).mono ?_
  rintro e w1 ⟨rfl, h1, o1⟩
  have hr5 := h1.1.cellC
  have fr := h1.1.frozen 5
  simp only [Lay.oc, Lay.cv, if_true] at hr5
  have hn1 : (BT.ids (.node r (.node s l k v 0 rl) k' v' b' rr)).Nodup := by
    refine List.Perm.nodup ?_ Hn.out
    simp [List.perm_iff_count, BT.ids, List.count_cons]
    omega
  have H1 := Lib.hid h1
  have O1 := Lib.hid o1
  have Hn1 := Lib.hid hn1
  clear h1 o1 hn1
  go_wp2_with fail
  go_ret
  refine ⟨rfl, IsT.setC H1.out Hn1.out 0, ?_⟩
  exact ((Only.refl _ _).setCell (.inl (by simp [BT.ids])) _).trans (O1.out.setCell (.inl (by simp [BT.ids])) _)
theorem singleL_walk {w : World} {s r : Nat} {l rl rr : BT} {k v b k' v' b' : Int} {p : Option Nat} (h : IsT avlL w (.node s (.node r rr k' v' b' rl) k v b l) p)
    (hn : (BT.ids (.node s (.node r rr k' v' b' rl) k v b l)).Nodup) :
    Calls Tryz.prog 87 #[.int .i8 (-1), .pointer (some ⟨s, 0, none⟩)] w fun e w' => e = .returned (.pointer (some ⟨r, 0, none⟩)) ∧ IsT avlL w' (.node r rr k' v' 0 (.node s rl k v 0 l)) p ∧
      Only (BT.ids (.node s (.node r rr k' v' b' rl) k v b l)) w w' := by
  have hs5 := h.1.cellC
  have fs := h.1.frozen 5
  simp only [Lay.oc, Lay.cv, if_true] at hs5
  have H := Lib.hid h
  have Hn := Lib.hid hn
  clear h hn
  go_enter Tryz.func87, Tryz.ntmps87
  go_wp2_with fail
  refine (rotL_walk (IsT.setC H.out Hn.out 0) Hn.out).mono ?_
  rintro e w1 ⟨rfl, h1, o1⟩
  have hr5 := h1.1.cellC
  have fr := h1.1.frozen 5
  simp only [Lay.oc, Lay.cv, if_true] at hr5
  have hn1 : (BT.ids (.node r rr k' v' b' (.node s rl k v 0 l))).Nodup := by
    refine List.Perm.nodup ?_ Hn.out
    simp [List.perm_iff_count, BT.ids, List.count_cons]
    omega
  have H1 := Lib.hid h1
  have O1 := Lib.hid o1
  have Hn1 := Lib.hid hn1
  clear h1 o1 hn1
  go_wp2_with fail
  go_ret
  refine ⟨rfl, IsT.setC H1.out Hn1.out 0, ?_⟩
  exact ((Only.refl _ _).setCell (.inl (by simp [BT.ids])) _).trans (O1.out.setCell (.inl (by simp [BT.ids])) _)
set_option maxHeartbeats 800000 in
theorem doubleR_walk {w : World} {s r q : Nat} {l ql qr rr : BT} {k v b kr vr br kq vq bq : Int} {p : Option Nat} (h : IsT avlL w (.node s l k v b (.node r (.node q ql kq vq bq qr) kr vr br rr)) p)
    (hn : (BT.ids (.node s l k v b (.node r (.node q ql kq vq bq qr) kr vr br rr))).Nodup) :
    Calls Tryz.prog 88 #[.int .i8 1, .pointer (some ⟨s, 0, none⟩)] w fun e w' => e = .returned (.pointer (some ⟨q, 0, none⟩)) ∧ IsT avlL w' (.node q (.node s l k v (if bq = 1 then -1 else 0) ql) kq vq 0 (.node r qr kr vr (if bq = -1 then 1 else 0) rr)) p ∧
      Only (BT.ids (.node s l k v b (.node r (.node q ql kq vq bq qr) kr vr br rr))) w w' := by
  obtain ⟨hs, hl, hr⟩ := h
  have hn' := hn
  simp only [BT.ids, List.nodup_cons, List.mem_cons, List.mem_append, List.nodup_append, not_or] at hn'
  have hnr : (BT.ids (.node r (.node q ql kq vq bq qr) kr vr br rr)).Nodup := by simp only [BT.ids, List.nodup_cons, List.mem_cons, List.mem_append, List.nodup_append, not_or]; grind
  have hnl : ∀ x ∈ l.ids, x ∉ BT.ids (.node r (.node q ql kq vq bq qr) kr vr br rr) := by simp only [BT.ids, List.mem_cons, List.mem_append, not_or]; grind
  have hnl' : s ∉ l.ids := by grind
  have hns : s ∉ BT.ids (.node r (.node q ql kq vq bq qr) kr vr br rr) := by simp only [BT.ids, List.mem_cons, List.mem_append, not_or]; grind
  have hs4 := (Nd.cells_ hs).2.2.2
  have fs := Nd.frozen hs
  simp only [BT.root, ptr, Option.map_some] at hs4
  have Hs := Lib.hid hs
  have Hr := Lib.hid hr
  have Hl := Lib.hid hl
  have Hn := Lib.hid hn
  have Hnr := Lib.hid hnr
  have Hnl := Lib.hid hnl
  have Hns := Lib.hid hns
  have Hnl' := Lib.hid hnl'
  clear hs hr hl hn hn' hnr hnl hns hnl'
  go_enter Tryz.func88, Tryz.ntmps88
  go_wp2_with fail
  have hc1 : Unit → Calls Tryz.prog 89 #[.int .i8 (-1), .pointer (some ⟨r, 0, none⟩)] w.drew fun e w' => e = .returned (.pointer (some ⟨q, 0, none⟩)) ∧ IsT avlL w' (.node q ql kq vq bq (.node r qr kr vr br rr)) (some s) ∧ Only (BT.ids (.node r (.node q ql kq vq bq qr) kr vr br rr)) w.drew w' := fun _ => rotL_walk (IsT.drew Hr.out) Hnr.out
  have Hc1 := Lib.hid hc1
  clear hc1
  go_region_with (go_at_call 89; refine (Hc1.out ()).mono ?_; rintro e w1 ⟨rfl, h1, o1⟩; have hs4' : w1.cell? ⟨s, 4, none⟩ = some (.pointer (some ⟨r, 0, none⟩)) := (World.cell?_of_block (o1.block s (Nd.lt Hs.out) Hns.out)).trans hs4; have fs' : w1.frozen? ⟨s, 4, none⟩ = false := (World.frozen?_of_block (o1.block s (Nd.lt Hs.out) Hns.out)).trans (fs 4); have H1 := Lib.hid h1; have O1 := Lib.hid o1; clear h1 o1)
  go_wp2_with fail
  have hsw : Nd avlL w1 s k v b p l.root (some r) := Nd.same Hs.out (O1.out.block s (Nd.lt Hs.out) Hns.out)
  have ht1 : IsT avlL (w1.setCell ⟨s, 4, none⟩ (.pointer (some ⟨q, 0, none⟩))) (.node s l k v b (.node q ql kq vq bq (.node r qr kr vr br rr))) p :=
    ⟨Nd.setR hsw (some q), ((Hl.out.drew.only O1.out (fun b hb hm => Hnl.out b hb hm)).far Hnl'.out _), (H1.out.far (by have := Hns.out; simp only [BT.ids, List.mem_cons, List.mem_append, not_or] at this ⊢; grind) _)⟩
  have hn1 : (BT.ids (.node s l k v b (.node q ql kq vq bq (.node r qr kr vr br rr)))).Nodup := by
    refine List.Perm.nodup ?_ Hn.out
    simp [List.perm_iff_count, BT.ids, List.count_cons]
    omega
  have o2 : Only (BT.ids (.node s l k v b (.node r (.node q ql kq vq bq qr) kr vr br rr))) w (w1.setCell ⟨s, 4, none⟩ (.pointer (some ⟨q, 0, none⟩))) :=
    ((Only.refl _ _).drew.trans (O1.out.mono (by simp [BT.ids]; grind))).setCell (.inl (by simp [BT.ids])) _
  have Ht1 := Lib.hid ht1
  have Hn1 := Lib.hid hn1
  have O2 := Lib.hid o2
  clear hsw ht1 hn1 o2 hs4' fs' hs4 fs
  refine (rotR_walk Ht1.out Hn1.out).mono ?_
  rintro e w3 ⟨rfl, h3, o3⟩
  obtain ⟨h3q, ⟨h3s, h3l, h3ql⟩, ⟨h3r, h3qr, h3rr⟩⟩ := h3
  have hs5 := h3s.cellC
  have hr5 := h3r.cellC
  have hq5 := h3q.cellC
  have fs5 := h3s.frozen 5
  have fr5 := h3r.frozen 5
  have fq5 := h3q.frozen 5
  simp only [Lay.oc, Lay.cv, if_true] at hs5 hr5 hq5
  have hn' := Hn.out
  simp only [BT.ids, List.nodup_cons, List.mem_cons, List.mem_append, List.nodup_append, not_or] at hn'
  have sr : ¬ s = r := by grind
  have rs : ¬ r = s := by grind
  have sq : ¬ s = q := by grind
  have qs : ¬ q = s := by grind
  have rq : ¬ r = q := by grind
  have qr' : ¬ q = r := by grind
  have H3s := Lib.hid h3s
  have H3r := Lib.hid h3r
  have H3q := Lib.hid h3q
  have d1 : ∀ y ∈ [s, r, q], y ∉ l.ids ∧ y ∉ rr.ids ∧ y ∉ ql.ids ∧ y ∉ qr.ids := by simp only [List.mem_cons, List.not_mem_nil, or_false]; grind
  have D1 := Lib.hid d1
  have O3 := Lib.hid o3
  clear h3s h3r h3q hn' d1 o3
  have fin : ∀ (x y : Int), IsT avlL (((w3.setCell ⟨s, 5, none⟩ (.int .i8 x)).setCell ⟨r, 5, none⟩ (.int .i8 y)).setCell ⟨q, 5, none⟩ (.int .i8 0)) (.node q (.node s l k v x ql) kq vq 0 (.node r qr kr vr y rr)) p ∧
      Only (BT.ids (.node s l k v b (.node r (.node q ql kq vq bq qr) kr vr br rr))) w (((w3.setCell ⟨s, 5, none⟩ (.int .i8 x)).setCell ⟨r, 5, none⟩ (.int .i8 y)).setCell ⟨q, 5, none⟩ (.int .i8 0)) := by
    intro x y
    have hO : Only [s, r, q] w3 (((w3.setCell ⟨s, 5, none⟩ (.int .i8 x)).setCell ⟨r, 5, none⟩ (.int .i8 y)).setCell ⟨q, 5, none⟩ (.int .i8 0)) :=
      (((Only.refl _ _).setCell (.inl (by simp)) _).setCell (.inl (by simp)) _).setCell (.inl (by simp)) _
    have g1 := Nd.setC (L := avlL) (Nd.far (a := ⟨r, 5, none⟩) (Nd.far (a := ⟨s, 5, none⟩) H3q.out qs (.int .i8 x)) qr' (.int .i8 y)) 0
    have g2 := Nd.far (a := ⟨q, 5, none⟩) (Nd.far (a := ⟨r, 5, none⟩) (Nd.setC (L := avlL) H3s.out x) sr (.int .i8 y)) sq (.int .i8 0)
    have g3 := Nd.far (a := ⟨q, 5, none⟩) (Nd.setC (L := avlL) (Nd.far (a := ⟨s, 5, none⟩) H3r.out rs (.int .i8 x)) y) rq (.int .i8 0)
    have k1 := h3l.only hO (fun b hb hm => (D1.out b hm).1 hb)
    have k2 := h3rr.only hO (fun b hb hm => (D1.out b hm).2.1 hb)
    have k3 := h3ql.only hO (fun b hb hm => (D1.out b hm).2.2.1 hb)
    have k4 := h3qr.only hO (fun b hb hm => (D1.out b hm).2.2.2 hb)
    refine ⟨⟨g1, ⟨g2, k1, k3⟩, ⟨g3, k4, k2⟩⟩, ?_⟩
    refine O2.out.trans ((O3.out.mono ?_).trans (hO.mono ?_))
    · simp [BT.ids]; grind
    · simp [BT.ids]; grind
  have Fin := Lib.hid fin
  clear fin
  by_cases hb1 : bq = 1
  · subst hb1
    go_wp2_with fail
    go_ret
    exact ⟨rfl, Fin.out (-1) 0⟩
  · by_cases hb2 : bq = -1
    · subst hb2
      go_wp2_with fail
      go_ret
      exact ⟨rfl, Fin.out 0 1⟩
    · go_wp2_with fail
      go_ret
      exact ⟨rfl, Fin.out 0 0⟩
set_option maxHeartbeats 800000 in
theorem doubleL_walk {w : World} {s r q : Nat} {l ql qr rr : BT} {k v b kr vr br kq vq bq : Int} {p : Option Nat} (h : IsT avlL w (.node s (.node r rr kr vr br (.node q qr kq vq bq ql)) k v b l) p)
    (hn : (BT.ids (.node s (.node r rr kr vr br (.node q qr kq vq bq ql)) k v b l)).Nodup) :
    Calls Tryz.prog 88 #[.int .i8 (-1), .pointer (some ⟨s, 0, none⟩)] w fun e w' => e = .returned (.pointer (some ⟨q, 0, none⟩)) ∧ IsT avlL w' (.node q (.node r rr kr vr (if bq = 1 then -1 else 0) qr) kq vq 0 (.node s ql k v (if bq = -1 then 1 else 0) l)) p ∧
      Only (BT.ids (.node s (.node r rr kr vr br (.node q qr kq vq bq ql)) k v b l)) w w' := by
  obtain ⟨hs, hr, hl⟩ := h
  have hn' := hn
  simp only [BT.ids, List.nodup_cons, List.mem_cons, List.mem_append, List.nodup_append, not_or] at hn'
  have hnr : (BT.ids (.node r rr kr vr br (.node q qr kq vq bq ql))).Nodup := by simp only [BT.ids, List.nodup_cons, List.mem_cons, List.mem_append, List.nodup_append, not_or]; grind
  have hnl : ∀ x ∈ l.ids, x ∉ BT.ids (.node r rr kr vr br (.node q qr kq vq bq ql)) := by simp only [BT.ids, List.mem_cons, List.mem_append, not_or]; grind
  have hnl' : s ∉ l.ids := by grind
  have hns : s ∉ BT.ids (.node r rr kr vr br (.node q qr kq vq bq ql)) := by simp only [BT.ids, List.mem_cons, List.mem_append, not_or]; grind
  have hs3 := (Nd.cells_ hs).2.2.1
  have fs := Nd.frozen hs
  simp only [BT.root, ptr, Option.map_some] at hs3
  have Hs := Lib.hid hs
  have Hr := Lib.hid hr
  have Hl := Lib.hid hl
  have Hn := Lib.hid hn
  have Hnr := Lib.hid hnr
  have Hnl := Lib.hid hnl
  have Hns := Lib.hid hns
  have Hnl' := Lib.hid hnl'
  clear hs hr hl hn hn' hnr hnl hns hnl'
  go_enter Tryz.func88, Tryz.ntmps88
  go_wp2_with fail
  have hc1 : Unit → Calls Tryz.prog 89 #[.int .i8 1, .pointer (some ⟨r, 0, none⟩)] w.drew fun e w' => e = .returned (.pointer (some ⟨q, 0, none⟩)) ∧ IsT avlL w' (.node q (.node r rr kr vr br qr) kq vq bq ql) (some s) ∧ Only (BT.ids (.node r rr kr vr br (.node q qr kq vq bq ql))) w.drew w' := fun _ => rotR_walk (IsT.drew Hr.out) Hnr.out
  have Hc1 := Lib.hid hc1
  clear hc1
  go_region_with (go_at_call 89; refine (Hc1.out ()).mono ?_; rintro e w1 ⟨rfl, h1, o1⟩; have hs4' : w1.cell? ⟨s, 3, none⟩ = some (.pointer (some ⟨r, 0, none⟩)) := (World.cell?_of_block (o1.block s (Nd.lt Hs.out) Hns.out)).trans hs3; have fs' : w1.frozen? ⟨s, 3, none⟩ = false := (World.frozen?_of_block (o1.block s (Nd.lt Hs.out) Hns.out)).trans (fs 3); have H1 := Lib.hid h1; have O1 := Lib.hid o1; clear h1 o1)
  go_wp2_with fail
  have hsw : Nd avlL w1 s k v b p (some r) l.root := Nd.same Hs.out (O1.out.block s (Nd.lt Hs.out) Hns.out)
  have ht1 : IsT avlL (w1.setCell ⟨s, 3, none⟩ (.pointer (some ⟨q, 0, none⟩))) (.node s (.node q (.node r rr kr vr br qr) kq vq bq ql) k v b l) p :=
    ⟨Nd.setL hsw (some q), (H1.out.far (by have := Hns.out; simp only [BT.ids, List.mem_cons, List.mem_append, not_or] at this ⊢; grind) _), ((Hl.out.drew.only O1.out (fun b hb hm => Hnl.out b hb hm)).far Hnl'.out _)⟩
  have hn1 : (BT.ids (.node s (.node q (.node r rr kr vr br qr) kq vq bq ql) k v b l)).Nodup := by
    refine List.Perm.nodup ?_ Hn.out
    simp [List.perm_iff_count, BT.ids, List.count_cons]
    omega
  have o2 : Only (BT.ids (.node s (.node r rr kr vr br (.node q qr kq vq bq ql)) k v b l)) w (w1.setCell ⟨s, 3, none⟩ (.pointer (some ⟨q, 0, none⟩))) :=
    ((Only.refl _ _).drew.trans (O1.out.mono (by simp [BT.ids]; grind))).setCell (.inl (by simp [BT.ids])) _
  have Ht1 := Lib.hid ht1
  have Hn1 := Lib.hid hn1
  have O2 := Lib.hid o2
  clear hsw ht1 hn1 o2 hs4' fs' hs3 fs
  refine (rotL_walk Ht1.out Hn1.out).mono ?_
  rintro e w3 ⟨rfl, h3, o3⟩
  obtain ⟨h3q, ⟨h3r, h3rr, h3qr⟩, ⟨h3s, h3ql, h3l⟩⟩ := h3
  have hs5 := h3s.cellC
  have hr5 := h3r.cellC
  have hq5 := h3q.cellC
  have fs5 := h3s.frozen 5
  have fr5 := h3r.frozen 5
  have fq5 := h3q.frozen 5
  simp only [Lay.oc, Lay.cv, if_true] at hs5 hr5 hq5
  have hn' := Hn.out
  simp only [BT.ids, List.nodup_cons, List.mem_cons, List.mem_append, List.nodup_append, not_or] at hn'
  have sr : ¬ s = r := by grind
  have rs : ¬ r = s := by grind
  have sq : ¬ s = q := by grind
  have qs : ¬ q = s := by grind
  have rq : ¬ r = q := by grind
  have qr' : ¬ q = r := by grind
  have H3s := Lib.hid h3s
  have H3r := Lib.hid h3r
  have H3q := Lib.hid h3q
  have d1 : ∀ y ∈ [s, r, q], y ∉ l.ids ∧ y ∉ rr.ids ∧ y ∉ ql.ids ∧ y ∉ qr.ids := by simp only [List.mem_cons, List.not_mem_nil, or_false]; grind
  have D1 := Lib.hid d1
  have O3 := Lib.hid o3
  clear h3s h3r h3q hn' d1 o3
  have fin : ∀ (x y : Int), IsT avlL (((w3.setCell ⟨s, 5, none⟩ (.int .i8 x)).setCell ⟨r, 5, none⟩ (.int .i8 y)).setCell ⟨q, 5, none⟩ (.int .i8 0)) (.node q (.node r rr kr vr y qr) kq vq 0 (.node s ql k v x l)) p ∧
      Only (BT.ids (.node s (.node r rr kr vr br (.node q qr kq vq bq ql)) k v b l)) w (((w3.setCell ⟨s, 5, none⟩ (.int .i8 x)).setCell ⟨r, 5, none⟩ (.int .i8 y)).setCell ⟨q, 5, none⟩ (.int .i8 0)) := by
    intro x y
    have hO : Only [s, r, q] w3 (((w3.setCell ⟨s, 5, none⟩ (.int .i8 x)).setCell ⟨r, 5, none⟩ (.int .i8 y)).setCell ⟨q, 5, none⟩ (.int .i8 0)) :=
      (((Only.refl _ _).setCell (.inl (by simp)) _).setCell (.inl (by simp)) _).setCell (.inl (by simp)) _
    have g1 := Nd.setC (L := avlL) (Nd.far (a := ⟨r, 5, none⟩) (Nd.far (a := ⟨s, 5, none⟩) H3q.out qs (.int .i8 x)) qr' (.int .i8 y)) 0
    have g2 := Nd.far (a := ⟨q, 5, none⟩) (Nd.far (a := ⟨r, 5, none⟩) (Nd.setC (L := avlL) H3s.out x) sr (.int .i8 y)) sq (.int .i8 0)
    have g3 := Nd.far (a := ⟨q, 5, none⟩) (Nd.setC (L := avlL) (Nd.far (a := ⟨s, 5, none⟩) H3r.out rs (.int .i8 x)) y) rq (.int .i8 0)
    have k1 := h3l.only hO (fun b hb hm => (D1.out b hm).1 hb)
    have k2 := h3rr.only hO (fun b hb hm => (D1.out b hm).2.1 hb)
    have k3 := h3ql.only hO (fun b hb hm => (D1.out b hm).2.2.1 hb)
    have k4 := h3qr.only hO (fun b hb hm => (D1.out b hm).2.2.2 hb)
    refine ⟨⟨g1, ⟨g3, k2, k4⟩, ⟨g2, k3, k1⟩⟩, ?_⟩
    refine O2.out.trans ((O3.out.mono ?_).trans (hO.mono ?_))
    · simp [BT.ids]; grind
    · simp [BT.ids]; grind
  have Fin := Lib.hid fin
  clear fin
  by_cases hb1 : bq = 1
  · subst hb1
    go_wp2_with fail
    go_ret
    exact ⟨rfl, Fin.out 0 (-1)⟩
  · by_cases hb2 : bq = -1
    · subst hb2
      go_wp2_with fail
      go_ret
      exact ⟨rfl, Fin.out 1 0⟩
    · go_wp2_with fail
      go_ret
      exact ⟨rfl, Fin.out 0 0⟩
end Go.Proofs.YtbdcepkahdecjaaGreat

namespace Go.Proofs.YtbdcepkahdecjaaGreat
open Go.RowKit
theorem St.setB {w : World} {H : Hd} {c : Ctx} {i : Nat} {l r : BT} {k v b : Int} (s : St avlL w H c (.node i l k v b r)) (x : Int) :
    St avlL (w.setCell ⟨i, 5, none⟩ (.int .i8 x)) H c (.node i l k v x r) ∧ Only (allIds H c (.node i l k v b r)) w (w.setCell ⟨i, 5, none⟩ (.int .i8 x)) :=
  St.root_set s (Nd.setC (L := avlL) s.ht.1 x)
def canR : BT → Prop
  | .node _ _ _ _ b r => b = 0 ∨ b = -1 ∨ (b = 1 ∧ ∃ i rl k' v' b' rr, r = .node i rl k' v' b' rr ∧ (b' = 1 ∨ (b' ≠ 1 ∧ ∃ q ql kq vq bq qr, rl = .node q ql kq vq bq qr)))
  | .nil => False
def canL : BT → Prop
  | .node _ l _ _ b _ => b = 0 ∨ b = 1 ∨ (b = -1 ∧ ∃ i rl k' v' b' rr, l = .node i rr k' v' b' rl ∧ (b' = -1 ∨ (b' ≠ -1 ∧ ∃ q ql kq vq bq qr, rl = .node q qr kq vq bq ql)))
  | .nil => False
def can0R : BT → Prop
  | .node _ _ _ _ b r => b = 0 ∨ b = -1 ∨ (b = 1 ∧ ∃ i rl k' v' b' rr, r = .node i rl k' v' b' rr ∧ (b' = 0 ∨ b' = 1 ∨ (b' ≠ 0 ∧ b' ≠ 1 ∧ ∃ q ql kq vq bq qr, rl = .node q ql kq vq bq qr)))
  | .nil => False
def can0L : BT → Prop
  | .node _ l _ _ b _ => b = 0 ∨ b = 1 ∨ (b = -1 ∧ ∃ i rl k' v' b' rr, l = .node i rr k' v' b' rl ∧ (b' = 0 ∨ b' = -1 ∨ (b' ≠ 0 ∧ b' ≠ -1 ∧ ∃ q ql kq vq bq qr, rl = .node q qr kq vq bq ql)))
  | .nil => False
theorem growR_walk {w : World} {H : Hd} {c : Ctx} {s : Nat} {l r : BT} {k v b : Int} (sT : St avlL w H c (.node s l k v b r)) (hcan : canR (.node s l k v b r)) :
    Calls Tryz.prog 84 #[.int .i8 1, .pointer (some (slot H c))] w fun e w' => e = .returned (.bool (Avl.growR (.node s l k v b r)).2) ∧ St avlL w' H c (Avl.growR (.node s l k v b r)).1 ∧ Only (allIds H c (.node s l k v b r)) w w' := by
  have hs5 := sT.ht.1.cellC
  have fs5 := sT.ht.1.frozen 5
  obtain ⟨hsl, hslf⟩ := sT.hc.slot_cell
  simp only [Lay.oc, Lay.cv, if_true, BT.root, ptr, Option.map_some] at hs5 hsl
  rcases hcan with hb | hb | ⟨hb, i, rl, k', v', b', rr, hr, hcan⟩
  · subst hb
    have fin := sT.setB 1
    have Fin := Lib.hid fin
    have e1 : Avl.growR (.node s l k v 0 r) = (.node s l k v 1 r, true) := by simp [Avl.growR]
    rw [e1]
    clear sT fin e1
    obtain ⟨sa, hsa⟩ : ∃ sa, slot H c = sa := ⟨_, rfl⟩
    rw [hsa] at hsl hslf ⊢
    clear hsa
    go_enter Tryz.func84, Tryz.ntmps84
    go_wp2_with fail
    go_ret
    exact ⟨rfl, Fin.out⟩
  · subst hb
    have fin := sT.setB 0
    have Fin := Lib.hid fin
    have e1 : Avl.growR (.node s l k v (-1) r) = (.node s l k v 0 r, false) := by simp [Avl.growR]
    rw [e1]
    clear sT fin e1
    obtain ⟨sa, hsa⟩ : ∃ sa, slot H c = sa := ⟨_, rfl⟩
    rw [hsa] at hsl hslf ⊢
    clear hsa
    go_enter Tryz.func84, Tryz.ntmps84
    go_wp2_with fail
    go_ret
    exact ⟨rfl, Fin.out⟩
  · subst hb hr
    have hs4 := (Nd.cells_ sT.ht.1).2.2.2
    have hr5 := sT.ht.2.2.1.cellC
    have hnt := sT.ndt
    have hsn := slot_not_mem sT.nd
    have hlt := sT.hc.lt
    have hsb := slot_block H c
    have hslt : (slot H c).block < w.heap.size := by
      rcases List.mem_cons.1 hsb with e | e
      · rw [e]; exact hlt.1
      · exact hlt.2 _ e
    have ht := sT.ht
    have reroot := fun (w1 : World) (t' : BT) h1 o hp => St.reroot (w1 := w1) (t' := t') sT h1 o hp
    simp only [Lay.oc, Lay.cv, if_true, BT.root, ptr, Option.map_some] at hr5 hs4 reroot
    obtain ⟨sa, hsa⟩ : ∃ sa, slot H c = sa := ⟨_, rfl⟩
    rw [hsa] at hsl hslf hsn hslt reroot ⊢
    have keep : ∀ w1, Only (BT.ids (.node s l k v 1 (.node i rl k' v' b' rr))) w w1 → w1.cell? sa = some (.pointer (some ⟨s, 0, none⟩)) ∧ w1.frozen? sa = false :=
      fun w1 o => ⟨(World.cell?_of_block (o.block _ hslt hsn)).trans hsl, (World.frozen?_of_block (o.block _ hslt hsn)).trans hslf⟩
    have Ht := Lib.hid ht
    have Hnt := Lib.hid hnt
    have Re := Lib.hid reroot
    have Keep := Lib.hid keep
    clear ht hnt reroot keep sT hsn hslt hlt hsb hsa
    rcases hcan with hb | ⟨hb, q, ql, kq, vq, bq, qr, hq⟩
    · subst hb
      have e1 : Avl.growR (.node s l k v 1 (.node i rl k' v' 1 rr)) = (.node i (.node s l k v 0 rl) k' v' 0 rr, false) := by simp [Avl.growR, Avl.bal, Avl.singleR]
      rw [e1]
      clear e1
      have rc := singleR_walk Ht.out Hnt.out
      have Rc := Lib.hid rc
      clear rc
      go_enter Tryz.func84, Tryz.ntmps84
      go_wp2_with fail
      refine Rc.out.mono ?_
      rintro e w1 ⟨rfl, h1, o1⟩
      obtain ⟨hk1, hk2⟩ := Keep.out _ o1
      have fin := Re.out _ (.node i (.node s l k v 0 rl) k' v' 0 rr) h1 o1 (by simp [List.perm_iff_count, BT.ids, List.count_cons]; omega)
      have Fin := Lib.hid fin
      clear h1 o1 fin
      go_wp2_with fail
      go_ret
      exact ⟨rfl, Fin.out⟩
    · subst hq
      have e1 : Avl.growR (.node s l k v 1 (.node i (.node q ql kq vq bq qr) k' v' b' rr)) = (.node q (.node s l k v (if bq = 1 then (-1 : Int) else 0) ql) kq vq 0 (.node i qr k' v' (if bq = -1 then (1 : Int) else 0) rr), false) := by simp [Avl.growR, Avl.bal, Avl.doubleR, hb]
      rw [e1]
      clear e1
      have rc := doubleR_walk Ht.out Hnt.out
      generalize (if bq = 1 then (-1 : Int) else 0) = xs at rc ⊢
      generalize (if bq = -1 then (1 : Int) else 0) = xr at rc ⊢
      have Rc := Lib.hid rc
      clear rc
      have hb1 : (b' == 1) = false := by simpa using hb
      clear hb
      go_enter Tryz.func84, Tryz.ntmps84
      go_wp2_with fail
      refine Rc.out.mono ?_
      rintro e w1 ⟨rfl, h1, o1⟩
      obtain ⟨hk1, hk2⟩ := Keep.out _ o1
      have fin := Re.out _ (.node q (.node s l k v xs ql) kq vq 0 (.node i qr k' v' xr rr)) h1 o1 (by simp [List.perm_iff_count, BT.ids, List.count_cons]; omega)
      have Fin := Lib.hid fin
      clear h1 o1 fin
      go_wp2_with fail
      go_ret
      exact ⟨rfl, Fin.out⟩
theorem growL_walk {w : World} {H : Hd} {c : Ctx} {s : Nat} {l r : BT} {k v b : Int} (sT : St avlL w H c (.node s r k v b l)) (hcan : canL (.node s r k v b l)) :
    Calls Tryz.prog 84 #[.int .i8 (-1), .pointer (some (slot H c))] w fun e w' => e = .returned (.bool (Avl.growL (.node s r k v b l)).2) ∧ St avlL w' H c (Avl.growL (.node s r k v b l)).1 ∧ Only (allIds H c (.node s r k v b l)) w w' := by
  have hs5 := sT.ht.1.cellC
  have fs5 := sT.ht.1.frozen 5
  obtain ⟨hsl, hslf⟩ := sT.hc.slot_cell
  simp only [Lay.oc, Lay.cv, if_true, BT.root, ptr, Option.map_some] at hs5 hsl
  rcases hcan with hb | hb | ⟨hb, i, rl, k', v', b', rr, hr, hcan⟩
  · subst hb
    have fin := sT.setB (-1)
    have Fin := Lib.hid fin
    have e1 : Avl.growL (.node s r k v 0 l) = (.node s r k v (-1) l, true) := by simp [Avl.growL]
    rw [e1]
    clear sT fin e1
    obtain ⟨sa, hsa⟩ : ∃ sa, slot H c = sa := ⟨_, rfl⟩
    rw [hsa] at hsl hslf ⊢
    clear hsa
    go_enter Tryz.func84, Tryz.ntmps84
    go_wp2_with fail
    go_ret
    exact ⟨rfl, Fin.out⟩
  · subst hb
    have fin := sT.setB 0
    have Fin := Lib.hid fin
    have e1 : Avl.growL (.node s r k v (1) l) = (.node s r k v 0 l, false) := by simp [Avl.growL]
    rw [e1]
    clear sT fin e1
    obtain ⟨sa, hsa⟩ : ∃ sa, slot H c = sa := ⟨_, rfl⟩
    rw [hsa] at hsl hslf ⊢
    clear hsa
    go_enter Tryz.func84, Tryz.ntmps84
    go_wp2_with fail
    go_ret
    exact ⟨rfl, Fin.out⟩
  · subst hb hr
    have hs3 := (Nd.cells_ sT.ht.1).2.2.1
    have hr5 := sT.ht.2.1.1.cellC
    have hnt := sT.ndt
    have hsn := slot_not_mem sT.nd
    have hlt := sT.hc.lt
    have hsb := slot_block H c
    have hslt : (slot H c).block < w.heap.size := by
      rcases List.mem_cons.1 hsb with e | e
      · rw [e]; exact hlt.1
      · exact hlt.2 _ e
    have ht := sT.ht
    have reroot := fun (w1 : World) (t' : BT) h1 o hp => St.reroot (w1 := w1) (t' := t') sT h1 o hp
    simp only [Lay.oc, Lay.cv, if_true, BT.root, ptr, Option.map_some] at hr5 hs3 reroot
    obtain ⟨sa, hsa⟩ : ∃ sa, slot H c = sa := ⟨_, rfl⟩
    rw [hsa] at hsl hslf hsn hslt reroot ⊢
    have keep : ∀ w1, Only (BT.ids (.node s (.node i rr k' v' b' rl) k v (-1) l)) w w1 → w1.cell? sa = some (.pointer (some ⟨s, 0, none⟩)) ∧ w1.frozen? sa = false :=
      fun w1 o => ⟨(World.cell?_of_block (o.block _ hslt hsn)).trans hsl, (World.frozen?_of_block (o.block _ hslt hsn)).trans hslf⟩
    have Ht := Lib.hid ht
    have Hnt := Lib.hid hnt
    have Re := Lib.hid reroot
    have Keep := Lib.hid keep
    clear ht hnt reroot keep sT hsn hslt hlt hsb hsa
    rcases hcan with hb | ⟨hb, q, ql, kq, vq, bq, qr, hq⟩
    · subst hb
      have e1 : Avl.growL (.node s (.node i rr k' v' (-1) rl) k v (-1) l) = (.node i rr k' v' 0 (.node s rl k v 0 l), false) := by simp [Avl.growL, Avl.bal, Avl.singleL]
      rw [e1]
      clear e1
      have rc := singleL_walk Ht.out Hnt.out
      have Rc := Lib.hid rc
      clear rc
      go_enter Tryz.func84, Tryz.ntmps84
      go_wp2_with fail
      refine Rc.out.mono ?_
      rintro e w1 ⟨rfl, h1, o1⟩
      obtain ⟨hk1, hk2⟩ := Keep.out _ o1
      have fin := Re.out _ (.node i rr k' v' 0 (.node s rl k v 0 l)) h1 o1 (by simp [List.perm_iff_count, BT.ids, List.count_cons]; omega)
      have Fin := Lib.hid fin
      clear h1 o1 fin
      go_wp2_with fail
      go_ret
      exact ⟨rfl, Fin.out⟩
    · subst hq
      have e1 : Avl.growL (.node s (.node i rr k' v' b' (.node q qr kq vq bq ql)) k v (-1) l) = (.node q (.node i rr k' v' (if bq = 1 then (-1 : Int) else 0) qr) kq vq 0 (.node s ql k v (if bq = -1 then (1 : Int) else 0) l), false) := by simp [Avl.growL, Avl.bal, Avl.doubleL, hb]
      rw [e1]
      clear e1
      have rc := doubleL_walk Ht.out Hnt.out
      generalize (if bq = -1 then (1 : Int) else 0) = xs at rc ⊢
      generalize (if bq = 1 then (-1 : Int) else 0) = xr at rc ⊢
      have Rc := Lib.hid rc
      clear rc
      have hb1 : (b' == (-1)) = false := by simpa using hb
      clear hb
      go_enter Tryz.func84, Tryz.ntmps84
      go_wp2_with fail
      refine Rc.out.mono ?_
      rintro e w1 ⟨rfl, h1, o1⟩
      obtain ⟨hk1, hk2⟩ := Keep.out _ o1
      have fin := Re.out _ (.node q (.node i rr k' v' xr qr) kq vq 0 (.node s ql k v xs l)) h1 o1 (by simp [List.perm_iff_count, BT.ids, List.count_cons]; omega)
      have Fin := Lib.hid fin
      clear h1 o1 fin
      go_wp2_with fail
      go_ret
      exact ⟨rfl, Fin.out⟩
theorem shrinkL_walk {w : World} {H : Hd} {c : Ctx} {s : Nat} {l r : BT} {k v b : Int} (sT : St avlL w H c (.node s l k v b r)) (hcan : can0R (.node s l k v b r)) :
    Calls Tryz.prog 86 #[.int .i8 1, .pointer (some (slot H c))] w fun e w' => e = .returned (.bool (Avl.shrinkL (.node s l k v b r)).2) ∧ St avlL w' H c (Avl.shrinkL (.node s l k v b r)).1 ∧ Only (allIds H c (.node s l k v b r)) w w' := by
  have hs5 := sT.ht.1.cellC
  have fs5 := sT.ht.1.frozen 5
  obtain ⟨hsl, hslf⟩ := sT.hc.slot_cell
  simp only [Lay.oc, Lay.cv, if_true, BT.root, ptr, Option.map_some] at hs5 hsl
  rcases hcan with hb | hb | ⟨hb, i, rl, k', v', b', rr, hr, hcan⟩
  · subst hb
    have fin := sT.setB 1
    have Fin := Lib.hid fin
    have e1 : Avl.shrinkL (.node s l k v 0 r) = (.node s l k v 1 r, false) := by simp [Avl.shrinkL]
    rw [e1]
    clear sT fin e1
    obtain ⟨sa, hsa⟩ : ∃ sa, slot H c = sa := ⟨_, rfl⟩
    rw [hsa] at hsl hslf ⊢
    clear hsa
    go_enter Tryz.func86, Tryz.ntmps86
    go_wp2_with fail
    go_ret
    exact ⟨rfl, Fin.out⟩
  · subst hb
    have fin := sT.setB 0
    have Fin := Lib.hid fin
    have e1 : Avl.shrinkL (.node s l k v (-1) r) = (.node s l k v 0 r, true) := by simp [Avl.shrinkL]
    rw [e1]
    clear sT fin e1
    obtain ⟨sa, hsa⟩ : ∃ sa, slot H c = sa := ⟨_, rfl⟩
    rw [hsa] at hsl hslf ⊢
    clear hsa
    go_enter Tryz.func86, Tryz.ntmps86
    go_wp2_with fail
    go_ret
    exact ⟨rfl, Fin.out⟩
  · subst hb hr
    have hs4 := (Nd.cells_ sT.ht.1).2.2.2
    have hr5 := sT.ht.2.2.1.cellC
    have hnt := sT.ndt
    have hsn := slot_not_mem sT.nd
    have hlt := sT.hc.lt
    have hsb := slot_block H c
    have hslt : (slot H c).block < w.heap.size := by
      rcases List.mem_cons.1 hsb with e | e
      · rw [e]; exact hlt.1
      · exact hlt.2 _ e
    have ht := sT.ht
    have reroot := fun (w1 : World) (t' : BT) h1 o hp => St.reroot (w1 := w1) (t' := t') sT h1 o hp
    simp only [Lay.oc, Lay.cv, if_true, BT.root, ptr, Option.map_some] at hr5 hs4 reroot
    obtain ⟨sa, hsa⟩ : ∃ sa, slot H c = sa := ⟨_, rfl⟩
    rw [hsa] at hsl hslf hsn hslt reroot ⊢
    have keep : ∀ w1, Only (BT.ids (.node s l k v 1 (.node i rl k' v' b' rr))) w w1 → w1.cell? sa = some (.pointer (some ⟨s, 0, none⟩)) ∧ w1.frozen? sa = false :=
      fun w1 o => ⟨(World.cell?_of_block (o.block _ hslt hsn)).trans hsl, (World.frozen?_of_block (o.block _ hslt hsn)).trans hslf⟩
    have Ht := Lib.hid ht
    have Hnt := Lib.hid hnt
    have Re := Lib.hid reroot
    have Keep := Lib.hid keep
    clear ht hnt reroot keep sT hsn hslt hlt hsb hsa
    rcases hcan with hb | hb | ⟨hb0, hb, q, ql, kq, vq, bq, qr, hq⟩
    · subst hb
      have e1 : Avl.shrinkL (.node s l k v 1 (.node i rl k' v' 0 rr)) = (.node i (.node s l k v 1 rl) k' v' (-1) rr, false) := by simp [Avl.shrinkL]
      rw [e1]
      clear e1
      have rc := rotR_walk Ht.out Hnt.out
      have Rc := Lib.hid rc
      clear rc
      go_enter Tryz.func86, Tryz.ntmps86
      go_wp2_with fail
      refine Rc.out.mono ?_
      rintro e w1 ⟨rfl, h1, o1⟩
      have hi5 := h1.1.cellC
      have fi5 := h1.1.frozen 5
      simp only [Lay.oc, Lay.cv, if_true] at hi5
      have hn1 : (BT.ids (.node i (.node s l k v 1 rl) k' v' 0 rr)).Nodup := by
        refine List.Perm.nodup ?_ Hnt.out
        simp [List.perm_iff_count, BT.ids, List.count_cons]
        omega
      have o2 : Only (BT.ids (.node s l k v 1 (.node i rl k' v' 0 rr))) w (w1.setCell ⟨i, 5, none⟩ (.int .i8 (-1))) := o1.setCell (.inl (by simp [BT.ids])) _
      obtain ⟨hk1, hk2⟩ := Keep.out _ o2
      have fin := Re.out _ (.node i (.node s l k v 1 rl) k' v' (-1) rr) (IsT.setC h1 hn1 (-1)) o2 (by simp [List.perm_iff_count, BT.ids, List.count_cons]; omega)
      have Fin := Lib.hid fin
      clear h1 o1 hn1 o2 fin
      go_wp2_with fail
      go_ret
      exact ⟨rfl, Fin.out⟩
    · subst hb
      have e1 : Avl.shrinkL (.node s l k v 1 (.node i rl k' v' 1 rr)) = (.node i (.node s l k v 0 rl) k' v' 0 rr, true) := by simp [Avl.shrinkL, Avl.singleR]
      rw [e1]
      clear e1
      have rc := singleR_walk Ht.out Hnt.out
      have Rc := Lib.hid rc
      clear rc
      go_enter Tryz.func86, Tryz.ntmps86
      go_wp2_with fail
      refine Rc.out.mono ?_
      rintro e w1 ⟨rfl, h1, o1⟩
      obtain ⟨hk1, hk2⟩ := Keep.out _ o1
      have fin := Re.out _ (.node i (.node s l k v 0 rl) k' v' 0 rr) h1 o1 (by simp [List.perm_iff_count, BT.ids, List.count_cons]; omega)
      have Fin := Lib.hid fin
      clear h1 o1 fin
      go_wp2_with fail
      go_ret
      exact ⟨rfl, Fin.out⟩
    · subst hq
      have e1 : Avl.shrinkL (.node s l k v 1 (.node i (.node q ql kq vq bq qr) k' v' b' rr)) = (.node q (.node s l k v (if bq = 1 then (-1 : Int) else 0) ql) kq vq 0 (.node i qr k' v' (if bq = -1 then (1 : Int) else 0) rr), true) := by simp [Avl.shrinkL, Avl.doubleR, hb0, hb]
      rw [e1]
      clear e1
      have rc := doubleR_walk Ht.out Hnt.out
      generalize (if bq = 1 then (-1 : Int) else 0) = xs at rc ⊢
      generalize (if bq = -1 then (1 : Int) else 0) = xr at rc ⊢
      have Rc := Lib.hid rc
      clear rc
      have hb1 : (b' == 1) = false := by simpa using hb
      have hb2 : (b' == 0) = false := by simpa using hb0
      clear hb hb0
      go_enter Tryz.func86, Tryz.ntmps86
      go_wp2_with fail
      refine Rc.out.mono ?_
      rintro e w1 ⟨rfl, h1, o1⟩
      obtain ⟨hk1, hk2⟩ := Keep.out _ o1
      have fin := Re.out _ (.node q (.node s l k v xs ql) kq vq 0 (.node i qr k' v' xr rr)) h1 o1 (by simp [List.perm_iff_count, BT.ids, List.count_cons]; omega)
      have Fin := Lib.hid fin
      clear h1 o1 fin
      go_wp2_with fail
      go_ret
      exact ⟨rfl, Fin.out⟩
theorem shrinkR_walk {w : World} {H : Hd} {c : Ctx} {s : Nat} {l r : BT} {k v b : Int} (sT : St avlL w H c (.node s r k v b l)) (hcan : can0L (.node s r k v b l)) :
    Calls Tryz.prog 86 #[.int .i8 (-1), .pointer (some (slot H c))] w fun e w' => e = .returned (.bool (Avl.shrinkR (.node s r k v b l)).2) ∧ St avlL w' H c (Avl.shrinkR (.node s r k v b l)).1 ∧ Only (allIds H c (.node s r k v b l)) w w' := by
  have hs5 := sT.ht.1.cellC
  have fs5 := sT.ht.1.frozen 5
  obtain ⟨hsl, hslf⟩ := sT.hc.slot_cell
  simp only [Lay.oc, Lay.cv, if_true, BT.root, ptr, Option.map_some] at hs5 hsl
  rcases hcan with hb | hb | ⟨hb, i, rl, k', v', b', rr, hr, hcan⟩
  · subst hb
    have fin := sT.setB (-1)
    have Fin := Lib.hid fin
    have e1 : Avl.shrinkR (.node s r k v 0 l) = (.node s r k v (-1) l, false) := by simp [Avl.shrinkR]
    rw [e1]
    clear sT fin e1
    obtain ⟨sa, hsa⟩ : ∃ sa, slot H c = sa := ⟨_, rfl⟩
    rw [hsa] at hsl hslf ⊢
    clear hsa
    go_enter Tryz.func86, Tryz.ntmps86
    go_wp2_with fail
    go_ret
    exact ⟨rfl, Fin.out⟩
  · subst hb
    have fin := sT.setB 0
    have Fin := Lib.hid fin
    have e1 : Avl.shrinkR (.node s r k v (1) l) = (.node s r k v 0 l, true) := by simp [Avl.shrinkR]
    rw [e1]
    clear sT fin e1
    obtain ⟨sa, hsa⟩ : ∃ sa, slot H c = sa := ⟨_, rfl⟩
    rw [hsa] at hsl hslf ⊢
    clear hsa
    go_enter Tryz.func86, Tryz.ntmps86
    go_wp2_with fail
    go_ret
    exact ⟨rfl, Fin.out⟩
  · subst hb hr
    have hs3 := (Nd.cells_ sT.ht.1).2.2.1
    have hr5 := sT.ht.2.1.1.cellC
    have hnt := sT.ndt
    have hsn := slot_not_mem sT.nd
    have hlt := sT.hc.lt
    have hsb := slot_block H c
    have hslt : (slot H c).block < w.heap.size := by
      rcases List.mem_cons.1 hsb with e | e
      · rw [e]; exact hlt.1
      · exact hlt.2 _ e
    have ht := sT.ht
    have reroot := fun (w1 : World) (t' : BT) h1 o hp => St.reroot (w1 := w1) (t' := t') sT h1 o hp
    simp only [Lay.oc, Lay.cv, if_true, BT.root, ptr, Option.map_some] at hr5 hs3 reroot
    obtain ⟨sa, hsa⟩ : ∃ sa, slot H c = sa := ⟨_, rfl⟩
    rw [hsa] at hsl hslf hsn hslt reroot ⊢
    have keep : ∀ w1, Only (BT.ids (.node s (.node i rr k' v' b' rl) k v (-1) l)) w w1 → w1.cell? sa = some (.pointer (some ⟨s, 0, none⟩)) ∧ w1.frozen? sa = false :=
      fun w1 o => ⟨(World.cell?_of_block (o.block _ hslt hsn)).trans hsl, (World.frozen?_of_block (o.block _ hslt hsn)).trans hslf⟩
    have Ht := Lib.hid ht
    have Hnt := Lib.hid hnt
    have Re := Lib.hid reroot
    have Keep := Lib.hid keep
    clear ht hnt reroot keep sT hsn hslt hlt hsb hsa
    rcases hcan with hb | hb | ⟨hb0, hb, q, ql, kq, vq, bq, qr, hq⟩
    · subst hb
      have e1 : Avl.shrinkR (.node s (.node i rr k' v' 0 rl) k v (-1) l) = (.node i rr k' v' (1) (.node s rl k v (-1) l), false) := by simp [Avl.shrinkR]
      rw [e1]
      clear e1
      have rc := rotL_walk Ht.out Hnt.out
      have Rc := Lib.hid rc
      clear rc
      go_enter Tryz.func86, Tryz.ntmps86
      go_wp2_with fail
      refine Rc.out.mono ?_
      rintro e w1 ⟨rfl, h1, o1⟩
      have hi5 := h1.1.cellC
      have fi5 := h1.1.frozen 5
      simp only [Lay.oc, Lay.cv, if_true] at hi5
      have hn1 : (BT.ids (.node i rr k' v' 0 (.node s rl k v (-1) l))).Nodup := by
        refine List.Perm.nodup ?_ Hnt.out
        simp [List.perm_iff_count, BT.ids, List.count_cons]
        omega
      have o2 : Only (BT.ids (.node s (.node i rr k' v' 0 rl) k v (-1) l)) w (w1.setCell ⟨i, 5, none⟩ (.int .i8 (1))) := o1.setCell (.inl (by simp [BT.ids])) _
      obtain ⟨hk1, hk2⟩ := Keep.out _ o2
      have fin := Re.out _ (.node i rr k' v' (1) (.node s rl k v (-1) l)) (IsT.setC h1 hn1 (1)) o2 (by simp [List.perm_iff_count, BT.ids, List.count_cons]; omega)
      have Fin := Lib.hid fin
      clear h1 o1 hn1 o2 fin
      go_wp2_with fail
      go_ret
      exact ⟨rfl, Fin.out⟩
    · subst hb
      have e1 : Avl.shrinkR (.node s (.node i rr k' v' (-1) rl) k v (-1) l) = (.node i rr k' v' 0 (.node s rl k v 0 l), true) := by simp [Avl.shrinkR, Avl.singleL]
      rw [e1]
      clear e1
      have rc := singleL_walk Ht.out Hnt.out
      have Rc := Lib.hid rc
      clear rc
      go_enter Tryz.func86, Tryz.ntmps86
      go_wp2_with fail
      refine Rc.out.mono ?_
      rintro e w1 ⟨rfl, h1, o1⟩
      obtain ⟨hk1, hk2⟩ := Keep.out _ o1
      have fin := Re.out _ (.node i rr k' v' 0 (.node s rl k v 0 l)) h1 o1 (by simp [List.perm_iff_count, BT.ids, List.count_cons]; omega)
      have Fin := Lib.hid fin
      clear h1 o1 fin
      go_wp2_with fail
      go_ret
      exact ⟨rfl, Fin.out⟩
    · subst hq
      have e1 : Avl.shrinkR (.node s (.node i rr k' v' b' (.node q qr kq vq bq ql)) k v (-1) l) = (.node q (.node i rr k' v' (if bq = 1 then (-1 : Int) else 0) qr) kq vq 0 (.node s ql k v (if bq = -1 then (1 : Int) else 0) l), true) := by simp [Avl.shrinkR, Avl.doubleL, hb0, hb]
      rw [e1]
      clear e1
      have rc := doubleL_walk Ht.out Hnt.out
      generalize (if bq = -1 then (1 : Int) else 0) = xs at rc ⊢
      generalize (if bq = 1 then (-1 : Int) else 0) = xr at rc ⊢
      have Rc := Lib.hid rc
      clear rc
      have hb1 : (b' == (-1)) = false := by simpa using hb
      have hb2 : (b' == 0) = false := by simpa using hb0
      clear hb hb0
      go_enter Tryz.func86, Tryz.ntmps86
      go_wp2_with fail
      refine Rc.out.mono ?_
      rintro e w1 ⟨rfl, h1, o1⟩
      obtain ⟨hk1, hk2⟩ := Keep.out _ o1
      have fin := Re.out _ (.node q (.node i rr k' v' xr qr) kq vq 0 (.node s ql k v xs l)) h1 o1 (by simp [List.perm_iff_count, BT.ids, List.count_cons]; omega)
      have Fin := Lib.hid fin
      clear h1 o1 fin
      go_wp2_with fail
      go_ret
      exact ⟨rfl, Fin.out⟩
end Go.Proofs.YtbdcepkahdecjaaGreat

namespace Go.Proofs.YtbdcepkahdecjaaGreat
open Go.RowKit
theorem canL_of {o : Ord} {n i : Nat} {k v k' v' b : Int} {l r : BT} (hl : Avl.ok l) (hb : b = (Avl.ht r : Int) - Avl.ht l) (hb1 : -1 ≤ b) (hb2 : b ≤ 1) (hf : (Avl.put o n k v l).2 = true) :
    canL (.node i (Avl.put o n k v l).1 k' v' b r) := by
  obtain ⟨h1, h2, h3⟩ := Avl.put_ok (o := o) (n := n) (k := k) (v := v) hl
  rw [hf] at h2
  replace h3 := h3 hf
  simp only [if_true] at h2
  generalize (Avl.put o n k v l).1 = l' at *
  unfold canL
  by_cases e1 : b = 0
  · exact .inl e1
  · by_cases e2 : b = 1
    · exact .inr (.inl e2)
    · refine .inr (.inr ⟨by omega, ?_⟩)
      obtain ⟨j, ll, kk, vv, bb, rr, rfl⟩ := Avl.ht_pos (t := l') (by omega)
      refine ⟨j, rr, kk, vv, bb, ll, rfl, ?_⟩
      by_cases e3 : bb = -1
      · exact .inl e3
      · simp only [Avl.ok, Avl.ht, Avl.bal] at h1 h2 h3
        obtain ⟨j2, ll2, kk2, vv2, bb2, rr2, rfl⟩ := Avl.ht_pos (t := rr) (by omega)
        exact .inr ⟨e3, j2, rr2, kk2, vv2, bb2, ll2, rfl⟩
theorem canR_of {o : Ord} {n i : Nat} {k v k' v' b : Int} {l r : BT} (hr : Avl.ok r) (hb : b = (Avl.ht r : Int) - Avl.ht l) (hb1 : -1 ≤ b) (hb2 : b ≤ 1) (hf : (Avl.put o n k v r).2 = true) :
    canR (.node i l k' v' b (Avl.put o n k v r).1) := by
  obtain ⟨h1, h2, h3⟩ := Avl.put_ok (o := o) (n := n) (k := k) (v := v) hr
  rw [hf] at h2
  replace h3 := h3 hf
  simp only [if_true] at h2
  generalize (Avl.put o n k v r).1 = r' at *
  unfold canR
  by_cases e1 : b = 0
  · exact .inl e1
  · by_cases e2 : b = -1
    · exact .inr (.inl e2)
    · refine .inr (.inr ⟨by omega, ?_⟩)
      obtain ⟨j, ll, kk, vv, bb, rr, rfl⟩ := Avl.ht_pos (t := r') (by omega)
      refine ⟨j, ll, kk, vv, bb, rr, rfl, ?_⟩
      by_cases e3 : bb = 1
      · exact .inl e3
      · simp only [Avl.ok, Avl.ht, Avl.bal] at h1 h2 h3
        obtain ⟨j2, ll2, kk2, vv2, bb2, rr2, rfl⟩ := Avl.ht_pos (t := ll) (by omega)
        exact .inr ⟨e3, j2, ll2, kk2, vv2, bb2, rr2, rfl⟩
def PutPost (o : Ord) (k v : Int) (H : Hd) (c : Ctx) (t : BT) (w : World) (e : Ending) (w' : World) : Prop :=
  ∃ n, w.heap.size ≤ n ∧ e = .returned (.bool (Avl.put o n k v t).2) ∧ St avlL w' { H with size := H.size + if Avl.has o k t then 0 else 1 } c (Avl.put o n k v t).1 ∧ Only (allIds H c t) w w'
theorem put_walk (o : Ord) (ho : o.fine) (ob : Nat) (k v : Int) (t : BT) : ∀ (c : Ctx) (w : World) (H : Hd), St avlL w H c t → Avl.ok t → H.cmp = cmpv ob → OrdAt w ob o → ob ∉ allIds H c t → 0 ≤ H.size → H.size ≤ 1000000 →
    Calls Tryz.prog 82 #[.pointer (some ⟨H.tb, 0, none⟩), .iface 3 (.int .i64 k), .iface 3 (.int .i64 v), ptr c.par, .pointer (some (slot H c))] w (PutPost o k v H c t w) := by
  induction t with
  | nil =>
    intro c w H sT _ hcmp hob hobn hs0 hs1
    obtain ⟨hsl, hslf⟩ := sT.hc.slot_cell
    obtain ⟨hh2, hh1, hhf⟩ := sT.hc.header
    obtain ⟨s1, o1⟩ := sT.size_set (H.size + 1)
    have pl := s1.plant k v 0
    have sl := (s1.hc.alloc (.cells (avlL.cells k v 0 c.par none none) avlL.tn)).slot_cell
    have fin : PutPost o k v H c .nil w (.returned (.bool true)) _ := ⟨_, Nat.le_refl _, rfl, by rw [← World.size_setCell w ⟨H.tb, avlL.os, none⟩ (.int .i64 (H.size + 1))]; exact pl.1, o1.trans pl.2⟩
    simp only [slot_size] at fin sl
    obtain ⟨sl1, sl2⟩ := sl
    simp only [BT.root, ptr, Option.map_none, Option.map_some, Lay.os, Lay.om, Lay.cells, if_true, World.size_setCell] at hsl hh2 hh1 sl1 sl2 fin
    have Fin := Lib.hid fin
    clear fin pl o1 s1 sT hcmp hob hobn
    generalize slot H c = sa at *
    go_enter Tryz.func82, Tryz.ntmps82
    go_wp2_with fail
    go_ret
    exact Fin.out
  | node i l k' v' b r ihl ihr =>
    intro c w H sT hok hcmp hob hobn hs0 hs1
    obtain ⟨hsl, hslf⟩ := sT.hc.slot_cell
    obtain ⟨_, hh1, _⟩ := sT.hc.header
    obtain ⟨hk0, hv0, _, _⟩ := sT.ht.1.cells_
    have hkf := sT.ht.1.frozen 0
    have hvf := sT.ht.1.frozen 1
    simp only [BT.root, ptr, Option.map_some, Lay.om, if_true, hcmp] at hsl hh1 hk0 hv0
    rcases Int.lt_trichotomy (o.rk k) (o.rk k') with hlt | he | hgt
    · have ih := fun (w1 : World) (st : St avlL w1 H (.lf i k' v' b r :: c) l) (h1 : OrdAt w1 ob o) => ihl (.lf i k' v' b r :: c) w1 H st hok.1 hcmp h1 (by simp only [allIds, Ctx.ids, Fr.ids, BT.ids, List.mem_cons, List.mem_append, not_or] at hobn ⊢; grind) hs0 hs1
      simp only [Ctx.par, Fr.id, ptr, slot, Option.map_some] at ih
      have gw := fun (w2 : World) (n : Nat) (x : Int) (st : St avlL w2 { H with size := x } c (.node i (Avl.put o n k v l).1 k' v' b r)) (hf : (Avl.put o n k v l).2 = true) => growL_walk st (canL_of (v' := v') (k' := k') (i := i) (b := b) hok.1 hok.2.2.1 hok.2.2.2.1 hok.2.2.2.2 hf)
      simp only [slot_size] at gw
      have fin0 := fun (w3 : World) (n q : Nat) (w2 : World) (hn : w.heap.size ≤ n) (hf : (Avl.put o n k v l).2 = false) (o2 : Only (allIds H (.lf i k' v' b r :: c) l) (w.drewN q) w2) (st2 : St avlL w2 { H with size := H.size + if Avl.has o k l then 0 else 1 } (.lf i k' v' b r :: c) (Avl.put o n k v l).1) (hw : w3 = w2) =>
        show PutPost o k v H c (.node i l k' v' b r) w (.returned (.bool false)) w3 from by
          subst hw
          have e1 : Avl.put o n k v (.node i l k' v' b r) = ((.node i (Avl.put o n k v l).1 k' v' b r), false) := by rw [Avl.put_left hlt, if_neg (by simp [hf])]
          refine ⟨n, hn, by rw [e1], by rw [e1, Avl.has_left hlt]; exact st2.upL, ?_⟩
          exact ((Only.refl _ w).drewN q).trans' o2 (fun x _ hx => by simp only [allIds, Ctx.ids, Fr.ids, BT.ids, List.mem_cons, List.mem_append] at hx ⊢; grind)
      have fin1 := fun (w3 : World) (n q : Nat) (w2 : World) (hn : w.heap.size ≤ n) (hf : (Avl.put o n k v l).2 = true) (o2 : Only (allIds H (.lf i k' v' b r :: c) l) (w.drewN q) w2)
          (st3 : St avlL w3 { H with size := H.size + if Avl.has o k l then 0 else 1 } c (Avl.growL (.node i (Avl.put o n k v l).1 k' v' b r)).1) (o3 : Only (allIds { H with size := H.size + if Avl.has o k l then 0 else 1 } c (.node i (Avl.put o n k v l).1 k' v' b r)) w2 w3) =>
        show PutPost o k v H c (.node i l k' v' b r) w (.returned (.bool (Avl.growL (.node i (Avl.put o n k v l).1 k' v' b r)).2)) w3 from by
          have e1 : Avl.put o n k v (.node i l k' v' b r) = Avl.growL (.node i (Avl.put o n k v l).1 k' v' b r) := by rw [Avl.put_left hlt, if_pos hf]
          refine ⟨n, hn, by rw [e1], by rw [e1, Avl.has_left hlt]; exact st3, ?_⟩
          refine (((Only.refl _ w).drewN q).trans' o2 (fun x _ hx => by simp only [allIds, Ctx.ids, Fr.ids, BT.ids, List.mem_cons, List.mem_append] at hx ⊢; grind)).trans' o3 (fun x hx hm => ?_)
          simp only [allIds, BT.ids, List.mem_cons, List.mem_append] at hm ⊢
          have := fun h => Avl.mem_ids_put (o := o) (n := n) (k := k) (v := v) (t := l) (b := x) h
          have : x ≠ n := by omega
          grind
      have by1 := fun (w1 : World) (h1 : OrdAt w1 ob o) => by1_lt o ob k k' w1 ho h1 hlt
      have By := Lib.hid by1
      have Ih := Lib.hid ih
      have Gw := Lib.hid gw
      have F0 := Lib.hid fin0
      have F1 := Lib.hid fin1
      have ST := Lib.hid sT
      have Ob := Lib.hid hob
      clear by1 ih gw fin0 fin1 sT hob ihl ihr hok hobn hlt hcmp
      generalize slot H c = sa at *
      go_enter Tryz.func82, Tryz.ntmps82
      go_wp2_with fail
      go_quiet ((go_at_call 21; exact Calls.quiet_of (By.out _ Ob.out)))
      go_wp2_with fail
      refine (Ih.out _ (ST.out.drewN nq).downL (Ob.out.drewN nq)).mono ?_
      rintro e w2 ⟨n, hn, rfl, st2, o2⟩
      cases hf : (Avl.put o n k v l).2 with
      | true =>
        have g := Gw.out _ n _ st2.upL hf
        have f1 := F1.out
        have G := Lib.hid g
        have St2 := Lib.hid st2
        have O2 := Lib.hid o2
        have Hf := Lib.hid hf
        have Hn := Lib.hid hn
        clear g st2 o2 hf f1 hn
        go_wp2_with fail
        refine G.out.mono ?_
        rintro e w3 ⟨rfl, st3, o3⟩
        have St3 := Lib.hid st3
        have O3 := Lib.hid o3
        clear st3 o3
        go_wp2_with fail
        go_ret
        exact F1.out _ _ _ _ Hn.out Hf.out O2.out St3.out O3.out
      | false =>
        have St2 := Lib.hid st2
        have O2 := Lib.hid o2
        have Hf := Lib.hid hf
        have Hn := Lib.hid hn
        clear st2 o2 hf hn
        go_wp2_with fail
        go_ret
        exact F0.out _ _ _ _ Hn.out Hf.out O2.out St2.out rfl
    · have fin := fun (q : Nat) => show PutPost o k v H c (.node i l k' v' b r) w (.returned (.bool false)) (((w.drewN q).setCell ⟨i, 0, none⟩ (.iface 3 (.int .i64 k))).setCell ⟨i, 1, none⟩ (.iface 3 (.int .i64 v))) from by
        have e1 : Avl.put o w.heap.size k v (.node i l k' v' b r) = (.node i l k v b r, false) := Avl.put_here he
        have s1 := St.root_set (sT.drewN q) (Nd.setK (L := avlL) (St.ht (sT.drewN q)).1 k)
        have s2 := St.root_set s1.1 (Nd.setV (L := avlL) s1.1.ht.1 v)
        refine ⟨w.heap.size, Nat.le_refl _, by rw [e1], by rw [e1, Avl.has_here he]; simpa using s2.1, ?_⟩
        exact ((Only.refl _ w).drewN q).trans (s1.2.trans s2.2)
      have by1 := fun (w1 : World) (h1 : OrdAt w1 ob o) => by1_eq o ob k k' w1 ho h1 he
      have By := Lib.hid by1
      have Fin := Lib.hid fin
      have Ob := Lib.hid hob
      clear by1 fin sT hob ihl ihr hok hobn he hcmp
      generalize slot H c = sa at *
      go_enter Tryz.func82, Tryz.ntmps82
      go_wp2_with fail
      go_quiet ((go_at_call 21; exact Calls.quiet_of (By.out _ Ob.out)))
      go_wp2_with fail
      go_ret
      exact Fin.out nq
    · have ih := fun (w1 : World) (st : St avlL w1 H (.rf i l k' v' b :: c) r) (h1 : OrdAt w1 ob o) => ihr (.rf i l k' v' b :: c) w1 H st hok.2.1 hcmp h1 (by simp only [allIds, Ctx.ids, Fr.ids, BT.ids, List.mem_cons, List.mem_append, not_or] at hobn ⊢; grind) hs0 hs1
      simp only [Ctx.par, Fr.id, ptr, slot, Option.map_some] at ih
      have gw := fun (w2 : World) (n : Nat) (x : Int) (st : St avlL w2 { H with size := x } c (.node i l k' v' b (Avl.put o n k v r).1)) (hf : (Avl.put o n k v r).2 = true) => growR_walk st (canR_of (v' := v') (k' := k') (i := i) (b := b) hok.2.1 hok.2.2.1 hok.2.2.2.1 hok.2.2.2.2 hf)
      simp only [slot_size] at gw
      have fin0 := fun (w3 : World) (n q : Nat) (w2 : World) (hn : w.heap.size ≤ n) (hf : (Avl.put o n k v r).2 = false) (o2 : Only (allIds H (.rf i l k' v' b :: c) r) (w.drewN q) w2) (st2 : St avlL w2 { H with size := H.size + if Avl.has o k r then 0 else 1 } (.rf i l k' v' b :: c) (Avl.put o n k v r).1) (hw : w3 = w2) =>
        show PutPost o k v H c (.node i l k' v' b r) w (.returned (.bool false)) w3 from by
          subst hw
          have e1 : Avl.put o n k v (.node i l k' v' b r) = ((.node i l k' v' b (Avl.put o n k v r).1), false) := by rw [Avl.put_right hgt, if_neg (by simp [hf])]
          refine ⟨n, hn, by rw [e1], by rw [e1, Avl.has_right hgt]; exact st2.upR, ?_⟩
          exact ((Only.refl _ w).drewN q).trans' o2 (fun x _ hx => by simp only [allIds, Ctx.ids, Fr.ids, BT.ids, List.mem_cons, List.mem_append] at hx ⊢; grind)
      have fin1 := fun (w3 : World) (n q : Nat) (w2 : World) (hn : w.heap.size ≤ n) (hf : (Avl.put o n k v r).2 = true) (o2 : Only (allIds H (.rf i l k' v' b :: c) r) (w.drewN q) w2)
          (st3 : St avlL w3 { H with size := H.size + if Avl.has o k r then 0 else 1 } c (Avl.growR (.node i l k' v' b (Avl.put o n k v r).1)).1) (o3 : Only (allIds { H with size := H.size + if Avl.has o k r then 0 else 1 } c (.node i l k' v' b (Avl.put o n k v r).1)) w2 w3) =>
        show PutPost o k v H c (.node i l k' v' b r) w (.returned (.bool (Avl.growR (.node i l k' v' b (Avl.put o n k v r).1)).2)) w3 from by
          have e1 : Avl.put o n k v (.node i l k' v' b r) = Avl.growR (.node i l k' v' b (Avl.put o n k v r).1) := by rw [Avl.put_right hgt, if_pos hf]
          refine ⟨n, hn, by rw [e1], by rw [e1, Avl.has_right hgt]; exact st3, ?_⟩
          refine (((Only.refl _ w).drewN q).trans' o2 (fun x _ hx => by simp only [allIds, Ctx.ids, Fr.ids, BT.ids, List.mem_cons, List.mem_append] at hx ⊢; grind)).trans' o3 (fun x hx hm => ?_)
          simp only [allIds, BT.ids, List.mem_cons, List.mem_append] at hm ⊢
          have := fun h => Avl.mem_ids_put (o := o) (n := n) (k := k) (v := v) (t := r) (b := x) h
          have : x ≠ n := by omega
          grind
      have by1 := fun (w1 : World) (h1 : OrdAt w1 ob o) => by1_gt o ob k k' w1 ho h1 hgt
      have By := Lib.hid by1
      have Ih := Lib.hid ih
      have Gw := Lib.hid gw
      have F0 := Lib.hid fin0
      have F1 := Lib.hid fin1
      have ST := Lib.hid sT
      have Ob := Lib.hid hob
      clear by1 ih gw fin0 fin1 sT hob ihl ihr hok hobn hgt hcmp
      generalize slot H c = sa at *
      go_enter Tryz.func82, Tryz.ntmps82
      go_wp2_with fail
      go_quiet ((go_at_call 21; exact Calls.quiet_of (By.out _ Ob.out)))
      go_wp2_with fail
      refine (Ih.out _ (ST.out.drewN nq).downR (Ob.out.drewN nq)).mono ?_
      rintro e w2 ⟨n, hn, rfl, st2, o2⟩
      cases hf : (Avl.put o n k v r).2 with
      | true =>
        have g := Gw.out _ n _ st2.upR hf
        have f1 := F1.out
        have G := Lib.hid g
        have St2 := Lib.hid st2
        have O2 := Lib.hid o2
        have Hf := Lib.hid hf
        have Hn := Lib.hid hn
        clear g st2 o2 hf f1 hn
        go_wp2_with fail
        refine G.out.mono ?_
        rintro e w3 ⟨rfl, st3, o3⟩
        have St3 := Lib.hid st3
        have O3 := Lib.hid o3
        clear st3 o3
        go_wp2_with fail
        go_ret
        exact F1.out _ _ _ _ Hn.out Hf.out O2.out St3.out O3.out
      | false =>
        have St2 := Lib.hid st2
        have O2 := Lib.hid o2
        have Hf := Lib.hid hf
        have Hn := Lib.hid hn
        clear st2 o2 hf hn
        go_wp2_with fail
        go_ret
        exact F0.out _ _ _ _ Hn.out Hf.out O2.out St2.out rfl
end Go.Proofs.YtbdcepkahdecjaaGreat

namespace Go.Proofs.YtbdcepkahdecjaaGreat
open Go.RowKit
theorem IsC.frame_key {w : World} {H : Hd} {c1 c2 : Ctx} {q : Nat} {lq : BT} {kq vq bq : Int} {h : Option Nat} (hc : IsC avlL w H (c1 ++ .rf q lq kq vq bq :: c2) h)
    (hn : (H.tb :: Ctx.ids (c1 ++ .rf q lq kq vq bq :: c2)).Nodup) (x : Int) :
    IsC avlL (w.setCell ⟨q, 0, none⟩ (.iface 3 (.int .i64 x))) H (c1 ++ .rf q lq x vq bq :: c2) h := by
  induction c1 generalizing h with
  | nil =>
    obtain ⟨h1, h2, h3⟩ := hc
    simp only [List.nil_append, Ctx.ids, Fr.ids, List.nodup_cons, List.mem_append, List.mem_cons, List.cons_append, List.nodup_append, not_or] at hn
    exact ⟨Nd.setK (L := avlL) h1 x, h2.far hn.2.1.1 _, h3.far hn.2.1.2 (fun e => hn.1.1 e.symm) _⟩
  | cons f c1 ih =>
    have hn' := hn
    cases f with
    | lf i k v cc r =>
      obtain ⟨h1, h2, h3⟩ := hc
      have hq : q ∈ Ctx.ids (c1 ++ .rf q lq kq vq bq :: c2) := by
        clear ih h3 hn hn' h1
        induction c1 with
        | nil => simp [Ctx.ids, Fr.ids]
        | cons g c1 ih => simp [Ctx.ids, ih]
      simp only [List.cons_append, Ctx.ids, Fr.ids, List.nodup_cons, List.mem_append, List.mem_cons, List.nodup_append, not_or] at hn
      have hp : Ctx.par (c1 ++ .rf q lq x vq bq :: c2) = Ctx.par (c1 ++ .rf q lq kq vq bq :: c2) := by cases c1 <;> rfl
      refine ⟨?_, h2.far (fun hm => hn.2.2.2.2 _ hm _ hq rfl) _, ih h3 (List.nodup_cons.2 ⟨hn.1.2.2, hn.2.2.2.1⟩)⟩
      show Nd avlL _ i k v cc (Ctx.par (c1 ++ .rf q lq x vq bq :: c2)) _ _
      rw [hp]
      exact h1.far (fun e => hn.2.1.2 (by rw [e]; exact hq)) _
    | rf i l k v cc =>
      obtain ⟨h1, h2, h3⟩ := hc
      have hq : q ∈ Ctx.ids (c1 ++ .rf q lq kq vq bq :: c2) := by
        clear ih h3 hn hn' h1
        induction c1 with
        | nil => simp [Ctx.ids, Fr.ids]
        | cons g c1 ih => simp [Ctx.ids, ih]
      simp only [List.cons_append, Ctx.ids, Fr.ids, List.nodup_cons, List.mem_append, List.mem_cons, List.nodup_append, not_or] at hn
      have hp : Ctx.par (c1 ++ .rf q lq x vq bq :: c2) = Ctx.par (c1 ++ .rf q lq kq vq bq :: c2) := by cases c1 <;> rfl
      refine ⟨?_, h2.far (fun hm => hn.2.2.2.2 _ hm _ hq rfl) _, ih h3 (List.nodup_cons.2 ⟨hn.1.2.2, hn.2.2.2.1⟩)⟩
      show Nd avlL _ i k v cc (Ctx.par (c1 ++ .rf q lq x vq bq :: c2)) _ _
      rw [hp]
      exact h1.far (fun e => hn.2.1.2 (by rw [e]; exact hq)) _
theorem IsC.frame_val {w : World} {H : Hd} {c1 c2 : Ctx} {q : Nat} {lq : BT} {kq vq bq : Int} {h : Option Nat} (hc : IsC avlL w H (c1 ++ .rf q lq kq vq bq :: c2) h)
    (hn : (H.tb :: Ctx.ids (c1 ++ .rf q lq kq vq bq :: c2)).Nodup) (x : Int) :
    IsC avlL (w.setCell ⟨q, 1, none⟩ (.iface 3 (.int .i64 x))) H (c1 ++ .rf q lq kq x bq :: c2) h := by
  induction c1 generalizing h with
  | nil =>
    obtain ⟨h1, h2, h3⟩ := hc
    simp only [List.nil_append, Ctx.ids, Fr.ids, List.nodup_cons, List.mem_append, List.mem_cons, List.cons_append, List.nodup_append, not_or] at hn
    exact ⟨Nd.setV (L := avlL) h1 x, h2.far hn.2.1.1 _, h3.far hn.2.1.2 (fun e => hn.1.1 e.symm) _⟩
  | cons f c1 ih =>
    have hn' := hn
    cases f with
    | lf i k v cc r =>
      obtain ⟨h1, h2, h3⟩ := hc
      have hq : q ∈ Ctx.ids (c1 ++ .rf q lq kq vq bq :: c2) := by
        clear ih h3 hn hn' h1
        induction c1 with
        | nil => simp [Ctx.ids, Fr.ids]
        | cons g c1 ih => simp [Ctx.ids, ih]
      simp only [List.cons_append, Ctx.ids, Fr.ids, List.nodup_cons, List.mem_append, List.mem_cons, List.nodup_append, not_or] at hn
      have hp : Ctx.par (c1 ++ .rf q lq kq x bq :: c2) = Ctx.par (c1 ++ .rf q lq kq vq bq :: c2) := by cases c1 <;> rfl
      refine ⟨?_, h2.far (fun hm => hn.2.2.2.2 _ hm _ hq rfl) _, ih h3 (List.nodup_cons.2 ⟨hn.1.2.2, hn.2.2.2.1⟩)⟩
      show Nd avlL _ i k v cc (Ctx.par (c1 ++ .rf q lq kq x bq :: c2)) _ _
      rw [hp]
      exact h1.far (fun e => hn.2.1.2 (by rw [e]; exact hq)) _
    | rf i l k v cc =>
      obtain ⟨h1, h2, h3⟩ := hc
      have hq : q ∈ Ctx.ids (c1 ++ .rf q lq kq vq bq :: c2) := by
        clear ih h3 hn hn' h1
        induction c1 with
        | nil => simp [Ctx.ids, Fr.ids]
        | cons g c1 ih => simp [Ctx.ids, ih]
      simp only [List.cons_append, Ctx.ids, Fr.ids, List.nodup_cons, List.mem_append, List.mem_cons, List.nodup_append, not_or] at hn
      have hp : Ctx.par (c1 ++ .rf q lq kq x bq :: c2) = Ctx.par (c1 ++ .rf q lq kq vq bq :: c2) := by cases c1 <;> rfl
      refine ⟨?_, h2.far (fun hm => hn.2.2.2.2 _ hm _ hq rfl) _, ih h3 (List.nodup_cons.2 ⟨hn.1.2.2, hn.2.2.2.1⟩)⟩
      show Nd avlL _ i k v cc (Ctx.par (c1 ++ .rf q lq kq x bq :: c2)) _ _
      rw [hp]
      exact h1.far (fun e => hn.2.1.2 (by rw [e]; exact hq)) _
theorem ids_frame (c1 c2 : Ctx) (q : Nat) (lq : BT) (kq vq bq x y : Int) : Ctx.ids (c1 ++ .rf q lq kq vq bq :: c2) = Ctx.ids (c1 ++ .rf q lq x y bq :: c2) := by
  induction c1 with
  | nil => rfl
  | cons f c1 ih => simp only [List.cons_append, Ctx.ids, ih]
theorem slot_frame (H : Hd) (c1 c2 : Ctx) (q : Nat) (lq : BT) (kq vq bq x y : Int) : slot H (c1 ++ .rf q lq kq vq bq :: c2) = slot H (c1 ++ .rf q lq x y bq :: c2) := by
  cases c1 with
  | nil => rfl
  | cons f c1 => cases f <;> rfl
theorem par_frame (c1 c2 : Ctx) (q : Nat) (lq : BT) (kq vq bq x y : Int) : Ctx.par (c1 ++ .rf q lq kq vq bq :: c2) = Ctx.par (c1 ++ .rf q lq x y bq :: c2) := by
  cases c1 <;> rfl
theorem mem_frame (c1 c2 : Ctx) (q : Nat) (lq : BT) (kq vq bq : Int) : q ∈ Ctx.ids (c1 ++ .rf q lq kq vq bq :: c2) := by
  induction c1 with
  | nil => simp [Ctx.ids, Fr.ids]
  | cons f c1 ih => simp [Ctx.ids, ih]
theorem frame_cell {w : World} {H : Hd} {c1 c2 : Ctx} {q : Nat} {lq : BT} {kq vq bq : Int} {h : Option Nat} (hc : IsC avlL w H (c1 ++ .rf q lq kq vq bq :: c2) h) :
    w.cell? ⟨q, 0, none⟩ = some (.iface 3 (.int .i64 kq)) ∧ w.cell? ⟨q, 1, none⟩ = some (.iface 3 (.int .i64 vq)) ∧ ∀ j, w.frozen? ⟨q, j, none⟩ = false := by
  induction c1 generalizing h with
  | nil => exact ⟨hc.1.cells_.1, hc.1.cells_.2.1, hc.1.frozen⟩
  | cons f c1 ih => cases f <;> exact ih hc.2.2
theorem St.frame {w : World} {H : Hd} {c1 c2 : Ctx} {q : Nat} {lq : BT} {kq vq bq : Int} {t : BT} (s : St avlL w H (c1 ++ .rf q lq kq vq bq :: c2) t) (x y : Int) :
    St avlL ((w.setCell ⟨q, 0, none⟩ (.iface 3 (.int .i64 x))).setCell ⟨q, 1, none⟩ (.iface 3 (.int .i64 y))) H (c1 ++ .rf q lq x y bq :: c2) t ∧
      Only (allIds H (c1 ++ .rf q lq kq vq bq :: c2) t) w ((w.setCell ⟨q, 0, none⟩ (.iface 3 (.int .i64 x))).setCell ⟨q, 1, none⟩ (.iface 3 (.int .i64 y))) := by
  have hq := mem_frame c1 c2 q lq kq vq bq
  have hqt : q ∉ t.ids := s.djc.2 _ hq
  have h1 := IsC.frame_key s.hc s.ndc x
  have hn1 : (H.tb :: Ctx.ids (c1 ++ .rf q lq x vq bq :: c2)).Nodup := by rw [← ids_frame c1 c2 q lq kq vq bq x vq]; exact s.ndc
  have h2 := IsC.frame_val h1 hn1 y
  refine ⟨⟨h2, ?_, ?_⟩, ?_⟩
  · rw [← par_frame c1 c2 q lq kq vq bq x y]
    exact (s.ht.far hqt _).far hqt _
  · have := s.nd
    unfold allIds at this ⊢
    rwa [← ids_frame c1 c2 q lq kq vq bq x y]
  · exact ((Only.refl _ _).setCell (.inl (by simp [allIds, hq])) _).setCell (.inl (by simp [allIds, hq])) _
theorem St.lift {w : World} {H : Hd} {c : Ctx} {t : BT} {x : Nat} {xl xr : BT} {kx vx bx : Int} {i : Option Nat} (s : St avlL w H c t) (hx : IsT avlL w (.node x xl kx vx bx xr) i) (hsub : ∀ b ∈ BT.ids (.node x xl kx vx bx xr), b ∈ t.ids) (hnx : (BT.ids (.node x xl kx vx bx xr)).Nodup) :
    St avlL ((w.setCell ⟨x, 2, none⟩ (ptr c.par)).setCell (slot H c) (ptr (some x))) H c (.node x xl kx vx bx xr) ∧ Only (allIds H c t) w ((w.setCell ⟨x, 2, none⟩ (ptr c.par)).setCell (slot H c) (ptr (some x))) := by
  have hd := s.djc
  have hxt : x ∈ t.ids := hsub x (by simp [BT.ids])
  have hn' := hnx
  simp only [BT.ids, List.nodup_cons, List.mem_append, not_or] at hn'
  have h1 : IsT avlL (w.setCell ⟨x, 2, none⟩ (ptr c.par)) (.node x xl kx vx bx xr) c.par :=
    ⟨Nd.setP (L := avlL) hx.1 c.par, hx.2.1.far hn'.1.1 _, hx.2.2.far hn'.1.2 _⟩
  have h2 : IsC avlL (w.setCell ⟨x, 2, none⟩ (ptr c.par)) H c t.root := s.hc.far (fun hm => hd.2 _ hm hxt) (fun e => hd.1 (by rw [← e]; exact hxt)) _
  have hn : (allIds H c (.node x xl kx vx bx xr)).Nodup := by
    have hnd := s.nd
    unfold allIds at hnd ⊢
    rw [List.nodup_cons, List.nodup_append] at hnd ⊢
    rw [List.mem_append, not_or] at hnd ⊢
    exact ⟨⟨hnd.1.1, fun hm => hnd.1.2 (hsub _ hm)⟩, hnd.2.1, hnx, fun a ha b hb => hnd.2.2.2 a ha b (hsub b hb)⟩
  refine ⟨⟨h2.slot_set s.ndc _, h1.far (slot_not_mem hn) _, hn⟩, ?_⟩
  refine ((Only.refl _ _).setCell (.inl (by simp [allIds, hxt])) _).setCell (.inl ?_) _
  have := slot_block H c
  simp only [allIds, List.mem_cons, List.mem_append] at this ⊢
  rcases this with e | e
  · exact .inl e
  · exact .inr (.inl e)
theorem St.lift_nil {w : World} {H : Hd} {c : Ctx} {t : BT} (s : St avlL w H c t) :
    St avlL (w.setCell (slot H c) (ptr none)) H c .nil ∧ Only (allIds H c t) w (w.setCell (slot H c) (ptr none)) := by
  refine ⟨⟨s.hc.slot_set s.ndc _, trivial, ?_⟩, (Only.refl _ _).setCell (.inl ?_) _⟩
  · have hnd := s.ndc
    unfold allIds
    simpa [BT.ids] using hnd
  · have := slot_block H c
    simp only [allIds, List.mem_cons, List.mem_append] at this ⊢
    rcases this with e | e
    · exact .inl e
    · exact .inr (.inl e)
end Go.Proofs.YtbdcepkahdecjaaGreat

namespace Go.Proofs.YtbdcepkahdecjaaGreat
open Go.RowKit
theorem can0L_of {i : Nat} {k v b : Int} {l r : BT} {h0 : Nat} (hl : Avl.ok l) (hb : b = (h0 : Int) - Avl.ht l) (hb1 : -1 ≤ b) (hb2 : b ≤ 1) (hh : 1 ≤ h0) : can0L (.node i l k v b r) := by
  unfold can0L
  by_cases e1 : b = 0
  · exact .inl e1
  · by_cases e2 : b = 1
    · exact .inr (.inl e2)
    · refine .inr (.inr ⟨by omega, ?_⟩)
      obtain ⟨j, ll, kk, vv, bb, rr, rfl⟩ := Avl.ht_pos (t := l) (by omega)
      refine ⟨j, rr, kk, vv, bb, ll, rfl, ?_⟩
      by_cases e3 : bb = 0
      · exact .inl e3
      · by_cases e4 : bb = -1
        · exact .inr (.inl e4)
        · simp only [Avl.ok, Avl.ht] at hl hb
          obtain ⟨j2, ll2, kk2, vv2, bb2, rr2, rfl⟩ := Avl.ht_pos (t := rr) (by omega)
          exact .inr (.inr ⟨e3, e4, j2, rr2, kk2, vv2, bb2, ll2, rfl⟩)
theorem can0R_of {i : Nat} {k v b : Int} {l r : BT} {h0 : Nat} (hr : Avl.ok r) (hb : b = (Avl.ht r : Int) - h0) (hb1 : -1 ≤ b) (hb2 : b ≤ 1) (hh : 1 ≤ h0) : can0R (.node i l k v b r) := by
  unfold can0R
  by_cases e1 : b = 0
  · exact .inl e1
  · by_cases e2 : b = -1
    · exact .inr (.inl e2)
    · refine .inr (.inr ⟨by omega, ?_⟩)
      obtain ⟨j, ll, kk, vv, bb, rr, rfl⟩ := Avl.ht_pos (t := r) (by omega)
      refine ⟨j, ll, kk, vv, bb, rr, rfl, ?_⟩
      by_cases e3 : bb = 0
      · exact .inl e3
      · by_cases e4 : bb = 1
        · exact .inr (.inl e4)
        · simp only [Avl.ok, Avl.ht] at hr hb
          obtain ⟨j2, ll2, kk2, vv2, bb2, rr2, rfl⟩ := Avl.ht_pos (t := ll) (by omega)
          exact .inr (.inr ⟨e3, e4, j2, ll2, kk2, vv2, bb2, rr2, rfl⟩)
def MinPost (H : Hd) (c1 : Ctx) (q : Nat) (lq : BT) (kq vq bq : Int) (c2 : Ctx) (t : BT) (w : World) (e : Ending) (w' : World) : Prop :=
  e = .returned (.bool (Avl.cutMin t).2) ∧ St avlL w' H (c1 ++ .rf q lq (Avl.minKV t).1 (Avl.minKV t).2 bq :: c2) (Avl.cutMin t).1 ∧ Only (allIds H (c1 ++ .rf q lq kq vq bq :: c2) t) w w'
theorem cutMin_walk (H : Hd) (q : Nat) (lq : BT) (kq vq bq : Int) (c2 : Ctx) (t : BT) : ∀ (c1 : Ctx) (w : World), St avlL w H (c1 ++ .rf q lq kq vq bq :: c2) t → t ≠ .nil → Avl.ok t →
    Calls Tryz.prog 85 #[.pointer (some (slot H (c1 ++ .rf q lq kq vq bq :: c2))), .pointer (some ⟨q, 0, none⟩), .pointer (some ⟨q, 1, none⟩)] w (MinPost H c1 q lq kq vq bq c2 t w) := by
  induction t with
  | nil => intro c1 w _ h; exact absurd rfl h
  | node i l k v b r ihl _ =>
    intro c1 w sT _ hok
    have hqc := mem_frame c1 c2 q lq kq vq bq
    have hqi' : q ∉ BT.ids (.node i l k v b r) := sT.djc.2 q hqc
    have hqi : ¬ q = i := by intro e; exact hqi' (by simp [BT.ids, e])
    have hiq : ¬ i = q := fun e => hqi e.symm
    obtain ⟨hsl, hslf⟩ := sT.hc.slot_cell
    obtain ⟨hq0, hq1, hqf⟩ := frame_cell sT.hc
    obtain ⟨hk0, hv0, hl3, hr4⟩ := sT.ht.1.cells_
    have hp2 := sT.ht.1.cellP
    simp only [BT.root, ptr, Option.map_some, Lay.op, if_true] at hsl hp2 hl3 hr4
    by_cases hl : l = .nil
    · subst hl
      have e1 : Avl.cutMin (.node i .nil k v b r) = (r, true) := rfl
      have e2 : Avl.minKV (.node i .nil k v b r) = (k, v) := rfl
      obtain ⟨s2, o2⟩ := sT.frame k v
      obtain ⟨hsl2, hslf2⟩ := s2.hc.slot_cell
      rw [← slot_frame H c1 c2 q lq kq vq bq k v] at hsl2 hslf2
      simp only [BT.root, ptr, Option.map_some] at hsl2
      cases r with
      | nil =>
        obtain ⟨s3, o3⟩ := s2.lift_nil
        have fin : MinPost H c1 q lq kq vq bq c2 (.node i .nil k v b .nil) w (.returned (.bool true)) _ := ⟨by rw [e1], by rw [e1, e2]; exact s3, o2.trans' o3 (fun x _ hx => by
          unfold allIds at hx ⊢; rwa [← ids_frame c1 c2 q lq kq vq bq k v] at hx)⟩
        rw [← slot_frame H c1 c2 q lq kq vq bq k v] at fin
        simp only [ptr, Option.map_none] at fin
        have Fin := Lib.hid fin
        clear fin s3 o3 s2 o2 sT e1 e2 ihl hok hqc hqi'
        generalize slot H (c1 ++ .rf q lq kq vq bq :: c2) = sa at *
        go_enter Tryz.func85, Tryz.ntmps85
        go_wp2_with fail
        go_ret
        exact Fin.out
      | node x xl kx vx bx xr =>
        have hxt := s2.ht.2.2
        have hnt := s2.ndt
        have hsub : ∀ b' ∈ BT.ids (.node x xl kx vx bx xr), b' ∈ BT.ids (.node i .nil k v b (.node x xl kx vx bx xr)) := fun b' hb' => by
          simp only [BT.ids, List.mem_cons, List.mem_append, List.not_mem_nil, false_or] at hb' ⊢; exact .inr hb'
        have hnx : (BT.ids (.node x xl kx vx bx xr)).Nodup := by
          simp only [BT.ids, List.nodup_cons, List.nil_append] at hnt ⊢; exact hnt.2
        obtain ⟨s3, o3⟩ := s2.lift hxt hsub hnx
        have fin : MinPost H c1 q lq kq vq bq c2 (.node i .nil k v b (.node x xl kx vx bx xr)) w (.returned (.bool true)) _ := ⟨by rw [e1], by rw [e1, e2]; exact s3, o2.trans' o3 (fun x _ hx => by
          unfold allIds at hx ⊢; rwa [← ids_frame c1 c2 q lq kq vq bq k v] at hx)⟩
        rw [← slot_frame H c1 c2 q lq kq vq bq k v, ← par_frame c1 c2 q lq kq vq bq k v] at fin
        have hxi : ¬ x = i := by
          simp only [BT.ids, List.nodup_cons, List.nil_append, List.mem_cons, not_or] at hnt; exact fun e => hnt.1.1 e.symm
        have hqx : ¬ q = x := by intro e; exact hqi' (by simp [BT.ids, e])
        have hix : ¬ i = x := fun e => hxi e.symm
        have hxq : ¬ x = q := fun e => hqx e.symm
        have hx2 := sT.ht.2.2.1.cellP
        have hxf := sT.ht.2.2.1.frozen 2
        have hsl3 : (((w.setCell ⟨q, 0, none⟩ (.iface 3 (.int .i64 k))).setCell ⟨q, 1, none⟩ (.iface 3 (.int .i64 v))).setCell ⟨x, 2, none⟩ (ptr (Ctx.par (c1 ++ .rf q lq kq vq bq :: c2)))).cell? (slot H (c1 ++ .rf q lq kq vq bq :: c2)) = some (.pointer (some ⟨i, 0, none⟩)) := by
          rw [World.cell?_setCell_other _ _ _ _ (fun e => slot_not_mem sT.nd (by rw [← e]; simp [BT.ids]))]
          exact hsl2
        simp only [ptr, Option.map_some, Lay.op, if_true] at fin hx2 hsl3 hp2
        simp only [Option.map_some] at hr4
        have Fin := Lib.hid fin
        clear fin s3 o3 s2 o2 sT e1 e2 ihl hok hqc hqi' hxt hnt hsub hnx
        generalize slot H (c1 ++ .rf q lq kq vq bq :: c2) = sa at *
        generalize Ctx.par (c1 ++ .rf q lq kq vq bq :: c2) = cp at *
        go_enter Tryz.func85, Tryz.ntmps85
        go_wp2_with fail
        go_region
        go_wp2_with fail
        go_ret
        exact ⟨rfl, Fin.out.2.1.drew, Fin.out.2.2.drew⟩
    · obtain ⟨i2, l2, k2, v2, b2, r2, hl2⟩ : ∃ i2 l2 k2 v2 b2 r2, l = .node i2 l2 k2 v2 b2 r2 := by
        cases l with
        | nil => exact absurd rfl hl
        | node i2 l2 k2 v2 b2 r2 => exact ⟨i2, l2, k2, v2, b2, r2, rfl⟩
      have hroot : l.root = some i2 := by rw [hl2]; rfl
      have hl3' : w.cell? ⟨i, 3, none⟩ = some (.pointer (some ⟨i2, 0, none⟩)) := by
        have := (sT.ht.1.cells_).2.2.1
        rw [hroot] at this; exact this
      clear hl3
      have ih := fun (w1 : World) st => ihl (.lf i k v b r :: c1) w1 st hl hok.1
      simp only [List.cons_append, slot] at ih
      have gw := fun (w2 : World) (st : St avlL w2 H (c1 ++ .rf q lq (Avl.minKV l).1 (Avl.minKV l).2 bq :: c2) (.node i (Avl.cutMin l).1 k v b r)) =>
        shrinkL_walk st (can0R_of (h0 := Avl.ht l) hok.2.1 hok.2.2.1 hok.2.2.2.1 hok.2.2.2.2 (by rw [hl2]; simp [Avl.ht]))
      simp only [← slot_frame H c1 c2 q lq kq vq bq (Avl.minKV l).1 (Avl.minKV l).2] at gw
      have e2 : Avl.minKV (.node i l k v b r) = Avl.minKV l := Avl.minKV_step hl
      have hmem : ∀ x, x ∈ allIds H (.lf i k v b r :: (c1 ++ .rf q lq kq vq bq :: c2)) l → x ∈ allIds H (c1 ++ .rf q lq kq vq bq :: c2) (.node i l k v b r) := fun x hx => by
        simp only [allIds, Ctx.ids, Fr.ids, BT.ids, List.mem_cons, List.mem_append] at hx ⊢; grind
      have fin0 := fun (w2 w3 : World) (hf : (Avl.cutMin l).2 = false) (o2 : Only (allIds H (.lf i k v b r :: (c1 ++ .rf q lq kq vq bq :: c2)) l) w w2)
          (st2 : St avlL w2 H (.lf i k v b r :: (c1 ++ .rf q lq (Avl.minKV l).1 (Avl.minKV l).2 bq :: c2)) (Avl.cutMin l).1) (hw : w3 = w2) =>
        show MinPost H c1 q lq kq vq bq c2 (.node i l k v b r) w (.returned (.bool false)) w3 from by
          subst hw
          have e1 : Avl.cutMin (.node i l k v b r) = (.node i (Avl.cutMin l).1 k v b r, false) := by rw [Avl.cutMin_step hl, if_neg (by simp [hf])]
          exact ⟨by rw [e1], by rw [e1, e2]; exact st2.upL, o2.mono (fun x _ hx => hmem x hx)⟩
      have fin1 := fun (w2 w3 : World) (hf : (Avl.cutMin l).2 = true) (o2 : Only (allIds H (.lf i k v b r :: (c1 ++ .rf q lq kq vq bq :: c2)) l) w w2)
          (st3 : St avlL w3 H (c1 ++ .rf q lq (Avl.minKV l).1 (Avl.minKV l).2 bq :: c2) (Avl.shrinkL (.node i (Avl.cutMin l).1 k v b r)).1)
          (o3 : Only (allIds H (c1 ++ .rf q lq (Avl.minKV l).1 (Avl.minKV l).2 bq :: c2) (.node i (Avl.cutMin l).1 k v b r)) w2 w3) =>
        show MinPost H c1 q lq kq vq bq c2 (.node i l k v b r) w (.returned (.bool (Avl.shrinkL (.node i (Avl.cutMin l).1 k v b r)).2)) w3 from by
          have e1 : Avl.cutMin (.node i l k v b r) = Avl.shrinkL (.node i (Avl.cutMin l).1 k v b r) := by rw [Avl.cutMin_step hl, if_pos hf]
          refine ⟨by rw [e1], by rw [e1, e2]; exact st3, (o2.mono (fun x _ hx => hmem x hx)).trans' o3 (fun x _ hx => ?_)⟩
          unfold allIds at hx ⊢
          rw [← ids_frame c1 c2 q lq kq vq bq] at hx
          simp only [BT.ids, List.mem_cons, List.mem_append] at hx ⊢
          have := fun h => Avl.mem_ids_cutMin (t := l) (b := x) h
          grind
      have Ih := Lib.hid (ih w sT.downL)
      have Gw := Lib.hid gw
      have F0 := Lib.hid fin0
      have F1 := Lib.hid fin1
      clear ih gw fin0 fin1 sT ihl hok hqc hqi' hmem e2 hl2 hroot hl hqi hiq
      generalize slot H (c1 ++ .rf q lq kq vq bq :: c2) = sa at *
      go_enter Tryz.func85, Tryz.ntmps85
      go_wp2_with fail
      refine Ih.out.mono ?_
      rintro e w2 ⟨rfl, st2, o2⟩
      cases hf : (Avl.cutMin l).2 with
      | true =>
        have G := Lib.hid (Gw.out _ st2.upL)
        have O2 := Lib.hid o2
        have Hf := Lib.hid hf
        clear st2 o2 hf
        go_wp2_with fail
        refine G.out.mono ?_
        rintro e w3 ⟨rfl, st3, o3⟩
        have St3 := Lib.hid st3
        have O3 := Lib.hid o3
        clear st3 o3
        go_wp2_with fail
        go_ret
        exact F1.out _ _ Hf.out O2.out St3.out O3.out
      | false =>
        have St2 := Lib.hid st2
        have O2 := Lib.hid o2
        have Hf := Lib.hid hf
        clear st2 o2 hf
        go_wp2_with fail
        go_ret
        exact F0.out _ _ Hf.out O2.out St2.out rfl
end Go.Proofs.YtbdcepkahdecjaaGreat

namespace Go.Proofs.YtbdcepkahdecjaaGreat
open Go.RowKit
def RemPost (o : Ord) (k : Int) (H : Hd) (c : Ctx) (t : BT) (w : World) (e : Ending) (w' : World) : Prop :=
  e = .returned (.bool (Avl.remove o k t).2) ∧ St avlL w' { H with size := H.size - if Avl.has o k t then 1 else 0 } c (Avl.remove o k t).1 ∧ Only (allIds H c t) w w'
set_option maxHeartbeats 2000000 in
theorem remove_walk (o : Ord) (ho : o.fine) (ob : Nat) (k : Int) (t : BT) : ∀ (c : Ctx) (w : World) (H : Hd), St avlL w H c t → Avl.ok t → H.cmp = cmpv ob → OrdAt w ob o → ob ∉ allIds H c t → 0 ≤ H.size → H.size ≤ 1000000 →
    Calls Tryz.prog 83 #[.pointer (some ⟨H.tb, 0, none⟩), .iface 3 (.int .i64 k), .pointer (some (slot H c))] w (RemPost o k H c t w) := by
  induction t with
  | nil =>
    intro c w H sT _ hcmp hob hobn hs0 hs1
    obtain ⟨hsl, hslf⟩ := sT.hc.slot_cell
    simp only [BT.root, ptr, Option.map_none] at hsl
    have fin : RemPost o k H c .nil w (.returned (.bool false)) w := ⟨rfl, by simpa [Avl.has, Avl.remove] using sT, Only.refl _ _⟩
    have Fin := Lib.hid fin
    clear fin sT hcmp hob hobn
    generalize slot H c = sa at *
    go_enter Tryz.func83, Tryz.ntmps83
    go_wp2_with fail
    go_ret
    exact Fin.out
  | node i l k' v' b r ihl ihr =>
    intro c w H sT hok hcmp hob hobn hs0 hs1
    obtain ⟨hsl, hslf⟩ := sT.hc.slot_cell
    obtain ⟨_, hh1, _⟩ := sT.hc.header
    obtain ⟨hk0, hv0, _, _⟩ := sT.ht.1.cells_
    simp only [BT.root, ptr, Option.map_some, Lay.om, if_true, hcmp] at hsl hh1 hk0 hv0
    rcases Int.lt_trichotomy (o.rk k) (o.rk k') with hlt | he | hgt
    · have ih := fun (w1 : World) (st : St avlL w1 H (.lf i k' v' b r :: c) l) (h1 : OrdAt w1 ob o) => ihl (.lf i k' v' b r :: c) w1 H st hok.1 hcmp h1 (by simp only [allIds, Ctx.ids, Fr.ids, BT.ids, List.mem_cons, List.mem_append, not_or] at hobn ⊢; grind) hs0 hs1
      simp only [slot] at ih
      have gw := fun (w2 : World) (x : Int) (st : St avlL w2 { H with size := x } c (.node i (Avl.remove o k l).1 k' v' b r)) (hf : (Avl.remove o k l).2 = true) =>
        shrinkL_walk st (can0R_of (h0 := Avl.ht l) hok.2.1 hok.2.2.1 hok.2.2.2.1 hok.2.2.2.2 (by have := (Avl.remove_ok (o := o) (k := k) hok.1).2; rw [hf] at this; simp only [if_true] at this; omega))
      simp only [slot_size] at gw
      have fin0 := fun (w3 : World) (q : Nat) (w2 : World) (hf : (Avl.remove o k l).2 = false) (o2 : Only (allIds H (.lf i k' v' b r :: c) l) (w.drewN q) w2) (st2 : St avlL w2 { H with size := H.size - if Avl.has o k l then 1 else 0 } (.lf i k' v' b r :: c) (Avl.remove o k l).1) (hw : w3 = w2) =>
        show RemPost o k H c (.node i l k' v' b r) w (.returned (.bool false)) w3 from by
          subst hw
          have e1 : Avl.remove o k (.node i l k' v' b r) = ((.node i (Avl.remove o k l).1 k' v' b r), false) := by rw [Avl.remove_left hlt, if_neg (by simp [hf])]
          refine ⟨by rw [e1], by rw [e1, Avl.has_left hlt]; exact st2.upL, ?_⟩
          exact ((Only.refl _ w).drewN q).trans' o2 (fun x _ hx => by simp only [allIds, Ctx.ids, Fr.ids, BT.ids, List.mem_cons, List.mem_append] at hx ⊢; grind)
      have fin1 := fun (w3 : World) (q : Nat) (w2 : World) (hf : (Avl.remove o k l).2 = true) (o2 : Only (allIds H (.lf i k' v' b r :: c) l) (w.drewN q) w2)
          (st3 : St avlL w3 { H with size := H.size - if Avl.has o k l then 1 else 0 } c (Avl.shrinkL (.node i (Avl.remove o k l).1 k' v' b r)).1) (o3 : Only (allIds { H with size := H.size - if Avl.has o k l then 1 else 0 } c (.node i (Avl.remove o k l).1 k' v' b r)) w2 w3) =>
        show RemPost o k H c (.node i l k' v' b r) w (.returned (.bool (Avl.shrinkL (.node i (Avl.remove o k l).1 k' v' b r)).2)) w3 from by
          have e1 : Avl.remove o k (.node i l k' v' b r) = Avl.shrinkL (.node i (Avl.remove o k l).1 k' v' b r) := by rw [Avl.remove_left hlt, if_pos hf]
          refine ⟨by rw [e1], by rw [e1, Avl.has_left hlt]; exact st3, ?_⟩
          refine (((Only.refl _ w).drewN q).trans' o2 (fun x _ hx => by simp only [allIds, Ctx.ids, Fr.ids, BT.ids, List.mem_cons, List.mem_append] at hx ⊢; grind)).trans' o3 (fun x hx hm => ?_)
          simp only [allIds, BT.ids, List.mem_cons, List.mem_append] at hm ⊢
          have := fun h => Avl.mem_ids_remove (o := o) (k := k) (t := l) (b := x) h
          grind
      have by1 := fun (w1 : World) (h1 : OrdAt w1 ob o) => by1_lt o ob k k' w1 ho h1 hlt
      have By := Lib.hid by1
      have Ih := Lib.hid ih
      have Gw := Lib.hid gw
      have F0 := Lib.hid fin0
      have F1 := Lib.hid fin1
      have ST := Lib.hid sT
      have Ob := Lib.hid hob
      clear by1 ih gw fin0 fin1 sT hob ihl ihr hok hobn hlt hcmp
      generalize slot H c = sa at *
      go_enter Tryz.func83, Tryz.ntmps83
      go_wp2_with fail
      go_quiet ((go_at_call 21; exact Calls.quiet_of (By.out _ Ob.out)))
      go_wp2_with fail
      refine (Ih.out _ (ST.out.drewN nq).downL (Ob.out.drewN nq)).mono ?_
      rintro e w2 ⟨rfl, st2, o2⟩
      cases hf : (Avl.remove o k l).2 with
      | true =>
        have G := Lib.hid (Gw.out _ _ st2.upL hf)
        have O2 := Lib.hid o2
        have Hf := Lib.hid hf
        clear st2 o2 hf
        go_wp2_with fail
        refine G.out.mono ?_
        rintro e w3 ⟨rfl, st3, o3⟩
        have St3 := Lib.hid st3
        have O3 := Lib.hid o3
        clear st3 o3
        go_wp2_with fail
        go_ret
        exact F1.out _ _ _ Hf.out O2.out St3.out O3.out
      | false =>
        have St2 := Lib.hid st2
        have O2 := Lib.hid o2
        have Hf := Lib.hid hf
        clear st2 o2 hf
        go_wp2_with fail
        go_ret
        exact F0.out _ _ _ Hf.out O2.out St2.out rfl
    · have by1 := fun (w1 : World) (h1 : OrdAt w1 ob o) => by1_eq o ob k k' w1 ho h1 he
      have hhas : Avl.has o k (.node i l k' v' b r) = true := Avl.has_here he
      by_cases hr : r = .nil
      · subst hr
        have e1 : Avl.remove o k (.node i l k' v' b .nil) = (l, true) := Avl.remove_last he
        cases l with
        | nil =>
          have all := fun (w1 : World) (st : St avlL w1 H c (.node i .nil k' v' b .nil)) =>
            let s1 := (st.size_set (H.size - 1))
            let s2 := s1.1.lift_nil
            And.intro (And.intro s2.1 (s1.2.trans' s2.2 (fun x _ hx => hx))) (And.intro s1.1.hc.slot_cell (And.intro st.hc.header (And.intro (st.ht.1.cells_) st.djc.1)))
          simp only [slot_size, BT.root, ptr, Option.map_some, Option.map_none, Lay.os, Lay.om, if_true, BT.ids, List.mem_cons, List.append_nil, List.not_mem_nil, or_false] at all
          have fin := fun (q : Nat) (w3 : World) (h : St avlL w3 { H with size := H.size - 1 } c .nil ∧ Only (allIds H c (.node i .nil k' v' b .nil)) (w.drewN q) w3) =>
            show RemPost o k H c (.node i .nil k' v' b .nil) w (.returned (.bool true)) w3 from
              ⟨by rw [e1], by rw [e1, hhas]; exact h.1, ((Only.refl _ w).drewN q).trans h.2⟩
          have By := Lib.hid by1
          have All := Lib.hid all
          have Fin := Lib.hid fin
          have ST := Lib.hid sT
          have Ob := Lib.hid hob
          clear by1 all fin sT hob ihl ihr hok hobn he hcmp e1 hhas
          generalize slot H c = sa at *
          go_enter Tryz.func83, Tryz.ntmps83
          go_wp2_with fail
          go_quiet ((go_at_call 21; exact Calls.quiet_of (By.out _ Ob.out)))
          clear hsl hslf hh1 hk0 hv0
          obtain ⟨f1, ⟨f2, f3⟩, ⟨f4, f5, f6⟩, ⟨f7, f8, f9, f10⟩, f11⟩ := All.out _ (ST.out.drewN nq)
          have F1 := Lib.hid (Fin.out nq _ f1)
          generalize w.drewN nq = w1 at *
          clear f1
          go_wp2_with fail
          go_ret
          exact F1.out
        | node x xl kx vx bx xr =>
          have hnt := sT.ndt
          have hsub : ∀ b' ∈ BT.ids (.node x xl kx vx bx xr), b' ∈ BT.ids (.node i (.node x xl kx vx bx xr) k' v' b .nil) := fun b' hb' => by
            simp only [BT.ids, List.mem_cons, List.mem_append, List.not_mem_nil, or_false] at hb' ⊢; exact .inr hb'
          have hnx : (BT.ids (.node x xl kx vx bx xr)).Nodup := by
            simp only [BT.ids, List.nodup_cons, List.append_nil] at hnt ⊢; exact hnt.2
          have hxi : ¬ i = x := by
            simp only [BT.ids, List.nodup_cons, List.append_nil, List.mem_cons, not_or] at hnt; exact fun e => hnt.1.1 e
          have hix : ¬ x = i := fun e => hxi e.symm
          have htb := sT.djc.1
          simp only [BT.ids, List.mem_cons, List.append_nil, not_or] at htb
          have hti : ¬ H.tb = i := htb.1
          have htx : ¬ H.tb = x := htb.2.1
          have hit : ¬ i = H.tb := fun e => hti e.symm
          have hxt : ¬ x = H.tb := fun e => htx e.symm
          have all := fun (w1 : World) (st : St avlL w1 H c (.node i (.node x xl kx vx bx xr) k' v' b .nil)) =>
            let s1 := (st.size_set (H.size - 1))
            let s2 := s1.1.lift (s1.1.ht.2.1) hsub hnx
            And.intro (And.intro s2.1 (s1.2.trans' s2.2 (fun x _ hx => hx))) (And.intro (And.intro ((World.cell?_setCell_other (w1.setCell ⟨H.tb, avlL.os, none⟩ (.int .i64 (H.size - 1))) ⟨x, 2, none⟩ (slot { H with size := H.size - 1 } c) (ptr c.par) (fun e => slot_not_mem s1.1.nd (by rw [← e]; simp [BT.ids]))).trans s1.1.hc.slot_cell.1) s1.1.hc.slot_cell.2)
              (And.intro st.hc.header (And.intro (And.intro st.ht.1.cells_ (And.intro st.ht.1.cellP (st.ht.1.frozen 2))) (And.intro (And.intro st.ht.2.1.1.cellP (st.ht.2.1.1.frozen 2)) st.hc.slot_cell))))
          simp only [slot_size, BT.root, ptr, Option.map_some, Option.map_none, Lay.os, Lay.om, Lay.op, if_true] at all
          have fin := fun (q : Nat) (w3 : World) (h : St avlL w3 { H with size := H.size - 1 } c (.node x xl kx vx bx xr) ∧ Only (allIds H c (.node i (.node x xl kx vx bx xr) k' v' b .nil)) (w.drewN q) w3) =>
            show RemPost o k H c (.node i (.node x xl kx vx bx xr) k' v' b .nil) w (.returned (.bool true)) w3.drew from
              ⟨by rw [e1], by rw [e1, hhas]; exact h.1.drew, (((Only.refl _ w).drewN q).trans h.2).drew⟩
          have By := Lib.hid by1
          have All := Lib.hid all
          have Fin := Lib.hid fin
          have ST := Lib.hid sT
          have Ob := Lib.hid hob
          clear by1 all fin sT hob ihl ihr hok hobn he hcmp e1 hhas hnt hsub hnx htb
          generalize slot H c = sa at *
          generalize Ctx.par c = cp at *
          go_enter Tryz.func83, Tryz.ntmps83
          go_wp2_with fail
          go_quiet ((go_at_call 21; exact Calls.quiet_of (By.out _ Ob.out)))
          clear hsl hslf hh1 hk0 hv0
          obtain ⟨f1, ⟨f2, f3⟩, ⟨f4, f5, f6⟩, ⟨⟨f7, f8, f9, f10⟩, f11, f12⟩, ⟨f13, f14⟩, f15, f16⟩ := All.out _ (ST.out.drewN nq)
          have F1 := Lib.hid (Fin.out nq _ f1)
          generalize w.drewN nq = w1 at *
          clear f1
          go_wp2_with fail
          go_region
          go_wp2_with fail
          go_ret
          exact F1.out
      · have e1 := Avl.remove_found (o := o) (k := k) (i := i) (l := l) (k' := k') (v' := v') (b := b) he hr
        obtain ⟨i2, l2, k2, v2, b2, r2, hr2⟩ : ∃ i2 l2 k2 v2 b2 r2, r = .node i2 l2 k2 v2 b2 r2 := by
          cases r with
          | nil => exact absurd rfl hr
          | node i2 l2 k2 v2 b2 r2 => exact ⟨i2, l2, k2, v2, b2, r2, rfl⟩
        have hroot : r.root = some i2 := by rw [hr2]; rfl
        have htb := sT.djc.1
        simp only [BT.ids, List.mem_cons, not_or] at htb
        have hti : ¬ H.tb = i := htb.1
        have hit : ¬ i = H.tb := fun e => hti e.symm
        have hok2 := hok.2.1
        have hcan : ∀ (k1 v1 : Int), can0L (.node i l k1 v1 b (Avl.cutMin r).1) := fun k1 v1 => can0L_of (h0 := Avl.ht r) hok.1 hok.2.2.1 hok.2.2.2.1 hok.2.2.2.2 (by rw [hr2]; simp [Avl.ht])
        have all := fun (w1 : World) (st : St avlL w1 H c (.node i l k' v' b r)) =>
          let s1 := (st.size_set (H.size - 1))
          And.intro (And.intro (cutMin_walk { H with size := H.size - 1 } i l k' v' b c r [] _ s1.1.drew.downR hr hok2) s1.2.drew)
            (And.intro st.hc.header (And.intro st.ht.1.cells_ st.hc.slot_cell))
        simp only [List.nil_append, slot, BT.root, ptr, Option.map_some, Lay.os, Lay.om, if_true] at all
        have gw := fun (w2 : World) (st : St avlL w2 { H with size := H.size - 1 } c (.node i l (Avl.minKV r).1 (Avl.minKV r).2 b (Avl.cutMin r).1)) => shrinkR_walk st (hcan _ _)
        simp only [slot_size] at gw
        have hm1 : ∀ x, x ∈ allIds { H with size := H.size - 1 } (.rf i l k' v' b :: c) r → x ∈ allIds H c (.node i l k' v' b r) := fun x hx => by
          simp only [allIds, Ctx.ids, Fr.ids, BT.ids, List.mem_cons, List.mem_append] at hx ⊢; grind
        have fin0 := fun (q : Nat) (w2 w3 w4 : World) (hf : (Avl.cutMin r).2 = false) (o1 : Only (allIds H c (.node i l k' v' b r)) (w.drewN q) w2) (o2 : Only (allIds { H with size := H.size - 1 } (.rf i l k' v' b :: c) r) w2 w3)
            (st2 : St avlL w3 { H with size := H.size - 1 } (.rf i l (Avl.minKV r).1 (Avl.minKV r).2 b :: c) (Avl.cutMin r).1) (hw : w4 = w3) =>
          show RemPost o k H c (.node i l k' v' b r) w (.returned (.bool false)) w4 from by
            subst hw
            rw [if_neg (by simp [hf])] at e1
            exact ⟨by rw [e1], by rw [e1, hhas]; exact st2.upR, (((Only.refl _ w).drewN q).trans o1).trans' o2 (fun x _ hx => hm1 x hx)⟩
        have fin1 := fun (q : Nat) (w2 w3 w4 : World) (hf : (Avl.cutMin r).2 = true) (o1 : Only (allIds H c (.node i l k' v' b r)) (w.drewN q) w2) (o2 : Only (allIds { H with size := H.size - 1 } (.rf i l k' v' b :: c) r) w2 w3)
            (st3 : St avlL w4 { H with size := H.size - 1 } c (Avl.shrinkR (.node i l (Avl.minKV r).1 (Avl.minKV r).2 b (Avl.cutMin r).1)).1)
            (o3 : Only (allIds { H with size := H.size - 1 } c (.node i l (Avl.minKV r).1 (Avl.minKV r).2 b (Avl.cutMin r).1)) w3 w4) =>
          show RemPost o k H c (.node i l k' v' b r) w (.returned (.bool (Avl.shrinkR (.node i l (Avl.minKV r).1 (Avl.minKV r).2 b (Avl.cutMin r).1)).2)) w4 from by
            rw [if_pos hf] at e1
            refine ⟨by rw [e1], by rw [e1, hhas]; exact st3, ((((Only.refl _ w).drewN q).trans o1).trans' o2 (fun x _ hx => hm1 x hx)).trans' o3 (fun x _ hx => ?_)⟩
            simp only [allIds, BT.ids, List.mem_cons, List.mem_append] at hx ⊢
            have := fun h => Avl.mem_ids_cutMin (t := r) (b := x) h
            grind
        have By := Lib.hid by1
        have All := Lib.hid all
        have Gw := Lib.hid gw
        have F0 := Lib.hid fin0
        have F1 := Lib.hid fin1
        have ST := Lib.hid sT
        have Ob := Lib.hid hob
        have Hroot := Lib.hid hroot
        clear by1 all gw fin0 fin1 sT hob ihl ihr hok hobn he hcmp e1 hhas htb hroot hcan hm1 hok2 hr hr2
        generalize slot H c = sa at *
        go_enter Tryz.func83, Tryz.ntmps83
        go_wp2_with fail
        go_quiet ((go_at_call 21; exact Calls.quiet_of (By.out _ Ob.out)))
        clear hsl hslf hh1 hk0 hv0
        obtain ⟨⟨f1, o1⟩, ⟨f4, f5, f6⟩, ⟨f7, f8, f9, f10⟩, f15, f16⟩ := All.out _ (ST.out.drewN nq)
        have f10' : (w.drewN nq).cell? ⟨i, 4, none⟩ = some (.pointer (some ⟨i2, 0, none⟩)) := by
          have := (St.ht (ST.out.drewN nq)).1.cells_.2.2.2
          rw [Hroot.out] at this; exact this
        have G1 := Lib.hid f1
        have O1 := Lib.hid o1
        clear f1 o1 f10
        have F0q := Lib.hid (F0.out nq)
        have F1q := Lib.hid (F1.out nq)
        clear F0 F1 ST Ob By All
        generalize w.drewN nq = w1 at *
        go_wp2_with fail
        go_region_with ((go_at_call 85; refine G1.out.mono ?_; rintro e w3 ⟨rfl, st2, o2⟩; have St2 := Lib.hid st2; have O2 := Lib.hid o2; clear st2 o2))
        have st2 := St2.out
        have o2 := O2.out
        clear St2 O2
        cases hf : (Avl.cutMin r).2 with
        | true =>
          have G := Lib.hid (Gw.out _ st2.upR)
          have O2 := Lib.hid o2
          have Hf := Lib.hid hf
          clear st2 o2 hf
          go_wp2_with fail
          refine G.out.mono ?_
          rintro e w4 ⟨rfl, st3, o3⟩
          have St3 := Lib.hid st3
          have O3 := Lib.hid o3
          clear st3 o3
          go_wp2_with fail
          go_ret
          exact F1q.out _ _ _ Hf.out O1.out O2.out St3.out O3.out
        | false =>
          have St2 := Lib.hid st2
          have O2 := Lib.hid o2
          have Hf := Lib.hid hf
          clear st2 o2 hf
          go_wp2_with fail
          go_ret
          exact F0q.out _ _ _ Hf.out O1.out O2.out St2.out rfl
    · have ih := fun (w1 : World) (st : St avlL w1 H (.rf i l k' v' b :: c) r) (h1 : OrdAt w1 ob o) => ihr (.rf i l k' v' b :: c) w1 H st hok.2.1 hcmp h1 (by simp only [allIds, Ctx.ids, Fr.ids, BT.ids, List.mem_cons, List.mem_append, not_or] at hobn ⊢; grind) hs0 hs1
      simp only [slot] at ih
      have gw := fun (w2 : World) (x : Int) (st : St avlL w2 { H with size := x } c (.node i l k' v' b (Avl.remove o k r).1)) (hf : (Avl.remove o k r).2 = true) =>
        shrinkR_walk st (can0L_of (h0 := Avl.ht r) hok.1 hok.2.2.1 hok.2.2.2.1 hok.2.2.2.2 (by have := (Avl.remove_ok (o := o) (k := k) hok.2.1).2; rw [hf] at this; simp only [if_true] at this; omega))
      simp only [slot_size] at gw
      have fin0 := fun (w3 : World) (q : Nat) (w2 : World) (hf : (Avl.remove o k r).2 = false) (o2 : Only (allIds H (.rf i l k' v' b :: c) r) (w.drewN q) w2) (st2 : St avlL w2 { H with size := H.size - if Avl.has o k r then 1 else 0 } (.rf i l k' v' b :: c) (Avl.remove o k r).1) (hw : w3 = w2) =>
        show RemPost o k H c (.node i l k' v' b r) w (.returned (.bool false)) w3 from by
          subst hw
          have e1 : Avl.remove o k (.node i l k' v' b r) = ((.node i l k' v' b (Avl.remove o k r).1), false) := by rw [Avl.remove_right hgt, if_neg (by simp [hf])]
          refine ⟨by rw [e1], by rw [e1, Avl.has_right hgt]; exact st2.upR, ?_⟩
          exact ((Only.refl _ w).drewN q).trans' o2 (fun x _ hx => by simp only [allIds, Ctx.ids, Fr.ids, BT.ids, List.mem_cons, List.mem_append] at hx ⊢; grind)
      have fin1 := fun (w3 : World) (q : Nat) (w2 : World) (hf : (Avl.remove o k r).2 = true) (o2 : Only (allIds H (.rf i l k' v' b :: c) r) (w.drewN q) w2)
          (st3 : St avlL w3 { H with size := H.size - if Avl.has o k r then 1 else 0 } c (Avl.shrinkR (.node i l k' v' b (Avl.remove o k r).1)).1) (o3 : Only (allIds { H with size := H.size - if Avl.has o k r then 1 else 0 } c (.node i l k' v' b (Avl.remove o k r).1)) w2 w3) =>
        show RemPost o k H c (.node i l k' v' b r) w (.returned (.bool (Avl.shrinkR (.node i l k' v' b (Avl.remove o k r).1)).2)) w3 from by
          have e1 : Avl.remove o k (.node i l k' v' b r) = Avl.shrinkR (.node i l k' v' b (Avl.remove o k r).1) := by rw [Avl.remove_right hgt, if_pos hf]
          refine ⟨by rw [e1], by rw [e1, Avl.has_right hgt]; exact st3, ?_⟩
          refine (((Only.refl _ w).drewN q).trans' o2 (fun x _ hx => by simp only [allIds, Ctx.ids, Fr.ids, BT.ids, List.mem_cons, List.mem_append] at hx ⊢; grind)).trans' o3 (fun x hx hm => ?_)
          simp only [allIds, BT.ids, List.mem_cons, List.mem_append] at hm ⊢
          have := fun h => Avl.mem_ids_remove (o := o) (k := k) (t := r) (b := x) h
          grind
      have by1 := fun (w1 : World) (h1 : OrdAt w1 ob o) => by1_gt o ob k k' w1 ho h1 hgt
      have By := Lib.hid by1
      have Ih := Lib.hid ih
      have Gw := Lib.hid gw
      have F0 := Lib.hid fin0
      have F1 := Lib.hid fin1
      have ST := Lib.hid sT
      have Ob := Lib.hid hob
      clear by1 ih gw fin0 fin1 sT hob ihl ihr hok hobn hgt hcmp
      generalize slot H c = sa at *
      go_enter Tryz.func83, Tryz.ntmps83
      go_wp2_with fail
      go_quiet ((go_at_call 21; exact Calls.quiet_of (By.out _ Ob.out)))
      go_wp2_with fail
      refine (Ih.out _ (ST.out.drewN nq).downR (Ob.out.drewN nq)).mono ?_
      rintro e w2 ⟨rfl, st2, o2⟩
      cases hf : (Avl.remove o k r).2 with
      | true =>
        have G := Lib.hid (Gw.out _ _ st2.upR hf)
        have O2 := Lib.hid o2
        have Hf := Lib.hid hf
        clear st2 o2 hf
        go_wp2_with fail
        refine G.out.mono ?_
        rintro e w3 ⟨rfl, st3, o3⟩
        have St3 := Lib.hid st3
        have O3 := Lib.hid o3
        clear st3 o3
        go_wp2_with fail
        go_ret
        exact F1.out _ _ _ Hf.out O2.out St3.out O3.out
      | false =>
        have St2 := Lib.hid st2
        have O2 := Lib.hid o2
        have Hf := Lib.hid hf
        clear st2 o2 hf
        go_wp2_with fail
        go_ret
        exact F0.out _ _ _ Hf.out O2.out St2.out rfl
end Go.Proofs.YtbdcepkahdecjaaGreat

namespace Go.Proofs.YtbdcepkahdecjaaGreat
open Go.RowKit
structure AvlAt (o : Ord) (ob B : Nat) (w : World) (tb : Nat) (t : BT) : Prop where
  st : St avlL w ⟨tb, cmpv ob, t.count⟩ [] t
  ok : Avl.ok t
  asc : Asc o t.kvs
  fine : o.fine
  ord : OrdAt w ob o
  ne : ob ∉ tb :: t.ids
  lo : B ≤ ob ∧ ∀ b ∈ tb :: t.ids, B ≤ b
def AvlHas (o : Ord) (B : Nat) (w : World) (tb : Nat) (l : KV) : Prop := ∃ ob t, AvlAt o ob B w tb t ∧ t.kvs = l
section
variable {o : Ord} {ob B tb : Nat} {w w' : World} {t : BT}
theorem AvlAt.same (h : AvlAt o ob B w tb t) (e : ∀ b, b ∈ ob :: tb :: t.ids → w'.heap[b]? = w.heap[b]?) : AvlAt o ob B w' tb t :=
  ⟨h.st.same (fun b hb => e b (by simpa [allIds, Ctx.ids] using Or.inr hb)), h.ok, h.asc, h.fine, Blk.same h.ord (e ob (by simp)), h.ne, h.lo⟩
theorem AvlAt.lt (h : AvlAt o ob B w tb t) : ∀ b ∈ ob :: tb :: t.ids, b < w.heap.size := fun b hb => by
  rcases List.mem_cons.1 hb with rfl | hb
  · exact h.ord.lt
  · exact h.st.lt b (by simpa [allIds, Ctx.ids] using hb)
theorem AvlAt.below (h : AvlAt o ob B w tb t) (k : Below w.heap.size w w') : AvlAt o ob B w' tb t := h.same fun b hb => k.block b (h.lt b hb)
theorem AvlAt.allIds_eq : allIds ⟨tb, cmpv ob, t.count⟩ [] t = tb :: t.ids := by simp [allIds, Ctx.ids]
theorem PutPost.lift {k v : Int} {e : Ending} (h : AvlAt o ob B w tb t) (p : PutPost o k v ⟨tb, cmpv ob, t.count⟩ [] t w e w') :
    (∃ b, e = .returned (.bool b)) ∧ (∃ t', AvlAt o ob B w' tb t' ∧ t'.kvs = ins o k v t.kvs) ∧ Below B w w' := by
  obtain ⟨n, hn, rfl, st, on⟩ := p
  rw [AvlAt.allIds_eq] at on
  have hob := h.ord.lt
  have hBl : ∀ b ∈ tb :: t.ids, B ≤ b := h.lo.2
  have hk := Avl.kvs_put (o := o) (n := n) (k := k) (v := v) h.asc
  have hids : ∀ b ∈ tb :: (Avl.put o n k v t).1.ids, b = n ∨ b ∈ tb :: t.ids := fun b hb => by
    rcases List.mem_cons.1 hb with rfl | hb
    · exact .inr (by simp)
    · rcases Avl.mem_ids_put hb with e | e
      · exact .inl e
      · exact .inr (by simp [e])
  refine ⟨⟨_, rfl⟩, ⟨_, ⟨?_, (Avl.put_ok h.ok).1, by rw [hk]; exact h.asc.ins, h.fine, h.ord.only on h.ne, ?_, h.lo.1, ?_⟩, hk⟩, on.below hBl (by have := h.lo.1; omega)⟩
  · have e : ((t.count : Int) + if Avl.has o k t then 0 else 1) = (Avl.put o n k v t).1.count := by
      rw [← BT.kvs_length (Avl.put o n k v t).1, hk, ins_length h.asc, Avl.has_look h.asc, BT.kvs_length]
      split <;> simp
    simpa only [e] using st
  · intro hm
    rcases hids _ hm with e | e
    · omega
    · exact h.ne e
  · intro b hb
    rcases hids _ hb with e | e
    · have := h.lo.1; omega
    · exact hBl b e
theorem RemPost.lift {k : Int} {e : Ending} (h : AvlAt o ob B w tb t) (p : RemPost o k ⟨tb, cmpv ob, t.count⟩ [] t w e w') :
    (∃ b, e = .returned (.bool b)) ∧ (∃ t', AvlAt o ob B w' tb t' ∧ t'.kvs = del o k t.kvs) ∧ Below B w w' := by
  obtain ⟨rfl, st, on⟩ := p
  rw [AvlAt.allIds_eq] at on
  have hob := h.ord.lt
  have hBl : ∀ b ∈ tb :: t.ids, B ≤ b := h.lo.2
  have hk := Avl.kvs_remove (o := o) (k := k) h.asc
  have hids : ∀ b ∈ tb :: (Avl.remove o k t).1.ids, b ∈ tb :: t.ids := fun b hb => by
    rcases List.mem_cons.1 hb with rfl | hb
    · simp
    · simp [Avl.mem_ids_remove hb]
  refine ⟨⟨_, rfl⟩, ⟨_, ⟨?_, (Avl.remove_ok h.ok).1, by rw [hk]; exact h.asc.del, h.fine, h.ord.only on h.ne, fun hm => h.ne (hids _ hm), h.lo.1, fun b hb => hBl b (hids _ hb)⟩, hk⟩, on.below hBl (by have := h.lo.1; omega)⟩
  have e : ((t.count : Int) - if Avl.has o k t then 1 else 0) = (Avl.remove o k t).1.count := by
    rw [← BT.kvs_length (Avl.remove o k t).1, hk, del_length, Avl.has_look h.asc, BT.kvs_length]
    split
    · rename_i hs
      have : 0 < t.count := by
        rw [← BT.kvs_length]
        cases hl : t.kvs with
        | nil => rw [hl] at hs; simp [look] at hs
        | cons x l => simp
      omega
    · simp
  simpa only [e] using st
theorem avlPut_walk (h : AvlAt o ob B w tb t) (k v : Int) (hl : t.count ≤ 100000) :
    Calls Tryz.prog 76 #[.pointer (some ⟨tb, 0, none⟩), .iface 3 (.int .i64 k), .iface 3 (.int .i64 v)] w fun e w' =>
      e = .returned (.tuple #[]) ∧ (∃ t', AvlAt o ob B w' tb t' ∧ t'.kvs = ins o k v t.kvs) ∧ Below B w w' := by
  have p := put_walk o h.fine ob k v t [] w ⟨tb, cmpv ob, t.count⟩ h.st h.ok rfl h.ord (by rw [AvlAt.allIds_eq]; exact h.ne) (by simp) (by simp; omega)
  simp only [Ctx.par, ptr, Option.map_none, slot] at p
  have P := Lib.hid p
  have H := Lib.hid h
  clear p h
  go_enter Tryz.func76, Tryz.ntmps76
  go_wp2_with fail
  refine P.out.mono ?_
  intro e w' hp
  obtain ⟨⟨b, rfl⟩, h2, h3⟩ := PutPost.lift H.out hp
  have H2 := Lib.hid h2
  have H3 := Lib.hid h3
  clear h2 h3 hp
  go_wp2_with fail
  go_end0
  exact ⟨rfl, H2.out, H3.out⟩
theorem avlRemove_walk (h : AvlAt o ob B w tb t) (k : Int) (hl : t.count ≤ 100000) :
    Calls Tryz.prog 77 #[.pointer (some ⟨tb, 0, none⟩), .iface 3 (.int .i64 k)] w fun e w' =>
      e = .returned (.tuple #[]) ∧ (∃ t', AvlAt o ob B w' tb t' ∧ t'.kvs = del o k t.kvs) ∧ Below B w w' := by
  have p := remove_walk o h.fine ob k t [] w ⟨tb, cmpv ob, t.count⟩ h.st h.ok rfl h.ord (by rw [AvlAt.allIds_eq]; exact h.ne) (by simp) (by simp; omega)
  simp only [slot] at p
  have P := Lib.hid p
  have H := Lib.hid h
  clear p h
  go_enter Tryz.func77, Tryz.ntmps77
  go_wp2_with fail
  refine P.out.mono ?_
  intro e w' hp
  obtain ⟨⟨b, rfl⟩, h2, h3⟩ := RemPost.lift H.out hp
  have H2 := Lib.hid h2
  have H3 := Lib.hid h3
  clear h2 h3 hp
  go_wp2_with fail
  go_end0
  exact ⟨rfl, H2.out, H3.out⟩
theorem avlClear_walk (h : AvlAt o ob B w tb t) :
    Calls Tryz.prog 73 #[.pointer (some ⟨tb, 0, none⟩)] w fun e w' =>
      e = .returned (.tuple #[]) ∧ (∃ t', AvlAt o ob B w' tb t' ∧ t'.kvs = []) ∧ Below B w w' := by
  obtain ⟨hh2, _, hhf⟩ := h.st.hc.header
  obtain ⟨hsl, hslf⟩ := h.st.hc.slot_cell
  have hb : Blk w tb avlL.tt (avlL.head ⟨tb, cmpv ob, t.count⟩ t.root) := h.st.hc
  have hb2 := (hb.set_ 0 (ptr none)).set_ 2 (.int .i64 0)
  have fin : (∃ t', AvlAt o ob B ((w.setCell ⟨tb, 0, none⟩ (.pointer none)).setCell ⟨tb, 2, none⟩ (.int .i64 0)) tb t' ∧ t'.kvs = []) ∧ Below B w ((w.setCell ⟨tb, 0, none⟩ (.pointer none)).setCell ⟨tb, 2, none⟩ (.int .i64 0)) := by
    have hBt : B ≤ tb := h.lo.2 tb (by simp)
    have hot : ob ≠ tb := fun e => h.ne (by simp [e])
    refine ⟨⟨.nil, ⟨⟨hb2, trivial, by simp [allIds, Ctx.ids, BT.ids]⟩, trivial, Asc.nil o, h.fine, Blk.far (Blk.far h.ord hot _) hot _, by simpa [BT.ids] using hot, h.lo.1, by simpa [BT.ids] using hBt⟩, rfl⟩, ?_⟩
    exact ((Below.refl B w).setCell (p := ⟨tb, 0, none⟩) hBt _).setCell (p := ⟨tb, 2, none⟩) hBt _
  simp only [slot, ptr, Lay.os, if_true] at hh2 hsl hslf
  have Fin := Lib.hid fin
  clear fin hb hb2 h
  go_enter Tryz.func73, Tryz.ntmps73
  go_wp2_with fail
  go_end0
  exact ⟨rfl, Fin.out⟩
theorem avlSize_walk (h : AvlAt o ob B w tb t) : Calls Tryz.prog 78 #[.pointer (some ⟨tb, 0, none⟩)] w fun e w' => e = .returned (.int .i64 t.count) ∧ w = w' := by
  obtain ⟨hh2, _, _⟩ := h.st.hc.header
  simp only [Lay.os, if_true] at hh2
  clear h
  go_enter Tryz.func78, Tryz.ntmps78
  go_wp2_with fail
  go_ret
  exact ⟨rfl, rfl⟩
theorem avlEmpty_walk (h : AvlAt o ob B w tb t) : Calls Tryz.prog 74 #[.pointer (some ⟨tb, 0, none⟩)] w fun e w' => e = .returned (.bool (((t.count : Nat) : Int) == 0)) ∧ w = w' := by
  obtain ⟨hh2, _, _⟩ := h.st.hc.header
  simp only [Lay.os, if_true] at hh2
  clear h
  generalize (t.count : Int) = n at *
  go_enter Tryz.func74, Tryz.ntmps74
  go_wp2_with fail
  go_ret
  exact ⟨rfl, rfl⟩
theorem AvlHas.below {l : KV} (h : AvlHas o B w tb l) (k : Below w.heap.size w w') : AvlHas o B w' tb l := by
  obtain ⟨ob, t, ht, e⟩ := h
  exact ⟨ob, t, ht.below k, e⟩
theorem AvlHas.alloc {l : KV} (h : AvlHas o B w tb l) (x : Obj) : AvlHas o B (w.alloc x) tb l := h.below ((Below.refl _ _).alloc (Nat.le_refl _) x)
theorem AvlHas.size {l : KV} (h : AvlHas o B w tb l) : B ≤ w.heap.size := by
  obtain ⟨ob, t, ht, _⟩ := h
  have := ht.ord.lt; have := ht.lo.1; omega
theorem AvlHas.asc {l : KV} (h : AvlHas o B w tb l) : Asc o l := by
  obtain ⟨ob, t, ht, e⟩ := h
  exact e ▸ ht.asc
theorem avlPut_has {l : KV} (h : AvlHas o B w tb l) (k v : Int) (hl : l.length ≤ 100000) :
    Calls Tryz.prog 76 #[.pointer (some ⟨tb, 0, none⟩), .iface 3 (.int .i64 k), .iface 3 (.int .i64 v)] w fun e w' =>
      e = .returned (.tuple #[]) ∧ AvlHas o B w' tb (ins o k v l) ∧ Below B w w' := by
  obtain ⟨ob, t, ht, rfl⟩ := h
  refine (avlPut_walk ht k v (by rw [← BT.kvs_length]; exact hl)).mono ?_
  rintro e w' ⟨h1, ⟨t', h2, h3⟩, h4⟩
  exact ⟨h1, ⟨ob, t', h2, h3⟩, h4⟩
theorem avlRemove_has {l : KV} (h : AvlHas o B w tb l) (k : Int) (hl : l.length ≤ 100000) :
    Calls Tryz.prog 77 #[.pointer (some ⟨tb, 0, none⟩), .iface 3 (.int .i64 k)] w fun e w' =>
      e = .returned (.tuple #[]) ∧ AvlHas o B w' tb (del o k l) ∧ Below B w w' := by
  obtain ⟨ob, t, ht, rfl⟩ := h
  refine (avlRemove_walk ht k (by rw [← BT.kvs_length]; exact hl)).mono ?_
  rintro e w' ⟨h1, ⟨t', h2, h3⟩, h4⟩
  exact ⟨h1, ⟨ob, t', h2, h3⟩, h4⟩
theorem avlClear_has {l : KV} (h : AvlHas o B w tb l) :
    Calls Tryz.prog 73 #[.pointer (some ⟨tb, 0, none⟩)] w fun e w' =>
      e = .returned (.tuple #[]) ∧ AvlHas o B w' tb [] ∧ Below B w w' := by
  obtain ⟨ob, t, ht, rfl⟩ := h
  refine (avlClear_walk ht).mono ?_
  rintro e w' ⟨h1, ⟨t', h2, h3⟩, h4⟩
  exact ⟨h1, ⟨ob, t', h2, h3⟩, h4⟩
end
end Go.Proofs.YtbdcepkahdecjaaGreat
