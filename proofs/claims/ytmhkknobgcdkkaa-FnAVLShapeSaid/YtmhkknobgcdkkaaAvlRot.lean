/-
  The turns of the AVL tree: what rotate, singlerot and doublerot do to a tree in memory. (Printed by gen_avlrot.py: both sides alike.)
-/
import Derived.Test.YtmhkknobgcdkkaaCmp
import Derived.Test.YtmhkknobgcdkkaaAvlPure
import Derived.RegionTactic
import Derived.ChangeAlike
import Derived.BigRegion
namespace Go.Proofs.Ytmhkknobgcdkkaa
open Go.RowKit

abbrev avlL : Lay := ⟨82, 55, 3, true⟩

theorem xor_i8_11 : bits BinOp.xor IntKind.i8 1 1 = 0 := by kernel_rfl
theorem xor_i8_01 : bits BinOp.xor IntKind.i8 0 1 = 1 := by kernel_rfl

theorem IsT.setC {w : World} {i : Nat} {l r : BT} {k v c : Int} {p : Option Nat} (h : IsT avlL w (.node i l k v c r) p) (hn : (BT.ids (.node i l k v c r)).Nodup) (x : Int) :
    IsT avlL (w.setCell ⟨i, 5, none⟩ (.int .i8 x)) (.node i l k v x r) p := by
  obtain ⟨h1, h2, h3⟩ := h
  simp only [BT.ids, List.nodup_cons, List.mem_append, not_or] at hn
  exact ⟨Nd.setC (L := avlL) h1 x, h2.far hn.1.1 _, h3.far hn.1.2 _⟩

/-- The right child goes up. -/
theorem rotR_walk {w : World} {s r : Nat} {l rl rr : BT} {k v b k' v' b' : Int} {p : Option Nat} (h : IsT avlL w (.node s l k v b (.node r rl k' v' b' rr)) p)
    (hn : (BT.ids (.node s l k v b (.node r rl k' v' b' rr))).Nodup) :
    Calls Try.prog 82 #[.int .i8 1, .pointer (some ⟨s, 0, none⟩)] w fun e w' => e = .returned (.pointer (some ⟨r, 0, none⟩)) ∧ IsT avlL w' (.node r (.node s l k v b rl) k' v' b' rr) p ∧
      Only (BT.ids (.node s l k v b (.node r rl k' v' b' rr))) w w' := by
  obtain ⟨hs, hl, hr, hrl, hrr⟩ := h
  have hx := xor_i8_11
  have hn' := hn
  simp only [BT.ids, List.nodup_cons, List.mem_cons, List.mem_append, List.nodup_append, not_or] at hn'
  have hsr : ¬ s = r := by grind
  have hrs : ¬ r = s := by grind
  obtain ⟨hs0, hs1, hs3, hs4⟩ := hs.cells_
  have hs2 := hs.cellP
  obtain ⟨hr0, hr1, hr3, hr4⟩ := hr.cells_
  have hr2 := hr.cellP
  have fs := hs.frozen
  have fr := hr.frozen
  simp only [BT.root, ptr, Option.map_some, Lay.op, if_true] at hs2 hs3 hs4 hr2 hr3 hr4
  cases rl with
  | nil =>
    simp only [Option.map_none] at hr3
    have Hs := Lib.hid hs
    have Hr := Lib.hid hr
    have Hn := Lib.hid hn'
    clear hs hr hn hn' hs0 hs1 hr0 hr1
    go_enter Try.func82, Try.ntmps82
    go_wp2
    go_region
    go_wp2
    go_ret
    have hO : Only [s, r] w ((((w.setCell ⟨s, 4, none⟩ (.pointer none)).setCell ⟨r, 3, none⟩ (.pointer (some ⟨s, 0, none⟩))).setCell ⟨r, 2, none⟩ (ptr p)).setCell ⟨s, 2, none⟩ (.pointer (some ⟨r, 0, none⟩))).drew :=
      (((((Only.refl _ _).setCell (.inl (by simp)) _).setCell (.inl (by simp)) _).setCell (.inl (by simp)) _).setCell (.inl (by simp)) _).drew
    have g1 := Nd.drew (Nd.far (a := ⟨s, 2, none⟩) (Nd.setP (L := avlL) (p := some s) (Nd.setL (l := none) (Nd.far (a := ⟨s, 4, none⟩) Hr.out hrs (.pointer none)) (some s)) p) hrs (.pointer (some ⟨r, 0, none⟩)))
    have g2 := Nd.drew (Nd.setP (L := avlL) (p := p) (Nd.far (a := ⟨r, 2, none⟩) (Nd.far (a := ⟨r, 3, none⟩) (Nd.setR Hs.out none) hsr (.pointer (some ⟨s, 0, none⟩))) hsr (ptr p)) (some r))
    refine ⟨rfl, ⟨?_, ⟨?_, ?_, ?_⟩, ?_⟩, ?_⟩
    · exact g1
    · exact g2
    · exact hl.only hO (by have := Hn.out; grind)
    · trivial
    · exact hrr.only hO (by have := Hn.out; grind)
    · exact hO.mono (by simp [BT.ids]; grind)
  | node x xl kx vx bx xr =>
    obtain ⟨hx', hxl, hxr⟩ := hrl
    simp only [Option.map_some] at hr3
    have hsx : ¬ s = x := by simp only [BT.ids] at hn'; grind
    have hxs : ¬ x = s := by simp only [BT.ids] at hn'; grind
    have hrx : ¬ r = x := by simp only [BT.ids] at hn'; grind
    have hxr' : ¬ x = r := by simp only [BT.ids] at hn'; grind
    have hx2 := hx'.cellP
    have fx := hx'.frozen
    simp only [ptr, Option.map_some, Lay.op, if_true] at hx2
    have Hs := Lib.hid hs
    have Hr := Lib.hid hr
    have Hx := Lib.hid hx'
    have Hn := Lib.hid hn'
    clear hs hr hx' hn hn' hs0 hs1 hr0 hr1
    go_enter Try.func82, Try.ntmps82
    go_wp2
    go_region
    go_wp2
    go_ret
    have hO : Only [s, r, x] w (((((w.setCell ⟨s, 4, none⟩ (.pointer (some ⟨x, 0, none⟩))).setCell ⟨x, 2, none⟩ (.pointer (some ⟨s, 0, none⟩))).setCell ⟨r, 3, none⟩ (.pointer (some ⟨s, 0, none⟩))).setCell ⟨r, 2, none⟩ (ptr p)).setCell ⟨s, 2, none⟩ (.pointer (some ⟨r, 0, none⟩))).drew :=
      ((((((Only.refl _ _).setCell (.inl (by simp)) _).setCell (.inl (by simp)) _).setCell (.inl (by simp)) _).setCell (.inl (by simp)) _).setCell (.inl (by simp)) _).drew
    have g1 := Nd.drew (Nd.far (a := ⟨s, 2, none⟩) (Nd.setP (L := avlL) (p := some s) (Nd.setL (l := some x) (Nd.far (a := ⟨x, 2, none⟩) (Nd.far (a := ⟨s, 4, none⟩) Hr.out hrs (.pointer (some ⟨x, 0, none⟩))) hrx (.pointer (some ⟨s, 0, none⟩))) (some s)) p) hrs (.pointer (some ⟨r, 0, none⟩)))
    have g2 := Nd.drew (Nd.setP (L := avlL) (p := p) (Nd.far (a := ⟨r, 2, none⟩) (Nd.far (a := ⟨r, 3, none⟩) (Nd.far (a := ⟨x, 2, none⟩) (Nd.setR Hs.out (some x)) hsx (.pointer (some ⟨s, 0, none⟩))) hsr (.pointer (some ⟨s, 0, none⟩))) hsr (ptr p)) (some r))
    have g3 := Nd.drew (Nd.far (a := ⟨s, 2, none⟩) (Nd.far (a := ⟨r, 2, none⟩) (Nd.far (a := ⟨r, 3, none⟩) (Nd.setP (L := avlL) (p := some r) (Nd.far (a := ⟨s, 4, none⟩) Hx.out hxs (.pointer (some ⟨x, 0, none⟩))) (some s)) hxr' (.pointer (some ⟨s, 0, none⟩))) hxr' (ptr p)) hxs (.pointer (some ⟨r, 0, none⟩)))
    have d1 : ∀ y ∈ [s, r, x], y ∉ l.ids ∧ y ∉ rr.ids ∧ y ∉ xl.ids ∧ y ∉ xr.ids := by
      have := Hn.out; simp only [BT.ids, List.nodup_cons, List.nodup_append, List.mem_cons, List.mem_append, not_or] at this; simp only [List.mem_cons, List.not_mem_nil, or_false]; grind
    refine ⟨rfl, ⟨?_, ⟨?_, ?_, ?_⟩, ?_⟩, ?_⟩
    · exact g1
    · exact g2
    · exact hl.only hO (fun b hb hm => (d1 b hm).1 hb)
    · exact ⟨g3, hxl.only hO (fun b hb hm => (d1 b hm).2.2.1 hb), hxr.only hO (fun b hb hm => (d1 b hm).2.2.2 hb)⟩
    · exact hrr.only hO (fun b hb hm => (d1 b hm).2.1 hb)
    · exact hO.mono (by simp [BT.ids]; grind)

/-- The left child goes up. -/
theorem rotL_walk {w : World} {s r : Nat} {l rl rr : BT} {k v b k' v' b' : Int} {p : Option Nat} (h : IsT avlL w (.node s (.node r rr k' v' b' rl) k v b l) p)
    (hn : (BT.ids (.node s (.node r rr k' v' b' rl) k v b l)).Nodup) :
    Calls Try.prog 82 #[.int .i8 (-1), .pointer (some ⟨s, 0, none⟩)] w fun e w' => e = .returned (.pointer (some ⟨r, 0, none⟩)) ∧ IsT avlL w' (.node r rr k' v' b' (.node s rl k v b l)) p ∧
      Only (BT.ids (.node s (.node r rr k' v' b' rl) k v b l)) w w' := by
  obtain ⟨hs, ⟨hr, hrr, hrl⟩, hl⟩ := h
  have hx := xor_i8_01
  have hn' := hn
  simp only [BT.ids, List.nodup_cons, List.mem_cons, List.mem_append, List.nodup_append, not_or] at hn'
  have hsr : ¬ s = r := by grind
  have hrs : ¬ r = s := by grind
  obtain ⟨hs0, hs1, hs3, hs4⟩ := hs.cells_
  have hs2 := hs.cellP
  obtain ⟨hr0, hr1, hr3, hr4⟩ := hr.cells_
  have hr2 := hr.cellP
  have fs := hs.frozen
  have fr := hr.frozen
  simp only [BT.root, ptr, Option.map_some, Lay.op, if_true] at hs2 hs3 hs4 hr2 hr3 hr4
  cases rl with
  | nil =>
    simp only [Option.map_none] at hr4
    have Hs := Lib.hid hs
    have Hr := Lib.hid hr
    have Hn := Lib.hid hn'
    clear hs hr hn hn' hs0 hs1 hr0 hr1
    go_enter Try.func82, Try.ntmps82
    go_wp2
    go_region
    go_wp2
    go_ret
    have hO : Only [s, r] w ((((w.setCell ⟨s, 3, none⟩ (.pointer none)).setCell ⟨r, 4, none⟩ (.pointer (some ⟨s, 0, none⟩))).setCell ⟨r, 2, none⟩ (ptr p)).setCell ⟨s, 2, none⟩ (.pointer (some ⟨r, 0, none⟩))).drew :=
      (((((Only.refl _ _).setCell (.inl (by simp)) _).setCell (.inl (by simp)) _).setCell (.inl (by simp)) _).setCell (.inl (by simp)) _).drew
    have g1 := Nd.drew (Nd.far (a := ⟨s, 2, none⟩) (Nd.setP (L := avlL) (p := some s) (Nd.setR (r := none) (Nd.far (a := ⟨s, 3, none⟩) Hr.out hrs (.pointer none)) (some s)) p) hrs (.pointer (some ⟨r, 0, none⟩)))
    have g2 := Nd.drew (Nd.setP (L := avlL) (p := p) (Nd.far (a := ⟨r, 2, none⟩) (Nd.far (a := ⟨r, 4, none⟩) (Nd.setL Hs.out none) hsr (.pointer (some ⟨s, 0, none⟩))) hsr (ptr p)) (some r))
    refine ⟨rfl, ⟨?_, ?_, ⟨?_, ?_, ?_⟩⟩, ?_⟩
    · exact g1
    · exact hrr.only hO (by have := Hn.out; grind)
    · exact g2
    · trivial
    · exact hl.only hO (by have := Hn.out; grind)
    · exact hO.mono (by simp [BT.ids]; grind)
  | node x xl kx vx bx xr =>
    obtain ⟨hx', hxl, hxr⟩ := hrl
    simp only [Option.map_some] at hr4
    have hsx : ¬ s = x := by simp only [BT.ids] at hn'; grind
    have hxs : ¬ x = s := by simp only [BT.ids] at hn'; grind
    have hrx : ¬ r = x := by simp only [BT.ids] at hn'; grind
    have hxr' : ¬ x = r := by simp only [BT.ids] at hn'; grind
    have hx2 := hx'.cellP
    have fx := hx'.frozen
    simp only [ptr, Option.map_some, Lay.op, if_true] at hx2
    have Hs := Lib.hid hs
    have Hr := Lib.hid hr
    have Hx := Lib.hid hx'
    have Hn := Lib.hid hn'
    clear hs hr hx' hn hn' hs0 hs1 hr0 hr1
    go_enter Try.func82, Try.ntmps82
    go_wp2
    go_region
    go_wp2
    go_ret
    have hO : Only [s, r, x] w (((((w.setCell ⟨s, 3, none⟩ (.pointer (some ⟨x, 0, none⟩))).setCell ⟨x, 2, none⟩ (.pointer (some ⟨s, 0, none⟩))).setCell ⟨r, 4, none⟩ (.pointer (some ⟨s, 0, none⟩))).setCell ⟨r, 2, none⟩ (ptr p)).setCell ⟨s, 2, none⟩ (.pointer (some ⟨r, 0, none⟩))).drew :=
      ((((((Only.refl _ _).setCell (.inl (by simp)) _).setCell (.inl (by simp)) _).setCell (.inl (by simp)) _).setCell (.inl (by simp)) _).setCell (.inl (by simp)) _).drew
    have g1 := Nd.drew (Nd.far (a := ⟨s, 2, none⟩) (Nd.setP (L := avlL) (p := some s) (Nd.setR (r := some x) (Nd.far (a := ⟨x, 2, none⟩) (Nd.far (a := ⟨s, 3, none⟩) Hr.out hrs (.pointer (some ⟨x, 0, none⟩))) hrx (.pointer (some ⟨s, 0, none⟩))) (some s)) p) hrs (.pointer (some ⟨r, 0, none⟩)))
    have g2 := Nd.drew (Nd.setP (L := avlL) (p := p) (Nd.far (a := ⟨r, 2, none⟩) (Nd.far (a := ⟨r, 4, none⟩) (Nd.far (a := ⟨x, 2, none⟩) (Nd.setL Hs.out (some x)) hsx (.pointer (some ⟨s, 0, none⟩))) hsr (.pointer (some ⟨s, 0, none⟩))) hsr (ptr p)) (some r))
    have g3 := Nd.drew (Nd.far (a := ⟨s, 2, none⟩) (Nd.far (a := ⟨r, 2, none⟩) (Nd.far (a := ⟨r, 4, none⟩) (Nd.setP (L := avlL) (p := some r) (Nd.far (a := ⟨s, 3, none⟩) Hx.out hxs (.pointer (some ⟨x, 0, none⟩))) (some s)) hxr' (.pointer (some ⟨s, 0, none⟩))) hxr' (ptr p)) hxs (.pointer (some ⟨r, 0, none⟩)))
    have d1 : ∀ y ∈ [s, r, x], y ∉ l.ids ∧ y ∉ rr.ids ∧ y ∉ xl.ids ∧ y ∉ xr.ids := by
      have := Hn.out; simp only [BT.ids, List.nodup_cons, List.nodup_append, List.mem_cons, List.mem_append, not_or] at this; simp only [List.mem_cons, List.not_mem_nil, or_false]; grind
    refine ⟨rfl, ⟨?_, ?_, ⟨?_, ?_, ?_⟩⟩, ?_⟩
    · exact g1
    · exact hrr.only hO (fun b hb hm => (d1 b hm).2.1 hb)
    · exact g2
    · exact ⟨g3, hxl.only hO (fun b hb hm => (d1 b hm).2.2.1 hb), hxr.only hO (fun b hb hm => (d1 b hm).2.2.2 hb)⟩
    · exact hl.only hO (fun b hb hm => (d1 b hm).1 hb)
    · exact hO.mono (by simp [BT.ids]; grind)

end Go.Proofs.Ytmhkknobgcdkkaa
