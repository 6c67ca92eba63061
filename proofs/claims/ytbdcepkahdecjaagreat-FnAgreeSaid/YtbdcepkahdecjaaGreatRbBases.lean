/-
  Several texts as one (RbBase, RbRot): each says its own in its remarks.
-/
import Derived.Test.YtbdcepkahdecjaaGreatCmp
import Derived.Test.YtbdcepkahdecjaaGreatRbPure
import Derived.Deep.LoopGhost
import Derived.LaidEqlPtr
import Derived.RegionTactic
import Derived.ChangeAlike
import Derived.BigRegion
import Derived.Deep.RegionWith
namespace Go.Proofs.YtbdcepkahdecjaaGreat.Rb
open Go.RowKit Go.Proofs.YtbdcepkahdecjaaGreat
abbrev rbL : Lay := ⟨92, 59, 3, false⟩
theorem rb_op : rbL.op = 5 := rfl
theorem rb_oc : rbL.oc = 2 := rfl
theorem rb_os : rbL.os = 1 := rfl
theorem rb_om : rbL.om = 2 := rfl
theorem rb_cv (c : Int) : rbL.cv c = .bool (c == 1) := rfl
theorem root_node {i : Nat} {l r : BT} {k v b : Int} : (BT.node i l k v b r).root = some i := rfl
theorem rbNode_size : (Tryz.prog.info? 92).map (fun i => i.size) = some 6 := by kernel_rfl
theorem rbPtr_same (w : World) (a : Addr) : (binOp .eql 57 (.pointer (some a)) (.pointer (some a))).run Tryz.prog w = .ok (.bool true) w := by
  obtain ⟨j, hj, _⟩ := Option.map_eq_some_iff.1 rbNode_size
  exact run_eql_ptr_same w a Tryz.underlying57 hj
theorem rbPtr_other (w : World) {i j : Nat} (h : i ≠ j) {ca cb : Array Value} {ta tb : TypeId} (hi : Blk w i ta ca) (hj : Blk w j tb cb) :
    (binOp .eql 57 (.pointer (some ⟨i, 0, none⟩)) (.pointer (some ⟨j, 0, none⟩))).run Tryz.prog w = .ok (.bool false) w := by
  obtain ⟨x, hx, hs⟩ := Option.map_eq_some_iff.1 rbNode_size
  exact run_eql_ptr_other w Tryz.underlying57 hx (by rw [hs]; decide) (fun e => h (by injection e)) hi hj
theorem rbPtr_some (w : World) (a : Addr) : (binOp .eql 57 (.pointer (some a)) (.pointer none)).run Tryz.prog w = .ok (.bool false) w := by kernel_rfl
theorem rbPtr_root {w : World} {i : Nat} {t : BT} {ca : Array Value} {ta : TypeId} {p : Option Nat} (hi : Blk w i ta ca) (ht : IsT rbL w t p) (hn : i ∉ t.ids) :
    (binOp .eql 57 (.pointer (some ⟨i, 0, none⟩)) (ptr t.root)).run Tryz.prog w = .ok (.bool false) w := by
  cases t with
  | nil => exact rbPtr_some _ _
  | node j l k v b r => exact rbPtr_other w (fun e => hn (by simp [BT.ids, e])) hi ht.1
theorem rbPtr_rootN {w : World} {i : Nat} {t : BT} {ca : Array Value} {ta : TypeId} {p : Option Nat} (hi : Blk w i ta ca) (ht : IsT rbL w t p) (hn : i ∉ t.ids) (n : Nat) :
    (binOp .eql 57 (.pointer (some ⟨i, 0, none⟩)) (ptr t.root)).run Tryz.prog (w.drewN n) = .ok (.bool false) (w.drewN n) :=
  rbPtr_root (w := w.drewN n) (ca := ca) (ta := ta) hi (ht.same fun _ _ => rfl) hn
theorem nodeColor_nil (w : World) : Calls Tryz.prog 54 #[.pointer none] w fun e w' => e = .returned (.bool true) ∧ w = w' := by
  go_enter Tryz.func54, Tryz.ntmps54
  go_wp2_with fail
  go_ret
  exact ⟨rfl, rfl⟩
theorem nodeColor_node {w : World} {i : Nat} {k v c : Int} {p l r : Option Nat} (h : Nd rbL w i k v c p l r) : Calls Tryz.prog 54 #[.pointer (some ⟨i, 0, none⟩)] w fun e w' => e = .returned (.bool (c == 1)) ∧ w = w' := by
  have h2 : w.cell? ⟨i, 2, none⟩ = some (.bool (c == 1)) := h.cellC
  clear h
  generalize (c == 1) = x at *
  go_enter Tryz.func54, Tryz.ntmps54
  go_wp2_with fail
  go_ret
  exact ⟨rfl, rfl⟩
theorem nodeColor_walk {w : World} {t : BT} {p : Option Nat} (h : IsT rbL w t p) : Calls Tryz.prog 54 #[ptr t.root] w fun e w' => e = .returned (.bool (col t == 1)) ∧ w = w' := by
  cases t with
  | nil => exact nodeColor_nil w
  | node i l k v c r => exact nodeColor_node h.1
end Go.Proofs.YtbdcepkahdecjaaGreat.Rb

namespace Go.Proofs.YtbdcepkahdecjaaGreat.Rb
open Go.RowKit Go.Proofs.YtbdcepkahdecjaaGreat
theorem IsC.nextTo {w : World} {H : Hd} {c : Ctx} {i : Nat} (hc : IsC rbL w H c (some i)) (hi : ∃ cs, Blk w i 92 cs) (hn : i ∉ H.tb :: c.ids) :
    c = [] ∨ ∃ p x, c.par = some p ∧ w.cell? ⟨p, 3, none⟩ = some x ∧ ((slot H c = ⟨p, 3, none⟩ ∧ x = .pointer (some ⟨i, 0, none⟩) ∧ (binOp .eql 57 (.pointer (some ⟨i, 0, none⟩)) x).run Tryz.prog w = .ok (.bool true) w) ∨ (slot H c = ⟨p, 4, none⟩ ∧ (binOp .eql 57 (.pointer (some ⟨i, 0, none⟩)) x).run Tryz.prog w = .ok (.bool false) w)) := by
  cases c with
  | nil => exact .inl rfl
  | cons f c =>
    cases f with
    | lf p k v cc r => exact .inr ⟨p, _, rfl, (Nd.cells_ hc.1).2.2.1, .inl ⟨rfl, rfl, rbPtr_same _ _⟩⟩
    | rf p l k v cc =>
      obtain ⟨cs, hi⟩ := hi
      refine .inr ⟨p, _, rfl, (Nd.cells_ hc.1).2.2.1, .inr ⟨rfl, rbPtr_root hi hc.2.1 fun hm => hn ?_⟩⟩
      simp [Ctx.ids, Fr.ids, hm]
theorem replace_nil {w : World} {H : Hd} {c : Ctx} {i : Nat} {k v b : Int} {l r : Option Nat} (hc : IsC rbL w H c (some i)) (hi : Nd rbL w i k v b c.par l r) (hn : (H.tb :: c.ids).Nodup) (hic : i ∉ H.tb :: c.ids) :
    Calls Tryz.prog 56 #[.pointer (some ⟨H.tb, 0, none⟩), .pointer (some ⟨i, 0, none⟩), .pointer none] w fun e w' => e = .returned (.tuple #[]) ∧ IsC rbL w' H c none ∧ Only [(slot H c).block] w w' := by
  obtain ⟨hsl, hslf⟩ := hc.slot_cell
  have fin : IsC rbL (w.setCell (slot H c) (.pointer none)) H c none ∧ Only [(slot H c).block] w (w.setCell (slot H c) (.pointer none)) :=
    ⟨hc.slot_set hn none, (Only.refl _ _).setCell (.inl (by simp)) _⟩
  have Fin := Lib.hid fin
  have hp : w.cell? ⟨i, 5, none⟩ = some (ptr c.par) := hi.cellP
  rcases IsC.nextTo hc ⟨_, hi⟩ hic with rfl | ⟨p, x, e1, hx, ⟨e2, rfl, q⟩ | ⟨e2, q⟩⟩
  · simp only [slot, Ctx.par, ptr, Option.map_none, Option.map_some] at hp hsl hslf Fin ⊢
    clear hc hi fin
    go_enter Tryz.func56, Tryz.ntmps56
    go_wp2_with fail
    go_end0
    exact ⟨rfl, Fin.out⟩
  · rw [e1] at hp
    rw [e2] at hsl hslf Fin ⊢
    simp only [ptr, Option.map_some] at hp hsl
    clear hc hi fin e1 e2
    go_enter Tryz.func56, Tryz.ntmps56
    go_wp2_with fail
    go_end0
    exact ⟨rfl, Fin.out⟩
  · rw [e1] at hp
    rw [e2] at hsl hslf Fin ⊢
    simp only [ptr, Option.map_some] at hp hsl
    clear hc hi fin e1 e2
    go_enter Tryz.func56, Tryz.ntmps56
    go_wp2_with fail
    go_end0
    exact ⟨rfl, Fin.out⟩
theorem replace_some {w : World} {H : Hd} {c : Ctx} {i : Nat} {k v b : Int} {l r : Option Nat} {x : Nat} {kx vx bx : Int} {px xl xr : Option Nat} (hc : IsC rbL w H c (some i)) (hi : Nd rbL w i k v b c.par l r) (hx : Nd rbL w x kx vx bx px xl xr) (hn : (H.tb :: c.ids).Nodup) (hic : i ∉ H.tb :: c.ids) (hxc : x ∉ H.tb :: c.ids) (hix : i ≠ x) :
    Calls Tryz.prog 56 #[.pointer (some ⟨H.tb, 0, none⟩), .pointer (some ⟨i, 0, none⟩), .pointer (some ⟨x, 0, none⟩)] w fun e w' => e = .returned (.tuple #[]) ∧ IsC rbL w' H c (some x) ∧ Nd rbL w' x kx vx bx c.par xl xr ∧ Only [(slot H c).block, x] w w' := by
  obtain ⟨hsl, hslf⟩ := hc.slot_cell
  have hsx : (slot H c).block ≠ x := fun e => hxc (e ▸ slot_block H c)
  have hsi : (slot H c).block ≠ i := fun e => hic (e ▸ slot_block H c)
  have fin : IsC rbL ((w.setCell (slot H c) (.pointer (some ⟨x, 0, none⟩))).setCell ⟨x, 5, none⟩ (ptr c.par)) H c (some x) ∧ Nd rbL ((w.setCell (slot H c) (.pointer (some ⟨x, 0, none⟩))).setCell ⟨x, 5, none⟩ (ptr c.par)) x kx vx bx c.par xl xr ∧ Only [(slot H c).block, x] w ((w.setCell (slot H c) (.pointer (some ⟨x, 0, none⟩))).setCell ⟨x, 5, none⟩ (ptr c.par)) := by
    simp only [List.mem_cons, not_or] at hxc
    exact ⟨(hc.slot_set hn (some x)).far hxc.2 (fun e => hxc.1 e) _, (hx.far (fun e => hsx e.symm) _).setP c.par, ((Only.refl _ _).setCell (.inl (by simp)) _).setCell (.inl (by simp)) _⟩
  have Fin := Lib.hid fin
  have hp : w.cell? ⟨i, 5, none⟩ = some (ptr c.par) := hi.cellP
  have hp5 : w.cell? ⟨x, 5, none⟩ = some (ptr px) := hx.cellP
  have hf5 := hx.frozen 5
  have hxi : ¬ x = i := fun e => hix e.symm
  rcases IsC.nextTo hc ⟨_, hi⟩ hic with rfl | ⟨p, y, e1, hy, ⟨e2, rfl, q⟩ | ⟨e2, q⟩⟩
  · simp only [slot, Ctx.par, ptr, Option.map_none, Option.map_some] at hp hsl hslf Fin hsx hsi ⊢
    clear hc hi fin hx
    go_enter Tryz.func56, Tryz.ntmps56
    go_wp2_with fail
    go_end0
    exact ⟨rfl, Fin.out⟩
  · rw [e1] at hp Fin ⊢
    rw [e2] at hsl hslf Fin hsx hsi ⊢
    simp only [ptr, Option.map_some] at hp hsl Fin
    clear hc hi fin e1 e2 hx
    go_enter Tryz.func56, Tryz.ntmps56
    go_wp2_with fail
    go_end0
    exact ⟨rfl, Fin.out⟩
  · rw [e1] at hp Fin ⊢
    rw [e2] at hsl hslf Fin hsx hsi ⊢
    simp only [ptr, Option.map_some] at hp hsl Fin
    clear hc hi fin e1 e2 hx
    go_enter Tryz.func56, Tryz.ntmps56
    go_wp2_with fail
    go_end0
    exact ⟨rfl, Fin.out⟩
theorem St.other {w w' : World} {H : Hd} {c : Ctx} {t t' : BT} (s : St rbL w H c t) (hc : IsC rbL w' H c t'.root) (ht : IsT rbL w' t' c.par) (hp : t'.ids.Perm t.ids) : St rbL w' H c t' :=
  ⟨hc, ht, (List.Perm.cons _ (List.Perm.append_left _ hp.symm)).nodup s.nd⟩
theorem rotL_walk {w : World} {H : Hd} {c : Ctx} {s r : Nat} {l rl rr : BT} {k v b k' v' b' : Int} (sT : St rbL w H c (.node s l k v b (.node r rl k' v' b' rr))) :
    Calls Tryz.prog 63 #[.pointer (some ⟨H.tb, 0, none⟩), .pointer (some ⟨s, 0, none⟩)] w fun e w' => e = .returned (.tuple #[]) ∧ St rbL w' H c (.node r (.node s l k v b rl) k' v' b' rr) ∧ Only (allIds H c (.node s l k v b (.node r rl k' v' b' rr))) w w' := by
  have hic : s ∉ H.tb :: c.ids := fun hm => by
    have hd := sT.djc
    rcases List.mem_cons.1 hm with e | e
    · exact hd.1 (by simp [BT.ids, e])
    · exact hd.2 _ e (by simp [BT.ids])
  have hxc : r ∉ H.tb :: c.ids := fun hm => by
    have hd := sT.djc
    rcases List.mem_cons.1 hm with e | e
    · exact hd.1 (by simp [BT.ids, e])
    · exact hd.2 _ e (by simp [BT.ids])
  have hnt := sT.ndt
  have hdj := sT.djc
  have hperm : (BT.ids (.node r (.node s l k v b rl) k' v' b' rr)).Perm (BT.ids (.node s l k v b (.node r rl k' v' b' rr))) := by
    simp [List.perm_iff_count, BT.ids, List.count_cons]
    try omega
  have hc := sT.hc
  obtain ⟨hs, hl, hr, hrl, hrr⟩ := sT.ht
  simp only [BT.ids, List.nodup_cons, List.mem_cons, List.mem_append, List.nodup_append, not_or] at hnt
  have hsr : ¬ s = r := by grind
  have hrs : ¬ r = s := by grind
  have hso : ∀ y ∈ [(slot H c).block, r], y ∉ l.ids ∧ y ∉ rl.ids ∧ y ∉ rr.ids ∧ y ≠ s := by
    intro y hy
    simp only [List.mem_cons, List.not_mem_nil, or_false] at hy
    have hsb := slot_block H c
    rcases hy with rfl | rfl
    · have h2 : (slot H c).block ∉ BT.ids (.node s l k v b (.node r rl k' v' b' rr)) := by
        rcases List.mem_cons.1 hsb with e | e
        · rw [e]; exact hdj.1
        · exact hdj.2 _ e
      simp only [BT.ids, List.mem_cons, List.mem_append, not_or] at h2
      grind
    · grind
  have rp := replace_some hc hs hr sT.ndc hic hxc hsr
  have h4 : w.cell? ⟨s, 4, none⟩ = some (.pointer (some ⟨r, 0, none⟩)) := (Nd.cells_ hs).2.2.2
  have fin : ∀ w1 w2, IsC rbL w1 H c (some r) → Nd rbL w1 r k' v' b' c.par rl.root rr.root → Only [(slot H c).block, r] w w1 →
      IsT rbL w2 (.node r (.node s l k v b rl) k' v' b' rr) c.par → Only (s :: r :: rl.ids) w1 w2 → St rbL w2 H c (.node r (.node s l k v b rl) k' v' b' rr) ∧ Only (allIds H c (.node s l k v b (.node r rl k' v' b' rr))) w w2 := by
    intro w1 w2 h1 h2 o1 h3 o2
    have hcs : ∀ y ∈ H.tb :: c.ids, y ∉ s :: r :: rl.ids := by
      intro y hy hm
      have : y ∉ BT.ids (.node s l k v b (.node r rl k' v' b' rr)) := by
        rcases List.mem_cons.1 hy with e | e
        · rw [e]; exact hdj.1
        · exact hdj.2 _ e
      simp only [BT.ids, List.mem_cons, List.mem_append, not_or] at this hm
      grind
    refine ⟨St.other sT (h1.only o2 (fun y hy => hcs y (by simp [hy])) (hcs _ (by simp))) h3 hperm, ?_⟩
    refine (o1.mono fun y _ hy => ?_).trans (o2.mono fun y _ hy => ?_)
    · simp only [List.mem_cons, List.not_mem_nil, or_false] at hy
      have hsb := slot_block H c
      simp only [allIds, BT.ids, List.mem_cons, List.mem_append] at hsb ⊢
      grind
    · simp only [allIds, BT.ids, List.mem_cons, List.mem_append] at hy ⊢
      grind
  have Rp := Lib.hid rp
  have Fin := Lib.hid fin
  have Hs := Lib.hid hs
  have Hl := Lib.hid hl
  have Hrl := Lib.hid hrl
  have Hrr := Lib.hid hrr
  have Hn := Lib.hid hnt
  have Hso := Lib.hid hso
  clear sT hic hxc hdj hperm hc rp fin hs hl hr hrr hnt hso
  cases rl with
  | nil =>
    clear hrl
    go_enter Tryz.func63, Tryz.ntmps63
    go_wp2_with fail
    refine Rp.out.mono ?_
    rintro e w1 ⟨rfl, h1, h2, o1⟩
    have s1 : Nd rbL w1 s k v b c.par l.root (some r) := Nd.same Hs.out (o1.block s (Nd.lt Hs.out) fun hm => (Hso.out s hm).2.2.2 rfl)
    have hr3 : w1.cell? ⟨r, 3, none⟩ = some (.pointer none) := (Nd.cells_ h2).2.2.1
    have hs4' : w1.cell? ⟨s, 4, none⟩ = some (.pointer (some ⟨r, 0, none⟩)) := (Nd.cells_ s1).2.2.2
    have hs5 : w1.cell? ⟨s, 5, none⟩ = some (ptr c.par) := s1.cellP
    have fs := Nd.frozen s1
    have fr := Nd.frozen h2
    have g1 := Nd.far (a := ⟨s, 5, none⟩) (Nd.setL (Nd.far (a := ⟨s, 4, none⟩) h2 hrs (.pointer none)) (some s)) hrs (.pointer (some ⟨r, 0, none⟩))
    have g2 := Nd.setP (L := rbL) (Nd.far (a := ⟨r, 3, none⟩) (Nd.setR s1 none) hsr (.pointer (some ⟨s, 0, none⟩))) (some r)
    have o2 : Only [s, r] w1 (((w1.setCell ⟨s, 4, none⟩ (.pointer none)).setCell ⟨r, 3, none⟩ (.pointer (some ⟨s, 0, none⟩))).setCell ⟨s, 5, none⟩ (.pointer (some ⟨r, 0, none⟩))) :=
      (((Only.refl _ _).setCell (.inl (by simp)) _).setCell (.inl (by simp)) _).setCell (.inl (by simp)) _
    have f := Fin.out w1 _ h1 h2 o1 (show IsT rbL (((w1.setCell ⟨s, 4, none⟩ (.pointer none)).setCell ⟨r, 3, none⟩ (.pointer (some ⟨s, 0, none⟩))).setCell ⟨s, 5, none⟩ (.pointer (some ⟨r, 0, none⟩))) (.node r (.node s l k v b .nil) k' v' b' rr) c.par from ?_) (o2.mono (by simp [BT.ids]))
    · have F := Lib.hid f
      clear f g1 g2 o2 s1 h1 h2 o1 Rp Fin
      go_wp2_with fail
      go_end0
      exact ⟨rfl, F.out⟩
    · have d1 := Hso.out
      have d2 := Hn.out
      have kl : IsT rbL w1 l (some s) := Hl.out.only o1 fun y hy hm => (d1 y hm).1 hy
      have kr : IsT rbL w1 rr (some r) := Hrr.out.only o1 fun y hy hm => (d1 y hm).2.2.1 hy
      have e1 : IsT rbL (((w1.setCell ⟨s, 4, none⟩ (.pointer none)).setCell ⟨r, 3, none⟩ (.pointer (some ⟨s, 0, none⟩))).setCell ⟨s, 5, none⟩ (.pointer (some ⟨r, 0, none⟩))) l (some s) := kl.only o2 (by simp only [BT.ids, List.mem_cons, List.not_mem_nil, or_false] at d2 ⊢; grind)
      have e2 : IsT rbL (((w1.setCell ⟨s, 4, none⟩ (.pointer none)).setCell ⟨r, 3, none⟩ (.pointer (some ⟨s, 0, none⟩))).setCell ⟨s, 5, none⟩ (.pointer (some ⟨r, 0, none⟩))) rr (some r) := kr.only o2 (by simp only [BT.ids, List.mem_cons, List.not_mem_nil, or_false] at d2 ⊢; grind)
      exact ⟨g1, ⟨g2, e1, trivial⟩, e2⟩
  | node x xl kx vx bx xr =>
    have hsx : ¬ s = x := by have := Hn.out; simp only [BT.ids] at this; grind
    have hxs : ¬ x = s := fun e => hsx e.symm
    have hrx : ¬ r = x := by have := Hn.out; simp only [BT.ids] at this; grind
    have hxr' : ¬ x = r := fun e => hrx e.symm
    clear hrl
    go_enter Tryz.func63, Tryz.ntmps63
    go_wp2_with fail
    refine Rp.out.mono ?_
    rintro e w1 ⟨rfl, h1, h2, o1⟩
    have s1 : Nd rbL w1 s k v b c.par l.root (some r) := Nd.same Hs.out (o1.block s (Nd.lt Hs.out) fun hm => (Hso.out s hm).2.2.2 rfl)
    obtain ⟨x1, kxl, kxr⟩ : IsT rbL w1 (.node x xl kx vx bx xr) (some r) := Hrl.out.only o1 fun y hy hm => (Hso.out y hm).2.1 hy
    have hr3 : w1.cell? ⟨r, 3, none⟩ = some (.pointer (some ⟨x, 0, none⟩)) := (Nd.cells_ h2).2.2.1
    have hs4' : w1.cell? ⟨s, 4, none⟩ = some (.pointer (some ⟨r, 0, none⟩)) := (Nd.cells_ s1).2.2.2
    have hs5 : w1.cell? ⟨s, 5, none⟩ = some (ptr c.par) := s1.cellP
    have hx5 : w1.cell? ⟨x, 5, none⟩ = some (.pointer (some ⟨r, 0, none⟩)) := x1.cellP
    have fs := Nd.frozen s1
    have fr := Nd.frozen h2
    have fx := Nd.frozen x1
    have g1 := Nd.far (a := ⟨s, 5, none⟩) (Nd.setL (Nd.far (a := ⟨x, 5, none⟩) (Nd.far (a := ⟨s, 4, none⟩) h2 hrs (.pointer (some ⟨x, 0, none⟩))) hrx (.pointer (some ⟨s, 0, none⟩))) (some s)) hrs (.pointer (some ⟨r, 0, none⟩))
    have g2 := Nd.setP (L := rbL) (Nd.far (a := ⟨r, 3, none⟩) (Nd.far (a := ⟨x, 5, none⟩) (Nd.setR s1 (some x)) hsx (.pointer (some ⟨s, 0, none⟩))) hsr (.pointer (some ⟨s, 0, none⟩))) (some r)
    have g3 := Nd.far (a := ⟨s, 5, none⟩) (Nd.far (a := ⟨r, 3, none⟩) (Nd.setP (L := rbL) (Nd.far (a := ⟨s, 4, none⟩) x1 hxs (.pointer (some ⟨x, 0, none⟩))) (some s)) hxr' (.pointer (some ⟨s, 0, none⟩))) hxs (.pointer (some ⟨r, 0, none⟩))
    have o2 : Only [s, r, x] w1 ((((w1.setCell ⟨s, 4, none⟩ (.pointer (some ⟨x, 0, none⟩))).setCell ⟨x, 5, none⟩ (.pointer (some ⟨s, 0, none⟩))).setCell ⟨r, 3, none⟩ (.pointer (some ⟨s, 0, none⟩))).setCell ⟨s, 5, none⟩ (.pointer (some ⟨r, 0, none⟩))) :=
      ((((Only.refl _ _).setCell (.inl (by simp)) _).setCell (.inl (by simp)) _).setCell (.inl (by simp)) _).setCell (.inl (by simp)) _
    have f := Fin.out w1 _ h1 h2 o1 (show IsT rbL ((((w1.setCell ⟨s, 4, none⟩ (.pointer (some ⟨x, 0, none⟩))).setCell ⟨x, 5, none⟩ (.pointer (some ⟨s, 0, none⟩))).setCell ⟨r, 3, none⟩ (.pointer (some ⟨s, 0, none⟩))).setCell ⟨s, 5, none⟩ (.pointer (some ⟨r, 0, none⟩))) (.node r (.node s l k v b (.node x xl kx vx bx xr)) k' v' b' rr) c.par from ?_) (o2.mono (by simp [BT.ids]; grind))
    · have F := Lib.hid f
      clear f g1 g2 g3 o2 s1 h1 h2 o1 x1 kxl kxr Rp Fin
      go_wp2_with fail
      go_end0
      exact ⟨rfl, F.out⟩
    · have d1 := Hso.out
      have d2 := Hn.out
      simp only [BT.ids, List.nodup_cons, List.nodup_append, List.mem_cons, List.mem_append, not_or] at d2
      have kl : IsT rbL w1 l (some s) := Hl.out.only o1 fun y hy hm => (d1 y hm).1 hy
      have kr : IsT rbL w1 rr (some r) := Hrr.out.only o1 fun y hy hm => (d1 y hm).2.2.1 hy
      have e1 := kl.only o2 (by simp only [List.mem_cons, List.not_mem_nil, or_false]; grind)
      have e2 := kr.only o2 (by simp only [List.mem_cons, List.not_mem_nil, or_false]; grind)
      have e3 := kxl.only o2 (by simp only [List.mem_cons, List.not_mem_nil, or_false]; grind)
      have e4 := kxr.only o2 (by simp only [List.mem_cons, List.not_mem_nil, or_false]; grind)
      exact ⟨g1, ⟨g2, e1, ⟨g3, e3, e4⟩⟩, e2⟩
theorem rotR_walk {w : World} {H : Hd} {c : Ctx} {s r : Nat} {l rl rr : BT} {k v b k' v' b' : Int} (sT : St rbL w H c (.node s (.node r rr k' v' b' rl) k v b l)) :
    Calls Tryz.prog 64 #[.pointer (some ⟨H.tb, 0, none⟩), .pointer (some ⟨s, 0, none⟩)] w fun e w' => e = .returned (.tuple #[]) ∧ St rbL w' H c (.node r rr k' v' b' (.node s rl k v b l)) ∧ Only (allIds H c (.node s (.node r rr k' v' b' rl) k v b l)) w w' := by
  have hic : s ∉ H.tb :: c.ids := fun hm => by
    have hd := sT.djc
    rcases List.mem_cons.1 hm with e | e
    · exact hd.1 (by simp [BT.ids, e])
    · exact hd.2 _ e (by simp [BT.ids])
  have hxc : r ∉ H.tb :: c.ids := fun hm => by
    have hd := sT.djc
    rcases List.mem_cons.1 hm with e | e
    · exact hd.1 (by simp [BT.ids, e])
    · exact hd.2 _ e (by simp [BT.ids])
  have hnt := sT.ndt
  have hdj := sT.djc
  have hperm : (BT.ids (.node r rr k' v' b' (.node s rl k v b l))).Perm (BT.ids (.node s (.node r rr k' v' b' rl) k v b l)) := by
    simp [List.perm_iff_count, BT.ids, List.count_cons]
    try omega
  have hc := sT.hc
  obtain ⟨hs, ⟨hr, hrr, hrl⟩, hl⟩ := sT.ht
  simp only [BT.ids, List.nodup_cons, List.mem_cons, List.mem_append, List.nodup_append, not_or] at hnt
  have hsr : ¬ s = r := by grind
  have hrs : ¬ r = s := by grind
  have hso : ∀ y ∈ [(slot H c).block, r], y ∉ l.ids ∧ y ∉ rl.ids ∧ y ∉ rr.ids ∧ y ≠ s := by
    intro y hy
    simp only [List.mem_cons, List.not_mem_nil, or_false] at hy
    have hsb := slot_block H c
    rcases hy with rfl | rfl
    · have h2 : (slot H c).block ∉ BT.ids (.node s (.node r rr k' v' b' rl) k v b l) := by
        rcases List.mem_cons.1 hsb with e | e
        · rw [e]; exact hdj.1
        · exact hdj.2 _ e
      simp only [BT.ids, List.mem_cons, List.mem_append, not_or] at h2
      grind
    · grind
  have rp := replace_some hc hs hr sT.ndc hic hxc hsr
  have h3 : w.cell? ⟨s, 3, none⟩ = some (.pointer (some ⟨r, 0, none⟩)) := (Nd.cells_ hs).2.2.1
  have fin : ∀ w1 w2, IsC rbL w1 H c (some r) → Nd rbL w1 r k' v' b' c.par rr.root rl.root → Only [(slot H c).block, r] w w1 →
      IsT rbL w2 (.node r rr k' v' b' (.node s rl k v b l)) c.par → Only (s :: r :: rl.ids) w1 w2 → St rbL w2 H c (.node r rr k' v' b' (.node s rl k v b l)) ∧ Only (allIds H c (.node s (.node r rr k' v' b' rl) k v b l)) w w2 := by
    intro w1 w2 h1 h2 o1 h3 o2
    have hcs : ∀ y ∈ H.tb :: c.ids, y ∉ s :: r :: rl.ids := by
      intro y hy hm
      have : y ∉ BT.ids (.node s (.node r rr k' v' b' rl) k v b l) := by
        rcases List.mem_cons.1 hy with e | e
        · rw [e]; exact hdj.1
        · exact hdj.2 _ e
      simp only [BT.ids, List.mem_cons, List.mem_append, not_or] at this hm
      grind
    refine ⟨St.other sT (h1.only o2 (fun y hy => hcs y (by simp [hy])) (hcs _ (by simp))) h3 hperm, ?_⟩
    refine (o1.mono fun y _ hy => ?_).trans (o2.mono fun y _ hy => ?_)
    · simp only [List.mem_cons, List.not_mem_nil, or_false] at hy
      have hsb := slot_block H c
      simp only [allIds, BT.ids, List.mem_cons, List.mem_append] at hsb ⊢
      grind
    · simp only [allIds, BT.ids, List.mem_cons, List.mem_append] at hy ⊢
      grind
  have Rp := Lib.hid rp
  have Fin := Lib.hid fin
  have Hs := Lib.hid hs
  have Hl := Lib.hid hl
  have Hrl := Lib.hid hrl
  have Hrr := Lib.hid hrr
  have Hn := Lib.hid hnt
  have Hso := Lib.hid hso
  clear sT hic hxc hdj hperm hc rp fin hs hl hr hrr hnt hso
  cases rl with
  | nil =>
    clear hrl
    go_enter Tryz.func64, Tryz.ntmps64
    go_wp2_with fail
    refine Rp.out.mono ?_
    rintro e w1 ⟨rfl, h1, h2, o1⟩
    have s1 : Nd rbL w1 s k v b c.par (some r) l.root := Nd.same Hs.out (o1.block s (Nd.lt Hs.out) fun hm => (Hso.out s hm).2.2.2 rfl)
    have hr4 : w1.cell? ⟨r, 4, none⟩ = some (.pointer none) := (Nd.cells_ h2).2.2.2
    have hs3' : w1.cell? ⟨s, 3, none⟩ = some (.pointer (some ⟨r, 0, none⟩)) := (Nd.cells_ s1).2.2.1
    have hs5 : w1.cell? ⟨s, 5, none⟩ = some (ptr c.par) := s1.cellP
    have fs := Nd.frozen s1
    have fr := Nd.frozen h2
    have g1 := Nd.far (a := ⟨s, 5, none⟩) (Nd.setR (Nd.far (a := ⟨s, 3, none⟩) h2 hrs (.pointer none)) (some s)) hrs (.pointer (some ⟨r, 0, none⟩))
    have g2 := Nd.setP (L := rbL) (Nd.far (a := ⟨r, 4, none⟩) (Nd.setL s1 none) hsr (.pointer (some ⟨s, 0, none⟩))) (some r)
    have o2 : Only [s, r] w1 (((w1.setCell ⟨s, 3, none⟩ (.pointer none)).setCell ⟨r, 4, none⟩ (.pointer (some ⟨s, 0, none⟩))).setCell ⟨s, 5, none⟩ (.pointer (some ⟨r, 0, none⟩))) :=
      (((Only.refl _ _).setCell (.inl (by simp)) _).setCell (.inl (by simp)) _).setCell (.inl (by simp)) _
    have f := Fin.out w1 _ h1 h2 o1 (show IsT rbL (((w1.setCell ⟨s, 3, none⟩ (.pointer none)).setCell ⟨r, 4, none⟩ (.pointer (some ⟨s, 0, none⟩))).setCell ⟨s, 5, none⟩ (.pointer (some ⟨r, 0, none⟩))) (.node r rr k' v' b' (.node s .nil k v b l)) c.par from ?_) (o2.mono (by simp [BT.ids]))
    · have F := Lib.hid f
      clear f g1 g2 o2 s1 h1 h2 o1 Rp Fin
      go_wp2_with fail
      go_end0
      exact ⟨rfl, F.out⟩
    · have d1 := Hso.out
      have d2 := Hn.out
      have kl : IsT rbL w1 l (some s) := Hl.out.only o1 fun y hy hm => (d1 y hm).1 hy
      have kr : IsT rbL w1 rr (some r) := Hrr.out.only o1 fun y hy hm => (d1 y hm).2.2.1 hy
      have e1 : IsT rbL (((w1.setCell ⟨s, 3, none⟩ (.pointer none)).setCell ⟨r, 4, none⟩ (.pointer (some ⟨s, 0, none⟩))).setCell ⟨s, 5, none⟩ (.pointer (some ⟨r, 0, none⟩))) l (some s) := kl.only o2 (by simp only [BT.ids, List.mem_cons, List.not_mem_nil, or_false] at d2 ⊢; grind)
      have e2 : IsT rbL (((w1.setCell ⟨s, 3, none⟩ (.pointer none)).setCell ⟨r, 4, none⟩ (.pointer (some ⟨s, 0, none⟩))).setCell ⟨s, 5, none⟩ (.pointer (some ⟨r, 0, none⟩))) rr (some r) := kr.only o2 (by simp only [BT.ids, List.mem_cons, List.not_mem_nil, or_false] at d2 ⊢; grind)
      exact ⟨g1, e2, ⟨g2, trivial, e1⟩⟩
  | node x xl kx vx bx xr =>
    have hsx : ¬ s = x := by have := Hn.out; simp only [BT.ids] at this; grind
    have hxs : ¬ x = s := fun e => hsx e.symm
    have hrx : ¬ r = x := by have := Hn.out; simp only [BT.ids] at this; grind
    have hxr' : ¬ x = r := fun e => hrx e.symm
    clear hrl
    go_enter Tryz.func64, Tryz.ntmps64
    go_wp2_with fail
    refine Rp.out.mono ?_
    rintro e w1 ⟨rfl, h1, h2, o1⟩
    have s1 : Nd rbL w1 s k v b c.par (some r) l.root := Nd.same Hs.out (o1.block s (Nd.lt Hs.out) fun hm => (Hso.out s hm).2.2.2 rfl)
    obtain ⟨x1, kxl, kxr⟩ : IsT rbL w1 (.node x xl kx vx bx xr) (some r) := Hrl.out.only o1 fun y hy hm => (Hso.out y hm).2.1 hy
    have hr4 : w1.cell? ⟨r, 4, none⟩ = some (.pointer (some ⟨x, 0, none⟩)) := (Nd.cells_ h2).2.2.2
    have hs3' : w1.cell? ⟨s, 3, none⟩ = some (.pointer (some ⟨r, 0, none⟩)) := (Nd.cells_ s1).2.2.1
    have hs5 : w1.cell? ⟨s, 5, none⟩ = some (ptr c.par) := s1.cellP
    have hx5 : w1.cell? ⟨x, 5, none⟩ = some (.pointer (some ⟨r, 0, none⟩)) := x1.cellP
    have fs := Nd.frozen s1
    have fr := Nd.frozen h2
    have fx := Nd.frozen x1
    have g1 := Nd.far (a := ⟨s, 5, none⟩) (Nd.setR (Nd.far (a := ⟨x, 5, none⟩) (Nd.far (a := ⟨s, 3, none⟩) h2 hrs (.pointer (some ⟨x, 0, none⟩))) hrx (.pointer (some ⟨s, 0, none⟩))) (some s)) hrs (.pointer (some ⟨r, 0, none⟩))
    have g2 := Nd.setP (L := rbL) (Nd.far (a := ⟨r, 4, none⟩) (Nd.far (a := ⟨x, 5, none⟩) (Nd.setL s1 (some x)) hsx (.pointer (some ⟨s, 0, none⟩))) hsr (.pointer (some ⟨s, 0, none⟩))) (some r)
    have g3 := Nd.far (a := ⟨s, 5, none⟩) (Nd.far (a := ⟨r, 4, none⟩) (Nd.setP (L := rbL) (Nd.far (a := ⟨s, 3, none⟩) x1 hxs (.pointer (some ⟨x, 0, none⟩))) (some s)) hxr' (.pointer (some ⟨s, 0, none⟩))) hxs (.pointer (some ⟨r, 0, none⟩))
    have o2 : Only [s, r, x] w1 ((((w1.setCell ⟨s, 3, none⟩ (.pointer (some ⟨x, 0, none⟩))).setCell ⟨x, 5, none⟩ (.pointer (some ⟨s, 0, none⟩))).setCell ⟨r, 4, none⟩ (.pointer (some ⟨s, 0, none⟩))).setCell ⟨s, 5, none⟩ (.pointer (some ⟨r, 0, none⟩))) :=
      ((((Only.refl _ _).setCell (.inl (by simp)) _).setCell (.inl (by simp)) _).setCell (.inl (by simp)) _).setCell (.inl (by simp)) _
    have f := Fin.out w1 _ h1 h2 o1 (show IsT rbL ((((w1.setCell ⟨s, 3, none⟩ (.pointer (some ⟨x, 0, none⟩))).setCell ⟨x, 5, none⟩ (.pointer (some ⟨s, 0, none⟩))).setCell ⟨r, 4, none⟩ (.pointer (some ⟨s, 0, none⟩))).setCell ⟨s, 5, none⟩ (.pointer (some ⟨r, 0, none⟩))) (.node r rr k' v' b' (.node s (.node x xl kx vx bx xr) k v b l)) c.par from ?_) (o2.mono (by simp [BT.ids]; grind))
    · have F := Lib.hid f
      clear f g1 g2 g3 o2 s1 h1 h2 o1 x1 kxl kxr Rp Fin
      go_wp2_with fail
      go_end0
      exact ⟨rfl, F.out⟩
    · have d1 := Hso.out
      have d2 := Hn.out
      simp only [BT.ids, List.nodup_cons, List.nodup_append, List.mem_cons, List.mem_append, not_or] at d2
      have kl : IsT rbL w1 l (some s) := Hl.out.only o1 fun y hy hm => (d1 y hm).1 hy
      have kr : IsT rbL w1 rr (some r) := Hrr.out.only o1 fun y hy hm => (d1 y hm).2.2.1 hy
      have e1 := kl.only o2 (by simp only [List.mem_cons, List.not_mem_nil, or_false]; grind)
      have e2 := kr.only o2 (by simp only [List.mem_cons, List.not_mem_nil, or_false]; grind)
      have e3 := kxl.only o2 (by simp only [List.mem_cons, List.not_mem_nil, or_false]; grind)
      have e4 := kxr.only o2 (by simp only [List.mem_cons, List.not_mem_nil, or_false]; grind)
      exact ⟨g1, e2, ⟨g2, ⟨g3, e3, e4⟩, e1⟩⟩
end Go.Proofs.YtbdcepkahdecjaaGreat.Rb
