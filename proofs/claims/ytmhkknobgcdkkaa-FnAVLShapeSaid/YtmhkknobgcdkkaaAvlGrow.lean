/-
  The AVL tree: putFix and removeFix in memory, at the place in which the tree hangs. (Printed by gen_avlfix.py: both sides alike.)
-/
import Derived.Test.YtmhkknobgcdkkaaAvlFix
namespace Go.Proofs.Ytmhkknobgcdkkaa
open Go.RowKit

theorem St.setB {w : World} {H : Hd} {c : Ctx} {i : Nat} {l r : BT} {k v b : Int} (s : St avlL w H c (.node i l k v b r)) (x : Int) :
    St avlL (w.setCell ⟨i, 5, none⟩ (.int .i8 x)) H c (.node i l k v x r) ∧ Only (allIds H c (.node i l k v b r)) w (w.setCell ⟨i, 5, none⟩ (.int .i8 x)) :=
  St.root_set s (Nd.setC (L := avlL) s.ht.1 x)

/-- The tree can be mended to the right, or to the left: the nodes that the turns look at are there. -/
def canR : BT → Prop
  | .node _ _ _ _ b r => b = 0 ∨ b = -1 ∨ (b = 1 ∧ ∃ i rl k' v' b' rr, r = .node i rl k' v' b' rr ∧ (b' = 1 ∨ (b' ≠ 1 ∧ ∃ q ql kq vq bq qr, rl = .node q ql kq vq bq qr)))
  | .nil => False
def canL : BT → Prop
  | .node _ l _ _ b _ => b = 0 ∨ b = 1 ∨ (b = -1 ∧ ∃ i rl k' v' b' rr, l = .node i rr k' v' b' rl ∧ (b' = -1 ∨ (b' ≠ -1 ∧ ∃ q ql kq vq bq qr, rl = .node q qr kq vq bq ql)))
  | .nil => False
/-- Likewise for taking out: a child that leans to no side will do. -/
def can0R : BT → Prop
  | .node _ _ _ _ b r => b = 0 ∨ b = -1 ∨ (b = 1 ∧ ∃ i rl k' v' b' rr, r = .node i rl k' v' b' rr ∧ (b' = 0 ∨ b' = 1 ∨ (b' ≠ 0 ∧ b' ≠ 1 ∧ ∃ q ql kq vq bq qr, rl = .node q ql kq vq bq qr)))
  | .nil => False
def can0L : BT → Prop
  | .node _ l _ _ b _ => b = 0 ∨ b = 1 ∨ (b = -1 ∧ ∃ i rl k' v' b' rr, l = .node i rr k' v' b' rl ∧ (b' = 0 ∨ b' = -1 ∨ (b' ≠ 0 ∧ b' ≠ -1 ∧ ∃ q ql kq vq bq qr, rl = .node q qr kq vq bq ql)))
  | .nil => False

theorem growR_walk {w : World} {H : Hd} {c : Ctx} {s : Nat} {l r : BT} {k v b : Int} (sT : St avlL w H c (.node s l k v b r)) (hcan : canR (.node s l k v b r)) :
    Calls Try.prog 77 #[.int .i8 1, .pointer (some (slot H c))] w fun e w' => e = .returned (.bool (Avl.growR (.node s l k v b r)).2) ∧ St avlL w' H c (Avl.growR (.node s l k v b r)).1 ∧ Only (allIds H c (.node s l k v b r)) w w' := by
  have hs5 := sT.ht.1.cellC
  have fs5 := sT.ht.1.frozen 5
  obtain ⟨hsl, hslf⟩ := sT.hc.slot_cell
  simp only [Lay.oc, Lay.cv, if_true, BT.root, ptr, Option.map_some] at hs5 hsl
  rcases hcan with hb | hb | ⟨hb, i, rl, k', v', b', rr, hr, hcan⟩
  · subst hb
    have fin := sT.setB 1
    have Fin := Lib.hid fin
    have e1 : Avl.growR (.node s l k v 0 r) = (.node s l k v 1 r, true) := by simp [Avl.growR]
    rw [e1]
    clear sT fin e1
    obtain ⟨sa, hsa⟩ : ∃ sa, slot H c = sa := ⟨_, rfl⟩
    rw [hsa] at hsl hslf ⊢
    clear hsa
    go_enter Try.func77, Try.ntmps77
    go_wp2_with fail
    go_ret
    exact ⟨rfl, Fin.out⟩
  · subst hb
    have fin := sT.setB 0
    have Fin := Lib.hid fin
    have e1 : Avl.growR (.node s l k v (-1) r) = (.node s l k v 0 r, false) := by simp [Avl.growR]
    rw [e1]
    clear sT fin e1
    obtain ⟨sa, hsa⟩ : ∃ sa, slot H c = sa := ⟨_, rfl⟩
    rw [hsa] at hsl hslf ⊢
    clear hsa
    go_enter Try.func77, Try.ntmps77
    go_wp2_with fail
    go_ret
    exact ⟨rfl, Fin.out⟩
  · subst hb hr
    have hs4 := (Nd.cells_ sT.ht.1).2.2.2
    have hr5 := sT.ht.2.2.1.cellC
    have hnt := sT.ndt
    have hsn := slot_not_mem sT.nd
    have hlt := sT.hc.lt
    have hsb := slot_block H c
    have hslt : (slot H c).block < w.heap.size := by
      rcases List.mem_cons.1 hsb with e | e
      · rw [e]; exact hlt.1
      · exact hlt.2 _ e
    have ht := sT.ht
    have reroot := fun (w1 : World) (t' : BT) h1 o hp => St.reroot (w1 := w1) (t' := t') sT h1 o hp
    simp only [Lay.oc, Lay.cv, if_true, BT.root, ptr, Option.map_some] at hr5 hs4 reroot
    obtain ⟨sa, hsa⟩ : ∃ sa, slot H c = sa := ⟨_, rfl⟩
    rw [hsa] at hsl hslf hsn hslt reroot ⊢
    have keep : ∀ w1, Only (BT.ids (.node s l k v 1 (.node i rl k' v' b' rr))) w w1 → w1.cell? sa = some (.pointer (some ⟨s, 0, none⟩)) ∧ w1.frozen? sa = false :=
      fun w1 o => ⟨(World.cell?_of_block (o.block _ hslt hsn)).trans hsl, (World.frozen?_of_block (o.block _ hslt hsn)).trans hslf⟩
    have Ht := Lib.hid ht
    have Hnt := Lib.hid hnt
    have Re := Lib.hid reroot
    have Keep := Lib.hid keep
    clear ht hnt reroot keep sT hsn hslt hlt hsb hsa
    rcases hcan with hb | ⟨hb, q, ql, kq, vq, bq, qr, hq⟩
    · subst hb
      have e1 : Avl.growR (.node s l k v 1 (.node i rl k' v' 1 rr)) = (.node i (.node s l k v 0 rl) k' v' 0 rr, false) := by simp [Avl.growR, Avl.bal, Avl.singleR]
      rw [e1]
      clear e1
      have rc := singleR_walk Ht.out Hnt.out
      have Rc := Lib.hid rc
      clear rc
      go_enter Try.func77, Try.ntmps77
      go_wp2_with fail
      refine Rc.out.mono ?_
      rintro e w1 ⟨rfl, h1, o1⟩
      obtain ⟨hk1, hk2⟩ := Keep.out _ o1
      have fin := Re.out _ (.node i (.node s l k v 0 rl) k' v' 0 rr) h1 o1 (by simp [List.perm_iff_count, BT.ids, List.count_cons]; omega)
      have Fin := Lib.hid fin
      clear h1 o1 fin
      go_wp2_with fail
      go_ret
      exact ⟨rfl, Fin.out⟩
    · subst hq
      have e1 : Avl.growR (.node s l k v 1 (.node i (.node q ql kq vq bq qr) k' v' b' rr)) = (.node q (.node s l k v (if bq = 1 then (-1 : Int) else 0) ql) kq vq 0 (.node i qr k' v' (if bq = -1 then (1 : Int) else 0) rr), false) := by simp [Avl.growR, Avl.bal, Avl.doubleR, hb]
      rw [e1]
      clear e1
      have rc := doubleR_walk Ht.out Hnt.out
      generalize (if bq = 1 then (-1 : Int) else 0) = xs at rc ⊢
      generalize (if bq = -1 then (1 : Int) else 0) = xr at rc ⊢
      have Rc := Lib.hid rc
      clear rc
      have hb1 : (b' == 1) = false := by simpa using hb
      clear hb
      go_enter Try.func77, Try.ntmps77
      go_wp2_with fail
      refine Rc.out.mono ?_
      rintro e w1 ⟨rfl, h1, o1⟩
      obtain ⟨hk1, hk2⟩ := Keep.out _ o1
      have fin := Re.out _ (.node q (.node s l k v xs ql) kq vq 0 (.node i qr k' v' xr rr)) h1 o1 (by simp [List.perm_iff_count, BT.ids, List.count_cons]; omega)
      have Fin := Lib.hid fin
      clear h1 o1 fin
      go_wp2_with fail
      go_ret
      exact ⟨rfl, Fin.out⟩

theorem growL_walk {w : World} {H : Hd} {c : Ctx} {s : Nat} {l r : BT} {k v b : Int} (sT : St avlL w H c (.node s r k v b l)) (hcan : canL (.node s r k v b l)) :
    Calls Try.prog 77 #[.int .i8 (-1), .pointer (some (slot H c))] w fun e w' => e = .returned (.bool (Avl.growL (.node s r k v b l)).2) ∧ St avlL w' H c (Avl.growL (.node s r k v b l)).1 ∧ Only (allIds H c (.node s r k v b l)) w w' := by
  have hs5 := sT.ht.1.cellC
  have fs5 := sT.ht.1.frozen 5
  obtain ⟨hsl, hslf⟩ := sT.hc.slot_cell
  simp only [Lay.oc, Lay.cv, if_true, BT.root, ptr, Option.map_some] at hs5 hsl
  rcases hcan with hb | hb | ⟨hb, i, rl, k', v', b', rr, hr, hcan⟩
  · subst hb
    have fin := sT.setB (-1)
    have Fin := Lib.hid fin
    have e1 : Avl.growL (.node s r k v 0 l) = (.node s r k v (-1) l, true) := by simp [Avl.growL]
    rw [e1]
    clear sT fin e1
    obtain ⟨sa, hsa⟩ : ∃ sa, slot H c = sa := ⟨_, rfl⟩
    rw [hsa] at hsl hslf ⊢
    clear hsa
    go_enter Try.func77, Try.ntmps77
    go_wp2_with fail
    go_ret
    exact ⟨rfl, Fin.out⟩
  · subst hb
    have fin := sT.setB 0
    have Fin := Lib.hid fin
    have e1 : Avl.growL (.node s r k v (1) l) = (.node s r k v 0 l, false) := by simp [Avl.growL]
    rw [e1]
    clear sT fin e1
    obtain ⟨sa, hsa⟩ : ∃ sa, slot H c = sa := ⟨_, rfl⟩
    rw [hsa] at hsl hslf ⊢
    clear hsa
    go_enter Try.func77, Try.ntmps77
    go_wp2_with fail
    go_ret
    exact ⟨rfl, Fin.out⟩
  · subst hb hr
    have hs3 := (Nd.cells_ sT.ht.1).2.2.1
    have hr5 := sT.ht.2.1.1.cellC
    have hnt := sT.ndt
    have hsn := slot_not_mem sT.nd
    have hlt := sT.hc.lt
    have hsb := slot_block H c
    have hslt : (slot H c).block < w.heap.size := by
      rcases List.mem_cons.1 hsb with e | e
      · rw [e]; exact hlt.1
      · exact hlt.2 _ e
    have ht := sT.ht
    have reroot := fun (w1 : World) (t' : BT) h1 o hp => St.reroot (w1 := w1) (t' := t') sT h1 o hp
    simp only [Lay.oc, Lay.cv, if_true, BT.root, ptr, Option.map_some] at hr5 hs3 reroot
    obtain ⟨sa, hsa⟩ : ∃ sa, slot H c = sa := ⟨_, rfl⟩
    rw [hsa] at hsl hslf hsn hslt reroot ⊢
    have keep : ∀ w1, Only (BT.ids (.node s (.node i rr k' v' b' rl) k v (-1) l)) w w1 → w1.cell? sa = some (.pointer (some ⟨s, 0, none⟩)) ∧ w1.frozen? sa = false :=
      fun w1 o => ⟨(World.cell?_of_block (o.block _ hslt hsn)).trans hsl, (World.frozen?_of_block (o.block _ hslt hsn)).trans hslf⟩
    have Ht := Lib.hid ht
    have Hnt := Lib.hid hnt
    have Re := Lib.hid reroot
    have Keep := Lib.hid keep
    clear ht hnt reroot keep sT hsn hslt hlt hsb hsa
    rcases hcan with hb | ⟨hb, q, ql, kq, vq, bq, qr, hq⟩
    · subst hb
      have e1 : Avl.growL (.node s (.node i rr k' v' (-1) rl) k v (-1) l) = (.node i rr k' v' 0 (.node s rl k v 0 l), false) := by simp [Avl.growL, Avl.bal, Avl.singleL]
      rw [e1]
      clear e1
      have rc := singleL_walk Ht.out Hnt.out
      have Rc := Lib.hid rc
      clear rc
      go_enter Try.func77, Try.ntmps77
      go_wp2_with fail
      refine Rc.out.mono ?_
      rintro e w1 ⟨rfl, h1, o1⟩
      obtain ⟨hk1, hk2⟩ := Keep.out _ o1
      have fin := Re.out _ (.node i rr k' v' 0 (.node s rl k v 0 l)) h1 o1 (by simp [List.perm_iff_count, BT.ids, List.count_cons]; omega)
      have Fin := Lib.hid fin
      clear h1 o1 fin
      go_wp2_with fail
      go_ret
      exact ⟨rfl, Fin.out⟩
    · subst hq
      have e1 : Avl.growL (.node s (.node i rr k' v' b' (.node q qr kq vq bq ql)) k v (-1) l) = (.node q (.node i rr k' v' (if bq = 1 then (-1 : Int) else 0) qr) kq vq 0 (.node s ql k v (if bq = -1 then (1 : Int) else 0) l), false) := by simp [Avl.growL, Avl.bal, Avl.doubleL, hb]
      rw [e1]
      clear e1
      have rc := doubleL_walk Ht.out Hnt.out
      generalize (if bq = -1 then (1 : Int) else 0) = xs at rc ⊢
      generalize (if bq = 1 then (-1 : Int) else 0) = xr at rc ⊢
      have Rc := Lib.hid rc
      clear rc
      have hb1 : (b' == (-1)) = false := by simpa using hb
      clear hb
      go_enter Try.func77, Try.ntmps77
      go_wp2_with fail
      refine Rc.out.mono ?_
      rintro e w1 ⟨rfl, h1, o1⟩
      obtain ⟨hk1, hk2⟩ := Keep.out _ o1
      have fin := Re.out _ (.node q (.node i rr k' v' xr qr) kq vq 0 (.node s ql k v xs l)) h1 o1 (by simp [List.perm_iff_count, BT.ids, List.count_cons]; omega)
      have Fin := Lib.hid fin
      clear h1 o1 fin
      go_wp2_with fail
      go_ret
      exact ⟨rfl, Fin.out⟩

theorem shrinkL_walk {w : World} {H : Hd} {c : Ctx} {s : Nat} {l r : BT} {k v b : Int} (sT : St avlL w H c (.node s l k v b r)) (hcan : can0R (.node s l k v b r)) :
    Calls Try.prog 79 #[.int .i8 1, .pointer (some (slot H c))] w fun e w' => e = .returned (.bool (Avl.shrinkL (.node s l k v b r)).2) ∧ St avlL w' H c (Avl.shrinkL (.node s l k v b r)).1 ∧ Only (allIds H c (.node s l k v b r)) w w' := by
  have hs5 := sT.ht.1.cellC
  have fs5 := sT.ht.1.frozen 5
  obtain ⟨hsl, hslf⟩ := sT.hc.slot_cell
  simp only [Lay.oc, Lay.cv, if_true, BT.root, ptr, Option.map_some] at hs5 hsl
  rcases hcan with hb | hb | ⟨hb, i, rl, k', v', b', rr, hr, hcan⟩
  · subst hb
    have fin := sT.setB 1
    have Fin := Lib.hid fin
    have e1 : Avl.shrinkL (.node s l k v 0 r) = (.node s l k v 1 r, false) := by simp [Avl.shrinkL]
    rw [e1]
    clear sT fin e1
    obtain ⟨sa, hsa⟩ : ∃ sa, slot H c = sa := ⟨_, rfl⟩
    rw [hsa] at hsl hslf ⊢
    clear hsa
    go_enter Try.func79, Try.ntmps79
    go_wp2_with fail
    go_ret
    exact ⟨rfl, Fin.out⟩
  · subst hb
    have fin := sT.setB 0
    have Fin := Lib.hid fin
    have e1 : Avl.shrinkL (.node s l k v (-1) r) = (.node s l k v 0 r, true) := by simp [Avl.shrinkL]
    rw [e1]
    clear sT fin e1
    obtain ⟨sa, hsa⟩ : ∃ sa, slot H c = sa := ⟨_, rfl⟩
    rw [hsa] at hsl hslf ⊢
    clear hsa
    go_enter Try.func79, Try.ntmps79
    go_wp2_with fail
    go_ret
    exact ⟨rfl, Fin.out⟩
  · subst hb hr
    have hs4 := (Nd.cells_ sT.ht.1).2.2.2
    have hr5 := sT.ht.2.2.1.cellC
    have hnt := sT.ndt
    have hsn := slot_not_mem sT.nd
    have hlt := sT.hc.lt
    have hsb := slot_block H c
    have hslt : (slot H c).block < w.heap.size := by
      rcases List.mem_cons.1 hsb with e | e
      · rw [e]; exact hlt.1
      · exact hlt.2 _ e
    have ht := sT.ht
    have reroot := fun (w1 : World) (t' : BT) h1 o hp => St.reroot (w1 := w1) (t' := t') sT h1 o hp
    simp only [Lay.oc, Lay.cv, if_true, BT.root, ptr, Option.map_some] at hr5 hs4 reroot
    obtain ⟨sa, hsa⟩ : ∃ sa, slot H c = sa := ⟨_, rfl⟩
    rw [hsa] at hsl hslf hsn hslt reroot ⊢
    have keep : ∀ w1, Only (BT.ids (.node s l k v 1 (.node i rl k' v' b' rr))) w w1 → w1.cell? sa = some (.pointer (some ⟨s, 0, none⟩)) ∧ w1.frozen? sa = false :=
      fun w1 o => ⟨(World.cell?_of_block (o.block _ hslt hsn)).trans hsl, (World.frozen?_of_block (o.block _ hslt hsn)).trans hslf⟩
    have Ht := Lib.hid ht
    have Hnt := Lib.hid hnt
    have Re := Lib.hid reroot
    have Keep := Lib.hid keep
    clear ht hnt reroot keep sT hsn hslt hlt hsb hsa
    rcases hcan with hb | hb | ⟨hb0, hb, q, ql, kq, vq, bq, qr, hq⟩
    · subst hb
      have e1 : Avl.shrinkL (.node s l k v 1 (.node i rl k' v' 0 rr)) = (.node i (.node s l k v 1 rl) k' v' (-1) rr, false) := by simp [Avl.shrinkL]
      rw [e1]
      clear e1
      have rc := rotR_walk Ht.out Hnt.out
      have Rc := Lib.hid rc
      clear rc
      go_enter Try.func79, Try.ntmps79
      go_wp2_with fail
      refine Rc.out.mono ?_
      rintro e w1 ⟨rfl, h1, o1⟩
      have hi5 := h1.1.cellC
      have fi5 := h1.1.frozen 5
      simp only [Lay.oc, Lay.cv, if_true] at hi5
      have hn1 : (BT.ids (.node i (.node s l k v 1 rl) k' v' 0 rr)).Nodup := by
        refine List.Perm.nodup ?_ Hnt.out
        simp [List.perm_iff_count, BT.ids, List.count_cons]
        omega
      have o2 : Only (BT.ids (.node s l k v 1 (.node i rl k' v' 0 rr))) w (w1.setCell ⟨i, 5, none⟩ (.int .i8 (-1))) := o1.setCell (.inl (by simp [BT.ids])) _
      obtain ⟨hk1, hk2⟩ := Keep.out _ o2
      have fin := Re.out _ (.node i (.node s l k v 1 rl) k' v' (-1) rr) (IsT.setC h1 hn1 (-1)) o2 (by simp [List.perm_iff_count, BT.ids, List.count_cons]; omega)
      have Fin := Lib.hid fin
      clear h1 o1 hn1 o2 fin
      go_wp2_with fail
      go_ret
      exact ⟨rfl, Fin.out⟩
    · subst hb
      have e1 : Avl.shrinkL (.node s l k v 1 (.node i rl k' v' 1 rr)) = (.node i (.node s l k v 0 rl) k' v' 0 rr, true) := by simp [Avl.shrinkL, Avl.singleR]
      rw [e1]
      clear e1
      have rc := singleR_walk Ht.out Hnt.out
      have Rc := Lib.hid rc
      clear rc
      go_enter Try.func79, Try.ntmps79
      go_wp2_with fail
      refine Rc.out.mono ?_
      rintro e w1 ⟨rfl, h1, o1⟩
      obtain ⟨hk1, hk2⟩ := Keep.out _ o1
      have fin := Re.out _ (.node i (.node s l k v 0 rl) k' v' 0 rr) h1 o1 (by simp [List.perm_iff_count, BT.ids, List.count_cons]; omega)
      have Fin := Lib.hid fin
      clear h1 o1 fin
      go_wp2_with fail
      go_ret
      exact ⟨rfl, Fin.out⟩
    · subst hq
      have e1 : Avl.shrinkL (.node s l k v 1 (.node i (.node q ql kq vq bq qr) k' v' b' rr)) = (.node q (.node s l k v (if bq = 1 then (-1 : Int) else 0) ql) kq vq 0 (.node i qr k' v' (if bq = -1 then (1 : Int) else 0) rr), true) := by simp [Avl.shrinkL, Avl.doubleR, hb0, hb]
      rw [e1]
      clear e1
      have rc := doubleR_walk Ht.out Hnt.out
      generalize (if bq = 1 then (-1 : Int) else 0) = xs at rc ⊢
      generalize (if bq = -1 then (1 : Int) else 0) = xr at rc ⊢
      have Rc := Lib.hid rc
      clear rc
      have hb1 : (b' == 1) = false := by simpa using hb
      have hb2 : (b' == 0) = false := by simpa using hb0
      clear hb hb0
      go_enter Try.func79, Try.ntmps79
      go_wp2_with fail
      refine Rc.out.mono ?_
      rintro e w1 ⟨rfl, h1, o1⟩
      obtain ⟨hk1, hk2⟩ := Keep.out _ o1
      have fin := Re.out _ (.node q (.node s l k v xs ql) kq vq 0 (.node i qr k' v' xr rr)) h1 o1 (by simp [List.perm_iff_count, BT.ids, List.count_cons]; omega)
      have Fin := Lib.hid fin
      clear h1 o1 fin
      go_wp2_with fail
      go_ret
      exact ⟨rfl, Fin.out⟩

theorem shrinkR_walk {w : World} {H : Hd} {c : Ctx} {s : Nat} {l r : BT} {k v b : Int} (sT : St avlL w H c (.node s r k v b l)) (hcan : can0L (.node s r k v b l)) :
    Calls Try.prog 79 #[.int .i8 (-1), .pointer (some (slot H c))] w fun e w' => e = .returned (.bool (Avl.shrinkR (.node s r k v b l)).2) ∧ St avlL w' H c (Avl.shrinkR (.node s r k v b l)).1 ∧ Only (allIds H c (.node s r k v b l)) w w' := by
  have hs5 := sT.ht.1.cellC
  have fs5 := sT.ht.1.frozen 5
  obtain ⟨hsl, hslf⟩ := sT.hc.slot_cell
  simp only [Lay.oc, Lay.cv, if_true, BT.root, ptr, Option.map_some] at hs5 hsl
  rcases hcan with hb | hb | ⟨hb, i, rl, k', v', b', rr, hr, hcan⟩
  · subst hb
    have fin := sT.setB (-1)
    have Fin := Lib.hid fin
    have e1 : Avl.shrinkR (.node s r k v 0 l) = (.node s r k v (-1) l, false) := by simp [Avl.shrinkR]
    rw [e1]
    clear sT fin e1
    obtain ⟨sa, hsa⟩ : ∃ sa, slot H c = sa := ⟨_, rfl⟩
    rw [hsa] at hsl hslf ⊢
    clear hsa
    go_enter Try.func79, Try.ntmps79
    go_wp2_with fail
    go_ret
    exact ⟨rfl, Fin.out⟩
  · subst hb
    have fin := sT.setB 0
    have Fin := Lib.hid fin
    have e1 : Avl.shrinkR (.node s r k v (1) l) = (.node s r k v 0 l, true) := by simp [Avl.shrinkR]
    rw [e1]
    clear sT fin e1
    obtain ⟨sa, hsa⟩ : ∃ sa, slot H c = sa := ⟨_, rfl⟩
    rw [hsa] at hsl hslf ⊢
    clear hsa
    go_enter Try.func79, Try.ntmps79
    go_wp2_with fail
    go_ret
    exact ⟨rfl, Fin.out⟩
  · subst hb hr
    have hs3 := (Nd.cells_ sT.ht.1).2.2.1
    have hr5 := sT.ht.2.1.1.cellC
    have hnt := sT.ndt
    have hsn := slot_not_mem sT.nd
    have hlt := sT.hc.lt
    have hsb := slot_block H c
    have hslt : (slot H c).block < w.heap.size := by
      rcases List.mem_cons.1 hsb with e | e
      · rw [e]; exact hlt.1
      · exact hlt.2 _ e
    have ht := sT.ht
    have reroot := fun (w1 : World) (t' : BT) h1 o hp => St.reroot (w1 := w1) (t' := t') sT h1 o hp
    simp only [Lay.oc, Lay.cv, if_true, BT.root, ptr, Option.map_some] at hr5 hs3 reroot
    obtain ⟨sa, hsa⟩ : ∃ sa, slot H c = sa := ⟨_, rfl⟩
    rw [hsa] at hsl hslf hsn hslt reroot ⊢
    have keep : ∀ w1, Only (BT.ids (.node s (.node i rr k' v' b' rl) k v (-1) l)) w w1 → w1.cell? sa = some (.pointer (some ⟨s, 0, none⟩)) ∧ w1.frozen? sa = false :=
      fun w1 o => ⟨(World.cell?_of_block (o.block _ hslt hsn)).trans hsl, (World.frozen?_of_block (o.block _ hslt hsn)).trans hslf⟩
    have Ht := Lib.hid ht
    have Hnt := Lib.hid hnt
    have Re := Lib.hid reroot
    have Keep := Lib.hid keep
    clear ht hnt reroot keep sT hsn hslt hlt hsb hsa
    rcases hcan with hb | hb | ⟨hb0, hb, q, ql, kq, vq, bq, qr, hq⟩
    · subst hb
      have e1 : Avl.shrinkR (.node s (.node i rr k' v' 0 rl) k v (-1) l) = (.node i rr k' v' (1) (.node s rl k v (-1) l), false) := by simp [Avl.shrinkR]
      rw [e1]
      clear e1
      have rc := rotL_walk Ht.out Hnt.out
      have Rc := Lib.hid rc
      clear rc
      go_enter Try.func79, Try.ntmps79
      go_wp2_with fail
      refine Rc.out.mono ?_
      rintro e w1 ⟨rfl, h1, o1⟩
      have hi5 := h1.1.cellC
      have fi5 := h1.1.frozen 5
      simp only [Lay.oc, Lay.cv, if_true] at hi5
      have hn1 : (BT.ids (.node i rr k' v' 0 (.node s rl k v (-1) l))).Nodup := by
        refine List.Perm.nodup ?_ Hnt.out
        simp [List.perm_iff_count, BT.ids, List.count_cons]
        omega
      have o2 : Only (BT.ids (.node s (.node i rr k' v' 0 rl) k v (-1) l)) w (w1.setCell ⟨i, 5, none⟩ (.int .i8 (1))) := o1.setCell (.inl (by simp [BT.ids])) _
      obtain ⟨hk1, hk2⟩ := Keep.out _ o2
      have fin := Re.out _ (.node i rr k' v' (1) (.node s rl k v (-1) l)) (IsT.setC h1 hn1 (1)) o2 (by simp [List.perm_iff_count, BT.ids, List.count_cons]; omega)
      have Fin := Lib.hid fin
      clear h1 o1 hn1 o2 fin
      go_wp2_with fail
      go_ret
      exact ⟨rfl, Fin.out⟩
    · subst hb
      have e1 : Avl.shrinkR (.node s (.node i rr k' v' (-1) rl) k v (-1) l) = (.node i rr k' v' 0 (.node s rl k v 0 l), true) := by simp [Avl.shrinkR, Avl.singleL]
      rw [e1]
      clear e1
      have rc := singleL_walk Ht.out Hnt.out
      have Rc := Lib.hid rc
      clear rc
      go_enter Try.func79, Try.ntmps79
      go_wp2_with fail
      refine Rc.out.mono ?_
      rintro e w1 ⟨rfl, h1, o1⟩
      obtain ⟨hk1, hk2⟩ := Keep.out _ o1
      have fin := Re.out _ (.node i rr k' v' 0 (.node s rl k v 0 l)) h1 o1 (by simp [List.perm_iff_count, BT.ids, List.count_cons]; omega)
      have Fin := Lib.hid fin
      clear h1 o1 fin
      go_wp2_with fail
      go_ret
      exact ⟨rfl, Fin.out⟩
    · subst hq
      have e1 : Avl.shrinkR (.node s (.node i rr k' v' b' (.node q qr kq vq bq ql)) k v (-1) l) = (.node q (.node i rr k' v' (if bq = 1 then (-1 : Int) else 0) qr) kq vq 0 (.node s ql k v (if bq = -1 then (1 : Int) else 0) l), true) := by simp [Avl.shrinkR, Avl.doubleL, hb0, hb]
      rw [e1]
      clear e1
      have rc := doubleL_walk Ht.out Hnt.out
      generalize (if bq = -1 then (1 : Int) else 0) = xs at rc ⊢
      generalize (if bq = 1 then (-1 : Int) else 0) = xr at rc ⊢
      have Rc := Lib.hid rc
      clear rc
      have hb1 : (b' == (-1)) = false := by simpa using hb
      have hb2 : (b' == 0) = false := by simpa using hb0
      clear hb hb0
      go_enter Try.func79, Try.ntmps79
      go_wp2_with fail
      refine Rc.out.mono ?_
      rintro e w1 ⟨rfl, h1, o1⟩
      obtain ⟨hk1, hk2⟩ := Keep.out _ o1
      have fin := Re.out _ (.node q (.node i rr k' v' xr qr) kq vq 0 (.node s ql k v xs l)) h1 o1 (by simp [List.perm_iff_count, BT.ids, List.count_cons]; omega)
      have Fin := Lib.hid fin
      clear h1 o1 fin
      go_wp2_with fail
      go_ret
      exact ⟨rfl, Fin.out⟩

end Go.Proofs.Ytmhkknobgcdkkaa
