/-
  The AVL tree: remove, in memory, is the remove of the plain side. (Printed by gen_avlrem.py.)
-/
import Derived.Test.YtmhkknobgcdkkaaAvlMin
namespace Go.Proofs.Ytmhkknobgcdkkaa
open Go.RowKit

/-- What remove leaves. -/
def RemPost (o : Ord) (k : Int) (H : Hd) (c : Ctx) (t : BT) (w : World) (e : Ending) (w' : World) : Prop :=
  e = .returned (.bool (Avl.remove o k t).2) ∧ St avlL w' { H with size := H.size - if Avl.has o k t then 1 else 0 } c (Avl.remove o k t).1 ∧ Only (allIds H c t) w w'

set_option maxHeartbeats 2000000 in
theorem remove_walk (o : Ord) (ho : o.fine) (ob : Nat) (k : Int) (t : BT) : ∀ (c : Ctx) (w : World) (H : Hd), St avlL w H c t → Avl.ok t → H.cmp = cmpv ob → OrdAt w ob o → ob ∉ allIds H c t → 0 ≤ H.size → H.size ≤ 1000000 →
    Calls Try.prog 76 #[.pointer (some ⟨H.tb, 0, none⟩), .iface 3 (.int .i64 k), .pointer (some (slot H c))] w (RemPost o k H c t w) := by
  induction t with
  | nil =>
    intro c w H sT _ hcmp hob hobn hs0 hs1
    obtain ⟨hsl, hslf⟩ := sT.hc.slot_cell
    simp only [BT.root, ptr, Option.map_none] at hsl
    have fin : RemPost o k H c .nil w (.returned (.bool false)) w := ⟨rfl, by simpa [Avl.has, Avl.remove] using sT, Only.refl _ _⟩
    have Fin := Lib.hid fin
    clear fin sT hcmp hob hobn
    generalize slot H c = sa at *
    go_enter Try.func76, Try.ntmps76
    go_wp2_with fail
    go_ret
    exact Fin.out
  | node i l k' v' b r ihl ihr =>
    intro c w H sT hok hcmp hob hobn hs0 hs1
    obtain ⟨hsl, hslf⟩ := sT.hc.slot_cell
    obtain ⟨_, hh1, _⟩ := sT.hc.header
    obtain ⟨hk0, hv0, _, _⟩ := sT.ht.1.cells_
    simp only [BT.root, ptr, Option.map_some, Lay.om, if_true, hcmp] at hsl hh1 hk0 hv0
    rcases Int.lt_trichotomy (o.rk k) (o.rk k') with hlt | he | hgt
    · have ih := fun (w1 : World) (st : St avlL w1 H (.lf i k' v' b r :: c) l) (h1 : OrdAt w1 ob o) => ihl (.lf i k' v' b r :: c) w1 H st hok.1 hcmp h1 (by simp only [allIds, Ctx.ids, Fr.ids, BT.ids, List.mem_cons, List.mem_append, not_or] at hobn ⊢; grind) hs0 hs1
      simp only [slot] at ih
      have gw := fun (w2 : World) (x : Int) (st : St avlL w2 { H with size := x } c (.node i (Avl.remove o k l).1 k' v' b r)) (hf : (Avl.remove o k l).2 = true) =>
        shrinkL_walk st (can0R_of (h0 := Avl.ht l) hok.2.1 hok.2.2.1 hok.2.2.2.1 hok.2.2.2.2 (by have := (Avl.remove_ok (o := o) (k := k) hok.1).2; rw [hf] at this; simp only [if_true] at this; omega))
      simp only [slot_size] at gw
      have fin0 := fun (w3 : World) (q : Nat) (w2 : World) (hf : (Avl.remove o k l).2 = false) (o2 : Only (allIds H (.lf i k' v' b r :: c) l) (w.drewN q) w2) (st2 : St avlL w2 { H with size := H.size - if Avl.has o k l then 1 else 0 } (.lf i k' v' b r :: c) (Avl.remove o k l).1) (hw : w3 = w2) =>
        show RemPost o k H c (.node i l k' v' b r) w (.returned (.bool false)) w3 from by
          subst hw
          have e1 : Avl.remove o k (.node i l k' v' b r) = ((.node i (Avl.remove o k l).1 k' v' b r), false) := by rw [Avl.remove_left hlt, if_neg (by simp [hf])]
          refine ⟨by rw [e1], by rw [e1, Avl.has_left hlt]; exact st2.upL, ?_⟩
          exact ((Only.refl _ w).drewN q).trans' o2 (fun x _ hx => by simp only [allIds, Ctx.ids, Fr.ids, BT.ids, List.mem_cons, List.mem_append] at hx ⊢; grind)
      have fin1 := fun (w3 : World) (q : Nat) (w2 : World) (hf : (Avl.remove o k l).2 = true) (o2 : Only (allIds H (.lf i k' v' b r :: c) l) (w.drewN q) w2)
          (st3 : St avlL w3 { H with size := H.size - if Avl.has o k l then 1 else 0 } c (Avl.shrinkL (.node i (Avl.remove o k l).1 k' v' b r)).1) (o3 : Only (allIds { H with size := H.size - if Avl.has o k l then 1 else 0 } c (.node i (Avl.remove o k l).1 k' v' b r)) w2 w3) =>
        show RemPost o k H c (.node i l k' v' b r) w (.returned (.bool (Avl.shrinkL (.node i (Avl.remove o k l).1 k' v' b r)).2)) w3 from by
          have e1 : Avl.remove o k (.node i l k' v' b r) = Avl.shrinkL (.node i (Avl.remove o k l).1 k' v' b r) := by rw [Avl.remove_left hlt, if_pos hf]
          refine ⟨by rw [e1], by rw [e1, Avl.has_left hlt]; exact st3, ?_⟩
          refine (((Only.refl _ w).drewN q).trans' o2 (fun x _ hx => by simp only [allIds, Ctx.ids, Fr.ids, BT.ids, List.mem_cons, List.mem_append] at hx ⊢; grind)).trans' o3 (fun x hx hm => ?_)
          simp only [allIds, BT.ids, List.mem_cons, List.mem_append] at hm ⊢
          have := fun h => Avl.mem_ids_remove (o := o) (k := k) (t := l) (b := x) h
          grind
      have by1 := fun (w1 : World) (h1 : OrdAt w1 ob o) => by1_lt o ob k k' w1 ho h1 hlt
      have By := Lib.hid by1
      have Ih := Lib.hid ih
      have Gw := Lib.hid gw
      have F0 := Lib.hid fin0
      have F1 := Lib.hid fin1
      have ST := Lib.hid sT
      have Ob := Lib.hid hob
      clear by1 ih gw fin0 fin1 sT hob ihl ihr hok hobn hlt hcmp
      generalize slot H c = sa at *
      go_enter Try.func76, Try.ntmps76
      go_wp2_with fail
      go_quiet ((go_at_call 44; exact Calls.quiet_of (By.out _ Ob.out)))
      go_wp2_with fail
      refine (Ih.out _ (ST.out.drewN nq).downL (Ob.out.drewN nq)).mono ?_
      rintro e w2 ⟨rfl, st2, o2⟩
      cases hf : (Avl.remove o k l).2 with
      | true =>
        have G := Lib.hid (Gw.out _ _ st2.upL hf)
        have O2 := Lib.hid o2
        have Hf := Lib.hid hf
        clear st2 o2 hf
        go_wp2_with fail
        refine G.out.mono ?_
        rintro e w3 ⟨rfl, st3, o3⟩
        have St3 := Lib.hid st3
        have O3 := Lib.hid o3
        clear st3 o3
        go_wp2_with fail
        go_ret
        exact F1.out _ _ _ Hf.out O2.out St3.out O3.out
      | false =>
        have St2 := Lib.hid st2
        have O2 := Lib.hid o2
        have Hf := Lib.hid hf
        clear st2 o2 hf
        go_wp2_with fail
        go_ret
        exact F0.out _ _ _ Hf.out O2.out St2.out rfl
    · have by1 := fun (w1 : World) (h1 : OrdAt w1 ob o) => by1_eq o ob k k' w1 ho h1 he
      have hhas : Avl.has o k (.node i l k' v' b r) = true := Avl.has_here he
      by_cases hr : r = .nil
      · subst hr
        have e1 : Avl.remove o k (.node i l k' v' b .nil) = (l, true) := Avl.remove_last he
        cases l with
        | nil =>
          have all := fun (w1 : World) (st : St avlL w1 H c (.node i .nil k' v' b .nil)) =>
            let s1 := (st.size_set (H.size - 1))
            let s2 := s1.1.lift_nil
            And.intro (And.intro s2.1 (s1.2.trans' s2.2 (fun x _ hx => hx))) (And.intro s1.1.hc.slot_cell (And.intro st.hc.header (And.intro (st.ht.1.cells_) st.djc.1)))
          simp only [slot_size, BT.root, ptr, Option.map_some, Option.map_none, Lay.os, Lay.om, if_true, BT.ids, List.mem_cons, List.append_nil, List.not_mem_nil, or_false] at all
          have fin := fun (q : Nat) (w3 : World) (h : St avlL w3 { H with size := H.size - 1 } c .nil ∧ Only (allIds H c (.node i .nil k' v' b .nil)) (w.drewN q) w3) =>
            show RemPost o k H c (.node i .nil k' v' b .nil) w (.returned (.bool true)) w3 from
              ⟨by rw [e1], by rw [e1, hhas]; exact h.1, ((Only.refl _ w).drewN q).trans h.2⟩
          have By := Lib.hid by1
          have All := Lib.hid all
          have Fin := Lib.hid fin
          have ST := Lib.hid sT
          have Ob := Lib.hid hob
          clear by1 all fin sT hob ihl ihr hok hobn he hcmp e1 hhas
          generalize slot H c = sa at *
          go_enter Try.func76, Try.ntmps76
          go_wp2_with fail
          go_quiet ((go_at_call 44; exact Calls.quiet_of (By.out _ Ob.out)))
          clear hsl hslf hh1 hk0 hv0
          obtain ⟨f1, ⟨f2, f3⟩, ⟨f4, f5, f6⟩, ⟨f7, f8, f9, f10⟩, f11⟩ := All.out _ (ST.out.drewN nq)
          have F1 := Lib.hid (Fin.out nq _ f1)
          generalize w.drewN nq = w1 at *
          clear f1
          go_wp2_with fail
          go_ret
          exact F1.out
        | node x xl kx vx bx xr =>
          have hnt := sT.ndt
          have hsub : ∀ b' ∈ BT.ids (.node x xl kx vx bx xr), b' ∈ BT.ids (.node i (.node x xl kx vx bx xr) k' v' b .nil) := fun b' hb' => by
            simp only [BT.ids, List.mem_cons, List.mem_append, List.not_mem_nil, or_false] at hb' ⊢; exact .inr hb'
          have hnx : (BT.ids (.node x xl kx vx bx xr)).Nodup := by
            simp only [BT.ids, List.nodup_cons, List.append_nil] at hnt ⊢; exact hnt.2
          have hxi : ¬ i = x := by
            simp only [BT.ids, List.nodup_cons, List.append_nil, List.mem_cons, not_or] at hnt; exact fun e => hnt.1.1 e
          have hix : ¬ x = i := fun e => hxi e.symm
          have htb := sT.djc.1
          simp only [BT.ids, List.mem_cons, List.append_nil, not_or] at htb
          have hti : ¬ H.tb = i := htb.1
          have htx : ¬ H.tb = x := htb.2.1
          have hit : ¬ i = H.tb := fun e => hti e.symm
          have hxt : ¬ x = H.tb := fun e => htx e.symm
          have all := fun (w1 : World) (st : St avlL w1 H c (.node i (.node x xl kx vx bx xr) k' v' b .nil)) =>
            let s1 := (st.size_set (H.size - 1))
            let s2 := s1.1.lift (s1.1.ht.2.1) hsub hnx
            And.intro (And.intro s2.1 (s1.2.trans' s2.2 (fun x _ hx => hx))) (And.intro (And.intro ((World.cell?_setCell_other (w1.setCell ⟨H.tb, avlL.os, none⟩ (.int .i64 (H.size - 1))) ⟨x, 2, none⟩ (slot { H with size := H.size - 1 } c) (ptr c.par) (fun e => slot_not_mem s1.1.nd (by rw [← e]; simp [BT.ids]))).trans s1.1.hc.slot_cell.1) s1.1.hc.slot_cell.2)
              (And.intro st.hc.header (And.intro (And.intro st.ht.1.cells_ (And.intro st.ht.1.cellP (st.ht.1.frozen 2))) (And.intro (And.intro st.ht.2.1.1.cellP (st.ht.2.1.1.frozen 2)) st.hc.slot_cell))))
          simp only [slot_size, BT.root, ptr, Option.map_some, Option.map_none, Lay.os, Lay.om, Lay.op, if_true] at all
          have fin := fun (q : Nat) (w3 : World) (h : St avlL w3 { H with size := H.size - 1 } c (.node x xl kx vx bx xr) ∧ Only (allIds H c (.node i (.node x xl kx vx bx xr) k' v' b .nil)) (w.drewN q) w3) =>
            show RemPost o k H c (.node i (.node x xl kx vx bx xr) k' v' b .nil) w (.returned (.bool true)) w3.drew from
              ⟨by rw [e1], by rw [e1, hhas]; exact h.1.drew, (((Only.refl _ w).drewN q).trans h.2).drew⟩
          have By := Lib.hid by1
          have All := Lib.hid all
          have Fin := Lib.hid fin
          have ST := Lib.hid sT
          have Ob := Lib.hid hob
          clear by1 all fin sT hob ihl ihr hok hobn he hcmp e1 hhas hnt hsub hnx htb
          generalize slot H c = sa at *
          generalize Ctx.par c = cp at *
          go_enter Try.func76, Try.ntmps76
          go_wp2_with fail
          go_quiet ((go_at_call 44; exact Calls.quiet_of (By.out _ Ob.out)))
          clear hsl hslf hh1 hk0 hv0
          obtain ⟨f1, ⟨f2, f3⟩, ⟨f4, f5, f6⟩, ⟨⟨f7, f8, f9, f10⟩, f11, f12⟩, ⟨f13, f14⟩, f15, f16⟩ := All.out _ (ST.out.drewN nq)
          have F1 := Lib.hid (Fin.out nq _ f1)
          generalize w.drewN nq = w1 at *
          clear f1
          go_wp2_with fail
          go_region
          go_wp2_with fail
          go_ret
          exact F1.out
      · have e1 := Avl.remove_found (o := o) (k := k) (i := i) (l := l) (k' := k') (v' := v') (b := b) he hr
        obtain ⟨i2, l2, k2, v2, b2, r2, hr2⟩ : ∃ i2 l2 k2 v2 b2 r2, r = .node i2 l2 k2 v2 b2 r2 := by
          cases r with
          | nil => exact absurd rfl hr
          | node i2 l2 k2 v2 b2 r2 => exact ⟨i2, l2, k2, v2, b2, r2, rfl⟩
        have hroot : r.root = some i2 := by rw [hr2]; rfl
        have htb := sT.djc.1
        simp only [BT.ids, List.mem_cons, not_or] at htb
        have hti : ¬ H.tb = i := htb.1
        have hit : ¬ i = H.tb := fun e => hti e.symm
        have hok2 := hok.2.1
        have hcan : ∀ (k1 v1 : Int), can0L (.node i l k1 v1 b (Avl.cutMin r).1) := fun k1 v1 => can0L_of (h0 := Avl.ht r) hok.1 hok.2.2.1 hok.2.2.2.1 hok.2.2.2.2 (by rw [hr2]; simp [Avl.ht])
        have all := fun (w1 : World) (st : St avlL w1 H c (.node i l k' v' b r)) =>
          let s1 := (st.size_set (H.size - 1))
          And.intro (And.intro (cutMin_walk { H with size := H.size - 1 } i l k' v' b c r [] _ s1.1.drew.downR hr hok2) s1.2.drew)
            (And.intro st.hc.header (And.intro st.ht.1.cells_ st.hc.slot_cell))
        simp only [List.nil_append, slot, BT.root, ptr, Option.map_some, Lay.os, Lay.om, if_true] at all
        have gw := fun (w2 : World) (st : St avlL w2 { H with size := H.size - 1 } c (.node i l (Avl.minKV r).1 (Avl.minKV r).2 b (Avl.cutMin r).1)) => shrinkR_walk st (hcan _ _)
        simp only [slot_size] at gw
        have hm1 : ∀ x, x ∈ allIds { H with size := H.size - 1 } (.rf i l k' v' b :: c) r → x ∈ allIds H c (.node i l k' v' b r) := fun x hx => by
          simp only [allIds, Ctx.ids, Fr.ids, BT.ids, List.mem_cons, List.mem_append] at hx ⊢; grind
        have fin0 := fun (q : Nat) (w2 w3 w4 : World) (hf : (Avl.cutMin r).2 = false) (o1 : Only (allIds H c (.node i l k' v' b r)) (w.drewN q) w2) (o2 : Only (allIds { H with size := H.size - 1 } (.rf i l k' v' b :: c) r) w2 w3)
            (st2 : St avlL w3 { H with size := H.size - 1 } (.rf i l (Avl.minKV r).1 (Avl.minKV r).2 b :: c) (Avl.cutMin r).1) (hw : w4 = w3) =>
          show RemPost o k H c (.node i l k' v' b r) w (.returned (.bool false)) w4 from by
            subst hw
            rw [if_neg (by simp [hf])] at e1
            exact ⟨by rw [e1], by rw [e1, hhas]; exact st2.upR, (((Only.refl _ w).drewN q).trans o1).trans' o2 (fun x _ hx => hm1 x hx)⟩
        have fin1 := fun (q : Nat) (w2 w3 w4 : World) (hf : (Avl.cutMin r).2 = true) (o1 : Only (allIds H c (.node i l k' v' b r)) (w.drewN q) w2) (o2 : Only (allIds { H with size := H.size - 1 } (.rf i l k' v' b :: c) r) w2 w3)
            (st3 : St avlL w4 { H with size := H.size - 1 } c (Avl.shrinkR (.node i l (Avl.minKV r).1 (Avl.minKV r).2 b (Avl.cutMin r).1)).1)
            (o3 : Only (allIds { H with size := H.size - 1 } c (.node i l (Avl.minKV r).1 (Avl.minKV r).2 b (Avl.cutMin r).1)) w3 w4) =>
          show RemPost o k H c (.node i l k' v' b r) w (.returned (.bool (Avl.shrinkR (.node i l (Avl.minKV r).1 (Avl.minKV r).2 b (Avl.cutMin r).1)).2)) w4 from by
            rw [if_pos hf] at e1
            refine ⟨by rw [e1], by rw [e1, hhas]; exact st3, ((((Only.refl _ w).drewN q).trans o1).trans' o2 (fun x _ hx => hm1 x hx)).trans' o3 (fun x _ hx => ?_)⟩
            simp only [allIds, BT.ids, List.mem_cons, List.mem_append] at hx ⊢
            have := fun h => Avl.mem_ids_cutMin (t := r) (b := x) h
            grind
        have By := Lib.hid by1
        have All := Lib.hid all
        have Gw := Lib.hid gw
        have F0 := Lib.hid fin0
        have F1 := Lib.hid fin1
        have ST := Lib.hid sT
        have Ob := Lib.hid hob
        have Hroot := Lib.hid hroot
        clear by1 all gw fin0 fin1 sT hob ihl ihr hok hobn he hcmp e1 hhas htb hroot hcan hm1 hok2 hr hr2
        generalize slot H c = sa at *
        go_enter Try.func76, Try.ntmps76
        go_wp2_with fail
        go_quiet ((go_at_call 44; exact Calls.quiet_of (By.out _ Ob.out)))
        clear hsl hslf hh1 hk0 hv0
        obtain ⟨⟨f1, o1⟩, ⟨f4, f5, f6⟩, ⟨f7, f8, f9, f10⟩, f15, f16⟩ := All.out _ (ST.out.drewN nq)
        have f10' : (w.drewN nq).cell? ⟨i, 4, none⟩ = some (.pointer (some ⟨i2, 0, none⟩)) := by
          have := (St.ht (ST.out.drewN nq)).1.cells_.2.2.2
          rw [Hroot.out] at this; exact this
        have G1 := Lib.hid f1
        have O1 := Lib.hid o1
        clear f1 o1 f10
        have F0q := Lib.hid (F0.out nq)
        have F1q := Lib.hid (F1.out nq)
        clear F0 F1 ST Ob By All
        generalize w.drewN nq = w1 at *
        go_wp2_with fail
        go_region_with ((go_at_call 78; refine G1.out.mono ?_; rintro e w3 ⟨rfl, st2, o2⟩; have St2 := Lib.hid st2; have O2 := Lib.hid o2; clear st2 o2))
        have st2 := St2.out
        have o2 := O2.out
        clear St2 O2
        cases hf : (Avl.cutMin r).2 with
        | true =>
          have G := Lib.hid (Gw.out _ st2.upR)
          have O2 := Lib.hid o2
          have Hf := Lib.hid hf
          clear st2 o2 hf
          go_wp2_with fail
          refine G.out.mono ?_
          rintro e w4 ⟨rfl, st3, o3⟩
          have St3 := Lib.hid st3
          have O3 := Lib.hid o3
          clear st3 o3
          go_wp2_with fail
          go_ret
          exact F1q.out _ _ _ Hf.out O1.out O2.out St3.out O3.out
        | false =>
          have St2 := Lib.hid st2
          have O2 := Lib.hid o2
          have Hf := Lib.hid hf
          clear st2 o2 hf
          go_wp2_with fail
          go_ret
          exact F0q.out _ _ _ Hf.out O1.out O2.out St2.out rfl
    · have ih := fun (w1 : World) (st : St avlL w1 H (.rf i l k' v' b :: c) r) (h1 : OrdAt w1 ob o) => ihr (.rf i l k' v' b :: c) w1 H st hok.2.1 hcmp h1 (by simp only [allIds, Ctx.ids, Fr.ids, BT.ids, List.mem_cons, List.mem_append, not_or] at hobn ⊢; grind) hs0 hs1
      simp only [slot] at ih
      have gw := fun (w2 : World) (x : Int) (st : St avlL w2 { H with size := x } c (.node i l k' v' b (Avl.remove o k r).1)) (hf : (Avl.remove o k r).2 = true) =>
        shrinkR_walk st (can0L_of (h0 := Avl.ht r) hok.1 hok.2.2.1 hok.2.2.2.1 hok.2.2.2.2 (by have := (Avl.remove_ok (o := o) (k := k) hok.2.1).2; rw [hf] at this; simp only [if_true] at this; omega))
      simp only [slot_size] at gw
      have fin0 := fun (w3 : World) (q : Nat) (w2 : World) (hf : (Avl.remove o k r).2 = false) (o2 : Only (allIds H (.rf i l k' v' b :: c) r) (w.drewN q) w2) (st2 : St avlL w2 { H with size := H.size - if Avl.has o k r then 1 else 0 } (.rf i l k' v' b :: c) (Avl.remove o k r).1) (hw : w3 = w2) =>
        show RemPost o k H c (.node i l k' v' b r) w (.returned (.bool false)) w3 from by
          subst hw
          have e1 : Avl.remove o k (.node i l k' v' b r) = ((.node i l k' v' b (Avl.remove o k r).1), false) := by rw [Avl.remove_right hgt, if_neg (by simp [hf])]
          refine ⟨by rw [e1], by rw [e1, Avl.has_right hgt]; exact st2.upR, ?_⟩
          exact ((Only.refl _ w).drewN q).trans' o2 (fun x _ hx => by simp only [allIds, Ctx.ids, Fr.ids, BT.ids, List.mem_cons, List.mem_append] at hx ⊢; grind)
      have fin1 := fun (w3 : World) (q : Nat) (w2 : World) (hf : (Avl.remove o k r).2 = true) (o2 : Only (allIds H (.rf i l k' v' b :: c) r) (w.drewN q) w2)
          (st3 : St avlL w3 { H with size := H.size - if Avl.has o k r then 1 else 0 } c (Avl.shrinkR (.node i l k' v' b (Avl.remove o k r).1)).1) (o3 : Only (allIds { H with size := H.size - if Avl.has o k r then 1 else 0 } c (.node i l k' v' b (Avl.remove o k r).1)) w2 w3) =>
        show RemPost o k H c (.node i l k' v' b r) w (.returned (.bool (Avl.shrinkR (.node i l k' v' b (Avl.remove o k r).1)).2)) w3 from by
          have e1 : Avl.remove o k (.node i l k' v' b r) = Avl.shrinkR (.node i l k' v' b (Avl.remove o k r).1) := by rw [Avl.remove_right hgt, if_pos hf]
          refine ⟨by rw [e1], by rw [e1, Avl.has_right hgt]; exact st3, ?_⟩
          refine (((Only.refl _ w).drewN q).trans' o2 (fun x _ hx => by simp only [allIds, Ctx.ids, Fr.ids, BT.ids, List.mem_cons, List.mem_append] at hx ⊢; grind)).trans' o3 (fun x hx hm => ?_)
          simp only [allIds, BT.ids, List.mem_cons, List.mem_append] at hm ⊢
          have := fun h => Avl.mem_ids_remove (o := o) (k := k) (t := r) (b := x) h
          grind
      have by1 := fun (w1 : World) (h1 : OrdAt w1 ob o) => by1_gt o ob k k' w1 ho h1 hgt
      have By := Lib.hid by1
      have Ih := Lib.hid ih
      have Gw := Lib.hid gw
      have F0 := Lib.hid fin0
      have F1 := Lib.hid fin1
      have ST := Lib.hid sT
      have Ob := Lib.hid hob
      clear by1 ih gw fin0 fin1 sT hob ihl ihr hok hobn hgt hcmp
      generalize slot H c = sa at *
      go_enter Try.func76, Try.ntmps76
      go_wp2_with fail
      go_quiet ((go_at_call 44; exact Calls.quiet_of (By.out _ Ob.out)))
      go_wp2_with fail
      refine (Ih.out _ (ST.out.drewN nq).downR (Ob.out.drewN nq)).mono ?_
      rintro e w2 ⟨rfl, st2, o2⟩
      cases hf : (Avl.remove o k r).2 with
      | true =>
        have G := Lib.hid (Gw.out _ _ st2.upR hf)
        have O2 := Lib.hid o2
        have Hf := Lib.hid hf
        clear st2 o2 hf
        go_wp2_with fail
        refine G.out.mono ?_
        rintro e w3 ⟨rfl, st3, o3⟩
        have St3 := Lib.hid st3
        have O3 := Lib.hid o3
        clear st3 o3
        go_wp2_with fail
        go_ret
        exact F1.out _ _ _ Hf.out O2.out St3.out O3.out
      | false =>
        have St2 := Lib.hid st2
        have O2 := Lib.hid o2
        have Hf := Lib.hid hf
        clear st2 o2 hf
        go_wp2_with fail
        go_ret
        exact F0.out _ _ _ Hf.out O2.out St2.out rfl

end Go.Proofs.Ytmhkknobgcdkkaa
