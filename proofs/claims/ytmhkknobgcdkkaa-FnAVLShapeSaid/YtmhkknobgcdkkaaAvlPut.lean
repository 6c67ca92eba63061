/-
  The AVL tree: put, in memory, is the put of the plain side.
-/
import Derived.Test.YtmhkknobgcdkkaaAvlGrow
namespace Go.Proofs.Ytmhkknobgcdkkaa
open Go.RowKit

theorem canL_of {o : Ord} {n i : Nat} {k v k' v' b : Int} {l r : BT} (hl : Avl.ok l) (hb : b = (Avl.ht r : Int) - Avl.ht l) (hb1 : -1 ≤ b) (hb2 : b ≤ 1) (hf : (Avl.put o n k v l).2 = true) :
    canL (.node i (Avl.put o n k v l).1 k' v' b r) := by
  obtain ⟨h1, h2, h3⟩ := Avl.put_ok (o := o) (n := n) (k := k) (v := v) hl
  rw [hf] at h2
  replace h3 := h3 hf
  simp only [if_true] at h2
  generalize (Avl.put o n k v l).1 = l' at *
  unfold canL
  by_cases e1 : b = 0
  · exact .inl e1
  · by_cases e2 : b = 1
    · exact .inr (.inl e2)
    · refine .inr (.inr ⟨by omega, ?_⟩)
      obtain ⟨j, ll, kk, vv, bb, rr, rfl⟩ := Avl.ht_pos (t := l') (by omega)
      refine ⟨j, rr, kk, vv, bb, ll, rfl, ?_⟩
      by_cases e3 : bb = -1
      · exact .inl e3
      · simp only [Avl.ok, Avl.ht, Avl.bal] at h1 h2 h3
        obtain ⟨j2, ll2, kk2, vv2, bb2, rr2, rfl⟩ := Avl.ht_pos (t := rr) (by omega)
        exact .inr ⟨e3, j2, rr2, kk2, vv2, bb2, ll2, rfl⟩
theorem canR_of {o : Ord} {n i : Nat} {k v k' v' b : Int} {l r : BT} (hr : Avl.ok r) (hb : b = (Avl.ht r : Int) - Avl.ht l) (hb1 : -1 ≤ b) (hb2 : b ≤ 1) (hf : (Avl.put o n k v r).2 = true) :
    canR (.node i l k' v' b (Avl.put o n k v r).1) := by
  obtain ⟨h1, h2, h3⟩ := Avl.put_ok (o := o) (n := n) (k := k) (v := v) hr
  rw [hf] at h2
  replace h3 := h3 hf
  simp only [if_true] at h2
  generalize (Avl.put o n k v r).1 = r' at *
  unfold canR
  by_cases e1 : b = 0
  · exact .inl e1
  · by_cases e2 : b = -1
    · exact .inr (.inl e2)
    · refine .inr (.inr ⟨by omega, ?_⟩)
      obtain ⟨j, ll, kk, vv, bb, rr, rfl⟩ := Avl.ht_pos (t := r') (by omega)
      refine ⟨j, ll, kk, vv, bb, rr, rfl, ?_⟩
      by_cases e3 : bb = 1
      · exact .inl e3
      · simp only [Avl.ok, Avl.ht, Avl.bal] at h1 h2 h3
        obtain ⟨j2, ll2, kk2, vv2, bb2, rr2, rfl⟩ := Avl.ht_pos (t := ll) (by omega)
        exact .inr ⟨e3, j2, ll2, kk2, vv2, bb2, rr2, rfl⟩

/-- What put leaves. -/
def PutPost (o : Ord) (k v : Int) (H : Hd) (c : Ctx) (t : BT) (w : World) (e : Ending) (w' : World) : Prop :=
  ∃ n, w.heap.size ≤ n ∧ e = .returned (.bool (Avl.put o n k v t).2) ∧ St avlL w' { H with size := H.size + if Avl.has o k t then 0 else 1 } c (Avl.put o n k v t).1 ∧ Only (allIds H c t) w w'

theorem put_walk (o : Ord) (ho : o.fine) (ob : Nat) (k v : Int) (t : BT) : ∀ (c : Ctx) (w : World) (H : Hd), St avlL w H c t → Avl.ok t → H.cmp = cmpv ob → OrdAt w ob o → ob ∉ allIds H c t → 0 ≤ H.size → H.size ≤ 1000000 →
    Calls Try.prog 75 #[.pointer (some ⟨H.tb, 0, none⟩), .iface 3 (.int .i64 k), .iface 3 (.int .i64 v), ptr c.par, .pointer (some (slot H c))] w (PutPost o k v H c t w) := by
  induction t with
  | nil =>
    intro c w H sT _ hcmp hob hobn hs0 hs1
    obtain ⟨hsl, hslf⟩ := sT.hc.slot_cell
    obtain ⟨hh2, hh1, hhf⟩ := sT.hc.header
    obtain ⟨s1, o1⟩ := sT.size_set (H.size + 1)
    have pl := s1.plant k v 0
    have sl := (s1.hc.alloc (.cells (avlL.cells k v 0 c.par none none) avlL.tn)).slot_cell
    have fin : PutPost o k v H c .nil w (.returned (.bool true)) _ := ⟨_, Nat.le_refl _, rfl, by rw [← World.size_setCell w ⟨H.tb, avlL.os, none⟩ (.int .i64 (H.size + 1))]; exact pl.1, o1.trans pl.2⟩
    simp only [slot_size] at fin sl
    obtain ⟨sl1, sl2⟩ := sl
    simp only [BT.root, ptr, Option.map_none, Option.map_some, Lay.os, Lay.om, Lay.cells, if_true, World.size_setCell] at hsl hh2 hh1 sl1 sl2 fin
    have Fin := Lib.hid fin
    clear fin pl o1 s1 sT hcmp hob hobn
    generalize slot H c = sa at *
    go_enter Try.func75, Try.ntmps75
    go_wp2_with fail
    go_ret
    exact Fin.out
  | node i l k' v' b r ihl ihr =>
    intro c w H sT hok hcmp hob hobn hs0 hs1
    obtain ⟨hsl, hslf⟩ := sT.hc.slot_cell
    obtain ⟨_, hh1, _⟩ := sT.hc.header
    obtain ⟨hk0, hv0, _, _⟩ := sT.ht.1.cells_
    have hkf := sT.ht.1.frozen 0
    have hvf := sT.ht.1.frozen 1
    simp only [BT.root, ptr, Option.map_some, Lay.om, if_true, hcmp] at hsl hh1 hk0 hv0
    rcases Int.lt_trichotomy (o.rk k) (o.rk k') with hlt | he | hgt
    · have ih := fun (w1 : World) (st : St avlL w1 H (.lf i k' v' b r :: c) l) (h1 : OrdAt w1 ob o) => ihl (.lf i k' v' b r :: c) w1 H st hok.1 hcmp h1 (by simp only [allIds, Ctx.ids, Fr.ids, BT.ids, List.mem_cons, List.mem_append, not_or] at hobn ⊢; grind) hs0 hs1
      simp only [Ctx.par, Fr.id, ptr, slot, Option.map_some] at ih
      have gw := fun (w2 : World) (n : Nat) (x : Int) (st : St avlL w2 { H with size := x } c (.node i (Avl.put o n k v l).1 k' v' b r)) (hf : (Avl.put o n k v l).2 = true) => growL_walk st (canL_of (v' := v') (k' := k') (i := i) (b := b) hok.1 hok.2.2.1 hok.2.2.2.1 hok.2.2.2.2 hf)
      simp only [slot_size] at gw
      have fin0 := fun (w3 : World) (n q : Nat) (w2 : World) (hn : w.heap.size ≤ n) (hf : (Avl.put o n k v l).2 = false) (o2 : Only (allIds H (.lf i k' v' b r :: c) l) (w.drewN q) w2) (st2 : St avlL w2 { H with size := H.size + if Avl.has o k l then 0 else 1 } (.lf i k' v' b r :: c) (Avl.put o n k v l).1) (hw : w3 = w2) =>
        show PutPost o k v H c (.node i l k' v' b r) w (.returned (.bool false)) w3 from by
          subst hw
          have e1 : Avl.put o n k v (.node i l k' v' b r) = ((.node i (Avl.put o n k v l).1 k' v' b r), false) := by rw [Avl.put_left hlt, if_neg (by simp [hf])]
          refine ⟨n, hn, by rw [e1], by rw [e1, Avl.has_left hlt]; exact st2.upL, ?_⟩
          exact ((Only.refl _ w).drewN q).trans' o2 (fun x _ hx => by simp only [allIds, Ctx.ids, Fr.ids, BT.ids, List.mem_cons, List.mem_append] at hx ⊢; grind)
      have fin1 := fun (w3 : World) (n q : Nat) (w2 : World) (hn : w.heap.size ≤ n) (hf : (Avl.put o n k v l).2 = true) (o2 : Only (allIds H (.lf i k' v' b r :: c) l) (w.drewN q) w2)
          (st3 : St avlL w3 { H with size := H.size + if Avl.has o k l then 0 else 1 } c (Avl.growL (.node i (Avl.put o n k v l).1 k' v' b r)).1) (o3 : Only (allIds { H with size := H.size + if Avl.has o k l then 0 else 1 } c (.node i (Avl.put o n k v l).1 k' v' b r)) w2 w3) =>
        show PutPost o k v H c (.node i l k' v' b r) w (.returned (.bool (Avl.growL (.node i (Avl.put o n k v l).1 k' v' b r)).2)) w3 from by
          have e1 : Avl.put o n k v (.node i l k' v' b r) = Avl.growL (.node i (Avl.put o n k v l).1 k' v' b r) := by rw [Avl.put_left hlt, if_pos hf]
          refine ⟨n, hn, by rw [e1], by rw [e1, Avl.has_left hlt]; exact st3, ?_⟩
          refine (((Only.refl _ w).drewN q).trans' o2 (fun x _ hx => by simp only [allIds, Ctx.ids, Fr.ids, BT.ids, List.mem_cons, List.mem_append] at hx ⊢; grind)).trans' o3 (fun x hx hm => ?_)
          simp only [allIds, BT.ids, List.mem_cons, List.mem_append] at hm ⊢
          have := fun h => Avl.mem_ids_put (o := o) (n := n) (k := k) (v := v) (t := l) (b := x) h
          have : x ≠ n := by omega
          grind
      have by1 := fun (w1 : World) (h1 : OrdAt w1 ob o) => by1_lt o ob k k' w1 ho h1 hlt
      have By := Lib.hid by1
      have Ih := Lib.hid ih
      have Gw := Lib.hid gw
      have F0 := Lib.hid fin0
      have F1 := Lib.hid fin1
      have ST := Lib.hid sT
      have Ob := Lib.hid hob
      clear by1 ih gw fin0 fin1 sT hob ihl ihr hok hobn hlt hcmp
      generalize slot H c = sa at *
      go_enter Try.func75, Try.ntmps75
      go_wp2_with fail
      go_quiet ((go_at_call 44; exact Calls.quiet_of (By.out _ Ob.out)))
      go_wp2_with fail
      refine (Ih.out _ (ST.out.drewN nq).downL (Ob.out.drewN nq)).mono ?_
      rintro e w2 ⟨n, hn, rfl, st2, o2⟩
      cases hf : (Avl.put o n k v l).2 with
      | true =>
        have g := Gw.out _ n _ st2.upL hf
        have f1 := F1.out
        have G := Lib.hid g
        have St2 := Lib.hid st2
        have O2 := Lib.hid o2
        have Hf := Lib.hid hf
        have Hn := Lib.hid hn
        clear g st2 o2 hf f1 hn
        go_wp2_with fail
        refine G.out.mono ?_
        rintro e w3 ⟨rfl, st3, o3⟩
        have St3 := Lib.hid st3
        have O3 := Lib.hid o3
        clear st3 o3
        go_wp2_with fail
        go_ret
        exact F1.out _ _ _ _ Hn.out Hf.out O2.out St3.out O3.out
      | false =>
        have St2 := Lib.hid st2
        have O2 := Lib.hid o2
        have Hf := Lib.hid hf
        have Hn := Lib.hid hn
        clear st2 o2 hf hn
        go_wp2_with fail
        go_ret
        exact F0.out _ _ _ _ Hn.out Hf.out O2.out St2.out rfl
    · have fin := fun (q : Nat) => show PutPost o k v H c (.node i l k' v' b r) w (.returned (.bool false)) (((w.drewN q).setCell ⟨i, 0, none⟩ (.iface 3 (.int .i64 k))).setCell ⟨i, 1, none⟩ (.iface 3 (.int .i64 v))) from by
        have e1 : Avl.put o w.heap.size k v (.node i l k' v' b r) = (.node i l k v b r, false) := Avl.put_here he
        have s1 := St.root_set (sT.drewN q) (Nd.setK (L := avlL) (St.ht (sT.drewN q)).1 k)
        have s2 := St.root_set s1.1 (Nd.setV (L := avlL) s1.1.ht.1 v)
        refine ⟨w.heap.size, Nat.le_refl _, by rw [e1], by rw [e1, Avl.has_here he]; simpa using s2.1, ?_⟩
        exact ((Only.refl _ w).drewN q).trans (s1.2.trans s2.2)
      have by1 := fun (w1 : World) (h1 : OrdAt w1 ob o) => by1_eq o ob k k' w1 ho h1 he
      have By := Lib.hid by1
      have Fin := Lib.hid fin
      have Ob := Lib.hid hob
      clear by1 fin sT hob ihl ihr hok hobn he hcmp
      generalize slot H c = sa at *
      go_enter Try.func75, Try.ntmps75
      go_wp2_with fail
      go_quiet ((go_at_call 44; exact Calls.quiet_of (By.out _ Ob.out)))
      go_wp2_with fail
      go_ret
      exact Fin.out nq
    · have ih := fun (w1 : World) (st : St avlL w1 H (.rf i l k' v' b :: c) r) (h1 : OrdAt w1 ob o) => ihr (.rf i l k' v' b :: c) w1 H st hok.2.1 hcmp h1 (by simp only [allIds, Ctx.ids, Fr.ids, BT.ids, List.mem_cons, List.mem_append, not_or] at hobn ⊢; grind) hs0 hs1
      simp only [Ctx.par, Fr.id, ptr, slot, Option.map_some] at ih
      have gw := fun (w2 : World) (n : Nat) (x : Int) (st : St avlL w2 { H with size := x } c (.node i l k' v' b (Avl.put o n k v r).1)) (hf : (Avl.put o n k v r).2 = true) => growR_walk st (canR_of (v' := v') (k' := k') (i := i) (b := b) hok.2.1 hok.2.2.1 hok.2.2.2.1 hok.2.2.2.2 hf)
      simp only [slot_size] at gw
      have fin0 := fun (w3 : World) (n q : Nat) (w2 : World) (hn : w.heap.size ≤ n) (hf : (Avl.put o n k v r).2 = false) (o2 : Only (allIds H (.rf i l k' v' b :: c) r) (w.drewN q) w2) (st2 : St avlL w2 { H with size := H.size + if Avl.has o k r then 0 else 1 } (.rf i l k' v' b :: c) (Avl.put o n k v r).1) (hw : w3 = w2) =>
        show PutPost o k v H c (.node i l k' v' b r) w (.returned (.bool false)) w3 from by
          subst hw
          have e1 : Avl.put o n k v (.node i l k' v' b r) = ((.node i l k' v' b (Avl.put o n k v r).1), false) := by rw [Avl.put_right hgt, if_neg (by simp [hf])]
          refine ⟨n, hn, by rw [e1], by rw [e1, Avl.has_right hgt]; exact st2.upR, ?_⟩
          exact ((Only.refl _ w).drewN q).trans' o2 (fun x _ hx => by simp only [allIds, Ctx.ids, Fr.ids, BT.ids, List.mem_cons, List.mem_append] at hx ⊢; grind)
      have fin1 := fun (w3 : World) (n q : Nat) (w2 : World) (hn : w.heap.size ≤ n) (hf : (Avl.put o n k v r).2 = true) (o2 : Only (allIds H (.rf i l k' v' b :: c) r) (w.drewN q) w2)
          (st3 : St avlL w3 { H with size := H.size + if Avl.has o k r then 0 else 1 } c (Avl.growR (.node i l k' v' b (Avl.put o n k v r).1)).1) (o3 : Only (allIds { H with size := H.size + if Avl.has o k r then 0 else 1 } c (.node i l k' v' b (Avl.put o n k v r).1)) w2 w3) =>
        show PutPost o k v H c (.node i l k' v' b r) w (.returned (.bool (Avl.growR (.node i l k' v' b (Avl.put o n k v r).1)).2)) w3 from by
          have e1 : Avl.put o n k v (.node i l k' v' b r) = Avl.growR (.node i l k' v' b (Avl.put o n k v r).1) := by rw [Avl.put_right hgt, if_pos hf]
          refine ⟨n, hn, by rw [e1], by rw [e1, Avl.has_right hgt]; exact st3, ?_⟩
          refine (((Only.refl _ w).drewN q).trans' o2 (fun x _ hx => by simp only [allIds, Ctx.ids, Fr.ids, BT.ids, List.mem_cons, List.mem_append] at hx ⊢; grind)).trans' o3 (fun x hx hm => ?_)
          simp only [allIds, BT.ids, List.mem_cons, List.mem_append] at hm ⊢
          have := fun h => Avl.mem_ids_put (o := o) (n := n) (k := k) (v := v) (t := r) (b := x) h
          have : x ≠ n := by omega
          grind
      have by1 := fun (w1 : World) (h1 : OrdAt w1 ob o) => by1_gt o ob k k' w1 ho h1 hgt
      have By := Lib.hid by1
      have Ih := Lib.hid ih
      have Gw := Lib.hid gw
      have F0 := Lib.hid fin0
      have F1 := Lib.hid fin1
      have ST := Lib.hid sT
      have Ob := Lib.hid hob
      clear by1 ih gw fin0 fin1 sT hob ihl ihr hok hobn hgt hcmp
      generalize slot H c = sa at *
      go_enter Try.func75, Try.ntmps75
      go_wp2_with fail
      go_quiet ((go_at_call 44; exact Calls.quiet_of (By.out _ Ob.out)))
      go_wp2_with fail
      refine (Ih.out _ (ST.out.drewN nq).downR (Ob.out.drewN nq)).mono ?_
      rintro e w2 ⟨n, hn, rfl, st2, o2⟩
      cases hf : (Avl.put o n k v r).2 with
      | true =>
        have g := Gw.out _ n _ st2.upR hf
        have f1 := F1.out
        have G := Lib.hid g
        have St2 := Lib.hid st2
        have O2 := Lib.hid o2
        have Hf := Lib.hid hf
        have Hn := Lib.hid hn
        clear g st2 o2 hf f1 hn
        go_wp2_with fail
        refine G.out.mono ?_
        rintro e w3 ⟨rfl, st3, o3⟩
        have St3 := Lib.hid st3
        have O3 := Lib.hid o3
        clear st3 o3
        go_wp2_with fail
        go_ret
        exact F1.out _ _ _ _ Hn.out Hf.out O2.out St3.out O3.out
      | false =>
        have St2 := Lib.hid st2
        have O2 := Lib.hid o2
        have Hf := Lib.hid hf
        have Hn := Lib.hid hn
        clear st2 o2 hf hn
        go_wp2_with fail
        go_ret
        exact F0.out _ _ _ _ Hn.out Hf.out O2.out St2.out rfl

end Go.Proofs.Ytmhkknobgcdkkaa
