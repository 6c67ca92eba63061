/-
  The AVL tree: removeMin in memory.
-/
import Derived.Test.YtmhkknobgcdkkaaAvlDel
namespace Go.Proofs.Ytmhkknobgcdkkaa
open Go.RowKit

theorem can0L_of {i : Nat} {k v b : Int} {l r : BT} {h0 : Nat} (hl : Avl.ok l) (hb : b = (h0 : Int) - Avl.ht l) (hb1 : -1 ≤ b) (hb2 : b ≤ 1) (hh : 1 ≤ h0) : can0L (.node i l k v b r) := by
  unfold can0L
  by_cases e1 : b = 0
  · exact .inl e1
  · by_cases e2 : b = 1
    · exact .inr (.inl e2)
    · refine .inr (.inr ⟨by omega, ?_⟩)
      obtain ⟨j, ll, kk, vv, bb, rr, rfl⟩ := Avl.ht_pos (t := l) (by omega)
      refine ⟨j, rr, kk, vv, bb, ll, rfl, ?_⟩
      by_cases e3 : bb = 0
      · exact .inl e3
      · by_cases e4 : bb = -1
        · exact .inr (.inl e4)
        · simp only [Avl.ok, Avl.ht] at hl hb
          obtain ⟨j2, ll2, kk2, vv2, bb2, rr2, rfl⟩ := Avl.ht_pos (t := rr) (by omega)
          exact .inr (.inr ⟨e3, e4, j2, rr2, kk2, vv2, bb2, ll2, rfl⟩)
theorem can0R_of {i : Nat} {k v b : Int} {l r : BT} {h0 : Nat} (hr : Avl.ok r) (hb : b = (Avl.ht r : Int) - h0) (hb1 : -1 ≤ b) (hb2 : b ≤ 1) (hh : 1 ≤ h0) : can0R (.node i l k v b r) := by
  unfold can0R
  by_cases e1 : b = 0
  · exact .inl e1
  · by_cases e2 : b = -1
    · exact .inr (.inl e2)
    · refine .inr (.inr ⟨by omega, ?_⟩)
      obtain ⟨j, ll, kk, vv, bb, rr, rfl⟩ := Avl.ht_pos (t := r) (by omega)
      refine ⟨j, ll, kk, vv, bb, rr, rfl, ?_⟩
      by_cases e3 : bb = 0
      · exact .inl e3
      · by_cases e4 : bb = 1
        · exact .inr (.inl e4)
        · simp only [Avl.ok, Avl.ht] at hr hb
          obtain ⟨j2, ll2, kk2, vv2, bb2, rr2, rfl⟩ := Avl.ht_pos (t := ll) (by omega)
          exact .inr (.inr ⟨e3, e4, j2, ll2, kk2, vv2, bb2, rr2, rfl⟩)

def MinPost (H : Hd) (c1 : Ctx) (q : Nat) (lq : BT) (kq vq bq : Int) (c2 : Ctx) (t : BT) (w : World) (e : Ending) (w' : World) : Prop :=
  e = .returned (.bool (Avl.cutMin t).2) ∧ St avlL w' H (c1 ++ .rf q lq (Avl.minKV t).1 (Avl.minKV t).2 bq :: c2) (Avl.cutMin t).1 ∧ Only (allIds H (c1 ++ .rf q lq kq vq bq :: c2) t) w w'

theorem cutMin_walk (H : Hd) (q : Nat) (lq : BT) (kq vq bq : Int) (c2 : Ctx) (t : BT) : ∀ (c1 : Ctx) (w : World), St avlL w H (c1 ++ .rf q lq kq vq bq :: c2) t → t ≠ .nil → Avl.ok t →
    Calls Try.prog 78 #[.pointer (some (slot H (c1 ++ .rf q lq kq vq bq :: c2))), .pointer (some ⟨q, 0, none⟩), .pointer (some ⟨q, 1, none⟩)] w (MinPost H c1 q lq kq vq bq c2 t w) := by
  induction t with
  | nil => intro c1 w _ h; exact absurd rfl h
  | node i l k v b r ihl _ =>
    intro c1 w sT _ hok
    have hqc := mem_frame c1 c2 q lq kq vq bq
    have hqi' : q ∉ BT.ids (.node i l k v b r) := sT.djc.2 q hqc
    have hqi : ¬ q = i := by intro e; exact hqi' (by simp [BT.ids, e])
    have hiq : ¬ i = q := fun e => hqi e.symm
    obtain ⟨hsl, hslf⟩ := sT.hc.slot_cell
    obtain ⟨hq0, hq1, hqf⟩ := frame_cell sT.hc
    obtain ⟨hk0, hv0, hl3, hr4⟩ := sT.ht.1.cells_
    have hp2 := sT.ht.1.cellP
    simp only [BT.root, ptr, Option.map_some, Lay.op, if_true] at hsl hp2 hl3 hr4
    by_cases hl : l = .nil
    · subst hl
      have e1 : Avl.cutMin (.node i .nil k v b r) = (r, true) := rfl
      have e2 : Avl.minKV (.node i .nil k v b r) = (k, v) := rfl
      obtain ⟨s2, o2⟩ := sT.frame k v
      obtain ⟨hsl2, hslf2⟩ := s2.hc.slot_cell
      rw [← slot_frame H c1 c2 q lq kq vq bq k v] at hsl2 hslf2
      simp only [BT.root, ptr, Option.map_some] at hsl2
      cases r with
      | nil =>
        obtain ⟨s3, o3⟩ := s2.lift_nil
        have fin : MinPost H c1 q lq kq vq bq c2 (.node i .nil k v b .nil) w (.returned (.bool true)) _ := ⟨by rw [e1], by rw [e1, e2]; exact s3, o2.trans' o3 (fun x _ hx => by
          unfold allIds at hx ⊢; rwa [← ids_frame c1 c2 q lq kq vq bq k v] at hx)⟩
        rw [← slot_frame H c1 c2 q lq kq vq bq k v] at fin
        simp only [ptr, Option.map_none] at fin
        have Fin := Lib.hid fin
        clear fin s3 o3 s2 o2 sT e1 e2 ihl hok hqc hqi'
        generalize slot H (c1 ++ .rf q lq kq vq bq :: c2) = sa at *
        go_enter Try.func78, Try.ntmps78
        go_wp2_with fail
        go_ret
        exact Fin.out
      | node x xl kx vx bx xr =>
        have hxt := s2.ht.2.2
        have hnt := s2.ndt
        have hsub : ∀ b' ∈ BT.ids (.node x xl kx vx bx xr), b' ∈ BT.ids (.node i .nil k v b (.node x xl kx vx bx xr)) := fun b' hb' => by
          simp only [BT.ids, List.mem_cons, List.mem_append, List.not_mem_nil, false_or] at hb' ⊢; exact .inr hb'
        have hnx : (BT.ids (.node x xl kx vx bx xr)).Nodup := by
          simp only [BT.ids, List.nodup_cons, List.nil_append] at hnt ⊢; exact hnt.2
        obtain ⟨s3, o3⟩ := s2.lift hxt hsub hnx
        have fin : MinPost H c1 q lq kq vq bq c2 (.node i .nil k v b (.node x xl kx vx bx xr)) w (.returned (.bool true)) _ := ⟨by rw [e1], by rw [e1, e2]; exact s3, o2.trans' o3 (fun x _ hx => by
          unfold allIds at hx ⊢; rwa [← ids_frame c1 c2 q lq kq vq bq k v] at hx)⟩
        rw [← slot_frame H c1 c2 q lq kq vq bq k v, ← par_frame c1 c2 q lq kq vq bq k v] at fin
        have hxi : ¬ x = i := by
          simp only [BT.ids, List.nodup_cons, List.nil_append, List.mem_cons, not_or] at hnt; exact fun e => hnt.1.1 e.symm
        have hqx : ¬ q = x := by intro e; exact hqi' (by simp [BT.ids, e])
        have hix : ¬ i = x := fun e => hxi e.symm
        have hxq : ¬ x = q := fun e => hqx e.symm
        have hx2 := sT.ht.2.2.1.cellP
        have hxf := sT.ht.2.2.1.frozen 2
        -- the slot behind the store of the parent
        have hsl3 : (((w.setCell ⟨q, 0, none⟩ (.iface 3 (.int .i64 k))).setCell ⟨q, 1, none⟩ (.iface 3 (.int .i64 v))).setCell ⟨x, 2, none⟩ (ptr (Ctx.par (c1 ++ .rf q lq kq vq bq :: c2)))).cell? (slot H (c1 ++ .rf q lq kq vq bq :: c2)) = some (.pointer (some ⟨i, 0, none⟩)) := by
          rw [World.cell?_setCell_other _ _ _ _ (fun e => slot_not_mem sT.nd (by rw [← e]; simp [BT.ids]))]
          exact hsl2
        simp only [ptr, Option.map_some, Lay.op, if_true] at fin hx2 hsl3 hp2
        simp only [Option.map_some] at hr4
        have Fin := Lib.hid fin
        clear fin s3 o3 s2 o2 sT e1 e2 ihl hok hqc hqi' hxt hnt hsub hnx
        generalize slot H (c1 ++ .rf q lq kq vq bq :: c2) = sa at *
        generalize Ctx.par (c1 ++ .rf q lq kq vq bq :: c2) = cp at *
        go_enter Try.func78, Try.ntmps78
        go_wp2_with fail
        go_region
        go_wp2_with fail
        go_ret
        exact ⟨rfl, Fin.out.2.1.drew, Fin.out.2.2.drew⟩
    · obtain ⟨i2, l2, k2, v2, b2, r2, hl2⟩ : ∃ i2 l2 k2 v2 b2 r2, l = .node i2 l2 k2 v2 b2 r2 := by
        cases l with
        | nil => exact absurd rfl hl
        | node i2 l2 k2 v2 b2 r2 => exact ⟨i2, l2, k2, v2, b2, r2, rfl⟩
      have hroot : l.root = some i2 := by rw [hl2]; rfl
      have hl3' : w.cell? ⟨i, 3, none⟩ = some (.pointer (some ⟨i2, 0, none⟩)) := by
        have := (sT.ht.1.cells_).2.2.1
        rw [hroot] at this; exact this
      clear hl3
      have ih := fun (w1 : World) st => ihl (.lf i k v b r :: c1) w1 st hl hok.1
      simp only [List.cons_append, slot] at ih
      have gw := fun (w2 : World) (st : St avlL w2 H (c1 ++ .rf q lq (Avl.minKV l).1 (Avl.minKV l).2 bq :: c2) (.node i (Avl.cutMin l).1 k v b r)) =>
        shrinkL_walk st (can0R_of (h0 := Avl.ht l) hok.2.1 hok.2.2.1 hok.2.2.2.1 hok.2.2.2.2 (by rw [hl2]; simp [Avl.ht]))
      simp only [← slot_frame H c1 c2 q lq kq vq bq (Avl.minKV l).1 (Avl.minKV l).2] at gw
      have e2 : Avl.minKV (.node i l k v b r) = Avl.minKV l := Avl.minKV_step hl
      have hmem : ∀ x, x ∈ allIds H (.lf i k v b r :: (c1 ++ .rf q lq kq vq bq :: c2)) l → x ∈ allIds H (c1 ++ .rf q lq kq vq bq :: c2) (.node i l k v b r) := fun x hx => by
        simp only [allIds, Ctx.ids, Fr.ids, BT.ids, List.mem_cons, List.mem_append] at hx ⊢; grind
      have fin0 := fun (w2 w3 : World) (hf : (Avl.cutMin l).2 = false) (o2 : Only (allIds H (.lf i k v b r :: (c1 ++ .rf q lq kq vq bq :: c2)) l) w w2)
          (st2 : St avlL w2 H (.lf i k v b r :: (c1 ++ .rf q lq (Avl.minKV l).1 (Avl.minKV l).2 bq :: c2)) (Avl.cutMin l).1) (hw : w3 = w2) =>
        show MinPost H c1 q lq kq vq bq c2 (.node i l k v b r) w (.returned (.bool false)) w3 from by
          subst hw
          have e1 : Avl.cutMin (.node i l k v b r) = (.node i (Avl.cutMin l).1 k v b r, false) := by rw [Avl.cutMin_step hl, if_neg (by simp [hf])]
          exact ⟨by rw [e1], by rw [e1, e2]; exact st2.upL, o2.mono (fun x _ hx => hmem x hx)⟩
      have fin1 := fun (w2 w3 : World) (hf : (Avl.cutMin l).2 = true) (o2 : Only (allIds H (.lf i k v b r :: (c1 ++ .rf q lq kq vq bq :: c2)) l) w w2)
          (st3 : St avlL w3 H (c1 ++ .rf q lq (Avl.minKV l).1 (Avl.minKV l).2 bq :: c2) (Avl.shrinkL (.node i (Avl.cutMin l).1 k v b r)).1)
          (o3 : Only (allIds H (c1 ++ .rf q lq (Avl.minKV l).1 (Avl.minKV l).2 bq :: c2) (.node i (Avl.cutMin l).1 k v b r)) w2 w3) =>
        show MinPost H c1 q lq kq vq bq c2 (.node i l k v b r) w (.returned (.bool (Avl.shrinkL (.node i (Avl.cutMin l).1 k v b r)).2)) w3 from by
          have e1 : Avl.cutMin (.node i l k v b r) = Avl.shrinkL (.node i (Avl.cutMin l).1 k v b r) := by rw [Avl.cutMin_step hl, if_pos hf]
          refine ⟨by rw [e1], by rw [e1, e2]; exact st3, (o2.mono (fun x _ hx => hmem x hx)).trans' o3 (fun x _ hx => ?_)⟩
          unfold allIds at hx ⊢
          rw [← ids_frame c1 c2 q lq kq vq bq] at hx
          simp only [BT.ids, List.mem_cons, List.mem_append] at hx ⊢
          have := fun h => Avl.mem_ids_cutMin (t := l) (b := x) h
          grind
      have Ih := Lib.hid (ih w sT.downL)
      have Gw := Lib.hid gw
      have F0 := Lib.hid fin0
      have F1 := Lib.hid fin1
      clear ih gw fin0 fin1 sT ihl hok hqc hqi' hmem e2 hl2 hroot hl hqi hiq
      generalize slot H (c1 ++ .rf q lq kq vq bq :: c2) = sa at *
      go_enter Try.func78, Try.ntmps78
      go_wp2_with fail
      refine Ih.out.mono ?_
      rintro e w2 ⟨rfl, st2, o2⟩
      cases hf : (Avl.cutMin l).2 with
      | true =>
        have G := Lib.hid (Gw.out _ st2.upL)
        have O2 := Lib.hid o2
        have Hf := Lib.hid hf
        clear st2 o2 hf
        go_wp2_with fail
        refine G.out.mono ?_
        rintro e w3 ⟨rfl, st3, o3⟩
        have St3 := Lib.hid st3
        have O3 := Lib.hid o3
        clear st3 o3
        go_wp2_with fail
        go_ret
        exact F1.out _ _ Hf.out O2.out St3.out O3.out
      | false =>
        have St2 := Lib.hid st2
        have O2 := Lib.hid o2
        have Hf := Lib.hid hf
        clear st2 o2 hf
        go_wp2_with fail
        go_ret
        exact F0.out _ _ Hf.out O2.out St2.out rfl

end Go.Proofs.Ytmhkknobgcdkkaa
