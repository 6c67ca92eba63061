/-
  Several texts as one (RbRem, RbRem2): each says its own in its remarks.
-/
import Derived.Test.YtbdcepkahdecjaaGreatRbPut
import Derived.Test.YtbdcepkahdecjaaGreatRbMend
namespace Go.Proofs.YtbdcepkahdecjaaGreat.Rb
open Go.RowKit Go.Proofs.YtbdcepkahdecjaaGreat
theorem lookup_walk (o : Ord) (ho : o.fine) (ob : Nat) (k : Int) (t : BT) (w : World) (H : Hd) (sT : St rbL w H [] t) (hcmp : H.cmp = cmpv ob) (hob : OrdAt w ob o) :
    Calls Tryz.prog 52 #[.pointer (some ⟨H.tb, 0, none⟩), .iface 3 (.int .i64 k)] w fun e w' => e = .returned (ptr (find o k [] t).2.root) ∧ ∃ n, w' = w.drewN n := by
  obtain ⟨hsl, _⟩ := sT.hc.slot_cell
  simp only [slot, ptr] at hsl
  have HT := Lib.hid sT
  have HCM := Lib.hid hcmp
  have HB := Lib.hid hob
  clear sT hcmp hob
  go_enter Tryz.func52, Tryz.ntmps52
  go_wp2_with fail
  go_loopg [5] (t.count + 1) (fun g p wr => ∃ (c : Ctx) (s : BT), p = ptr s.root ∧ (∃ m, wr = w.drewN m) ∧ St rbL wr H c s ∧ OrdAt wr ob o ∧ find o k [] t = find o k c s ∧ s.count < g)
  case atStart => exact ⟨[], t, rfl, ⟨0, rfl⟩, HT.out, HB.out, rfl, by omega⟩
  case round =>
    clear hsl
    obtain ⟨c, s, hp, hw, hst, hob, hsk, hg⟩ := hrel
    have HS := Lib.hid hst
    have HK := Lib.hid hsk
    have HW := Lib.hid hw
    have HO := Lib.hid hob
    cases s with
    | nil =>
      simp only [BT.root, ptr, Option.map_none] at hp
      subst hp
      clear hst hsk hw hob
      go_wp2_with fail
      go_ret
      exact ⟨by rw [HK.out]; rfl, HW.out⟩
    | node i l k' v' b r =>
      obtain ⟨hk0, hv0, hl3, hr4⟩ := hst.ht.1.cells_
      obtain ⟨_, hh1, _⟩ := hst.hc.header
      simp only [root_node, ptr, Option.map_some, rb_om, HCM.out] at hk0 hp hh1
      subst hp
      rcases Int.lt_trichotomy (o.rk k) (o.rk k') with hlt | he | hgt
      · have By := Lib.hid (fun (w1 : World) (h1 : OrdAt w1 ob o) => by1_lt o ob k k' w1 ho h1 hlt)
        have e1 := Lib.hid (find_left (c := c) (i := i) (l := l) (r := r) (v := v') (b := b) hlt)
        clear hst hsk hlt hob hw
        go_wp2_with fail
        go_quiet ((go_at_call 21; exact Calls.quiet_of (By.out _ HO.out)))
        go_wp2_with fail
        go_roundg (l.count + 1)
        case measure => simp only [BT.count] at hg; omega
        case rel =>
          obtain ⟨m, hm⟩ := HW.out
          refine ⟨.lf i k' v' b r :: c, l, rfl, ⟨m + nq, by rw [hm, World.drewN_drewN]⟩, (HS.out.drewN nq).downL, HO.out.drewN nq, ?_, by omega⟩
          rw [HK.out, e1.out]
      · have By := Lib.hid (fun (w1 : World) (h1 : OrdAt w1 ob o) => by1_eq o ob k k' w1 ho h1 he)
        have e1 := Lib.hid (find_here (c := c) (i := i) (l := l) (r := r) (v := v') (b := b) he)
        clear hst hsk he hob hw
        go_wp2_with fail
        go_quiet ((go_at_call 21; exact Calls.quiet_of (By.out _ HO.out)))
        go_wp2_with fail
        go_ret
        obtain ⟨m, hm⟩ := HW.out
        refine ⟨?_, m + nq, by rw [hm, World.drewN_drewN]⟩
        rw [HK.out, e1.out]; rfl
      · have By := Lib.hid (fun (w1 : World) (h1 : OrdAt w1 ob o) => by1_gt o ob k k' w1 ho h1 hgt)
        have e1 := Lib.hid (find_right (c := c) (i := i) (l := l) (r := r) (v := v') (b := b) hgt)
        clear hst hsk hgt hob hw
        go_wp2_with fail
        go_quiet ((go_at_call 21; exact Calls.quiet_of (By.out _ HO.out)))
        go_wp2_with fail
        go_roundg (r.count + 1)
        case measure => simp only [BT.count] at hg; omega
        case rel =>
          obtain ⟨m, hm⟩ := HW.out
          refine ⟨.rf i l k' v' b :: c, r, rfl, ⟨m + nq, by rw [hm, World.drewN_drewN]⟩, (HS.out.drewN nq).downR, HO.out.drewN nq, ?_, by omega⟩
          rw [HK.out, e1.out]
theorem maximum_walk (t : BT) (w : World) (H : Hd) (c : Ctx) (i : Nat) (hi : t.root = some i) (s0 : St rbL w H c t) :
    Calls Tryz.prog 53 #[.pointer (some ⟨i, 0, none⟩)] w fun e w' => e = .returned (ptr (maxp [] t).2.root) ∧ w' = w := by
  have m2 : ∀ (t : BT) (c c' : Ctx), (maxp c t).2 = (maxp c' t).2 := fun t c c' => by
    by_cases h : t = .nil
    · subst h; rfl
    · obtain ⟨j, jl, jk, jv, jb, h1, _⟩ := maxp_spec (t := t) c h
      rw [h1, h1]
  have H0 := Lib.hid s0
  have HI := Lib.hid hi
  have M2 := Lib.hid m2
  clear s0 hi m2
  go_enter Tryz.func53, Tryz.ntmps53
  go_wp2_with fail
  go_loopg [0] (t.count + 1) (fun g p wr => ∃ (c : Ctx) (i : Nat) (l : BT) (k v b : Int) (r : BT), p = .pointer (some ⟨i, 0, none⟩) ∧ wr = w ∧ St rbL w H c (.node i l k v b r) ∧ (maxp [] t).2 = (maxp [] (.node i l k v b r)).2 ∧ r.count < g)
  case atStart =>
    have h := HI.out
    cases t with
    | nil => cases h
    | node j l k v b r =>
      simp only [root_node, Option.some.injEq] at h
      subst h
      exact ⟨c, j, l, k, v, b, r, rfl, rfl, H0.out, rfl, by simp only [BT.count]; omega⟩
  case round =>
    clear HI H0
    obtain ⟨c, i, l, k, v, b, r, hp, hw, hst, he, hg⟩ := hrel
    subst hw hp
    have HE := Lib.hid he
    clear he
    obtain ⟨_, _, hl3, hr4⟩ := hst.ht.1.cells_
    cases r with
    | nil =>
      simp only [BT.root, ptr, Option.map_none] at hr4
      clear hst
      go_wp2_with fail
      go_ret
      exact ⟨by rw [HE.out, maxp_end]; rfl, rfl⟩
    | node i' l' k' v' b' r' =>
      have HS := Lib.hid hst.downR
      simp only [root_node, ptr, Option.map_some] at hr4
      clear hst
      go_wp2_with fail
      go_roundg (r'.count + 1)
      case measure => simp only [BT.count] at hg; omega
      case rel => exact ⟨_, i', l', k', v', b', r', rfl, rfl, HS.out, by rw [HE.out, maxp_step (by intro h; cases h)]; exact M2.out _ _ _, by omega⟩
theorem lift_some {w w' : World} {H : Hd} {c : Ctx} {t : BT} {x : Nat} {xl xr : BT} {kx vx bx : Int} {i : Option Nat} (s : St rbL w H c t) (hx : IsT rbL w (.node x xl kx vx bx xr) i) (hsub : ∀ b ∈ BT.ids (.node x xl kx vx bx xr), b ∈ t.ids) (hnx : (BT.ids (.node x xl kx vx bx xr)).Nodup)
    (h1 : IsC rbL w' H c (some x)) (h2 : Nd rbL w' x kx vx bx c.par xl.root xr.root) (o : Only [(slot H c).block, x] w w') : St rbL w' H c (.node x xl kx vx bx xr) ∧ Only (allIds H c t) w w' := by
  have hsn := slot_not_mem s.nd
  have hn' := hnx
  simp only [BT.ids, List.nodup_cons, List.mem_append, not_or] at hn'
  refine ⟨⟨h1, ⟨h2, hx.2.1.only o ?_, hx.2.2.only o ?_⟩, ?_⟩, o.mono fun b _ hb => ?_⟩
  · intro b hb hm
    simp only [List.mem_cons, List.not_mem_nil, or_false] at hm
    rcases hm with rfl | rfl
    · exact hsn (hsub _ (by simp [BT.ids, hb]))
    · exact hn'.1.1 hb
  · intro b hb hm
    simp only [List.mem_cons, List.not_mem_nil, or_false] at hm
    rcases hm with rfl | rfl
    · exact hsn (hsub _ (by simp [BT.ids, hb]))
    · exact hn'.1.2 hb
  · have hnd := s.nd
    unfold allIds at hnd ⊢
    rw [List.nodup_cons, List.nodup_append] at hnd ⊢
    rw [List.mem_append, not_or] at hnd ⊢
    exact ⟨⟨hnd.1.1, fun hm => hnd.1.2 (hsub _ hm)⟩, hnd.2.1, hnx, fun a ha b hb => hnd.2.2.2 a ha b (hsub b hb)⟩
  · simp only [List.mem_cons, List.not_mem_nil, or_false] at hb
    rcases hb with rfl | rfl
    · have := slot_block H c
      simp only [allIds, List.mem_cons, List.mem_append] at this ⊢
      rcases this with e | e
      · exact .inl e
      · exact .inr (.inl e)
    · have := hsub b (by simp [BT.ids])
      simp [allIds, this]
theorem lift_none {w w' : World} {H : Hd} {c : Ctx} {t : BT} (s : St rbL w H c t) (h1 : IsC rbL w' H c none) (o : Only [(slot H c).block] w w') : St rbL w' H c .nil ∧ Only (allIds H c t) w w' := by
  refine ⟨⟨h1, trivial, ?_⟩, o.mono fun b _ hb => ?_⟩
  · have hnd := s.ndc
    unfold allIds
    simpa [BT.ids] using hnd
  · simp only [List.mem_singleton] at hb
    subst hb
    have := slot_block H c
    simp only [allIds, List.mem_cons, List.mem_append] at this ⊢
    rcases this with e | e
    · exact .inl e
    · exact .inr (.inl e)
theorem not_above {w : World} {H : Hd} {c : Ctx} {t : BT} {b : Nat} (s : St rbL w H c t) (hb : b ∈ t.ids) : b ∉ H.tb :: c.ids := fun hm => by
  have hd := s.djc
  rcases List.mem_cons.1 hm with e | e
  · exact hd.1 (e ▸ hb)
  · exact hd.2 _ e hb
def CutPost (S : List Nat) (H : Hd) (T : BT) (w : World) (w' : World) : Prop := St rbL w' { H with size := H.size - 1 } [] T ∧ Only S w w'
theorem cutPost {S : List Nat} {H : Hd} {T : BT} {w W w3 : World} (hS : H.tb ∈ S) (oW : Only S w W) (o3 : Only S W w3) (s3 : St rbL w3 H [] T) : CutPost S H T w (w3.setCell ⟨H.tb, 1, none⟩ (.int .i64 (H.size - 1))) ∧ w3.cell? ⟨H.tb, 1, none⟩ = some (.int .i64 H.size) ∧ w3.frozen? ⟨H.tb, 1, none⟩ = false :=
  ⟨⟨(s3.size_set (H.size - 1)).1, (oW.trans o3).setCell (.inl hS) _⟩, s3.hc.header.1, s3.hc.header.2.2 1⟩
set_option maxHeartbeats 1000000 in
set_option maxRecDepth 100000 in
theorem remove_one_nil_b {w : World} {S : List Nat} {H : Hd} {c : Ctx} {i : Nat} {k v key : Int} (s0 : St rbL w H c (.node i .nil k v 1 .nil)) (hh : Hole c 1) (hS : ∀ y, y ∈ allIds H c (.node i .nil k v 1 .nil) → y ∈ S) (hs0 : 0 ≤ H.size) (hs1 : H.size ≤ 1000000)
    (lk : Calls Tryz.prog 52 #[.pointer (some ⟨H.tb, 0, none⟩), .iface 3 (.int .i64 key)] w fun e w' => e = .returned (.pointer (some ⟨i, 0, none⟩)) ∧ ∃ n, w' = w.drewN n) :
    Calls Tryz.prog 44 #[.pointer (some ⟨H.tb, 0, none⟩), .iface 3 (.int .i64 key)] w (Ret (CutPost S H (cut c (.node i .nil k v 1 .nil)) w)) := by
  have LK := Lib.hid lk
  have e0 : cut c (.node i .nil k v 1 .nil) = fin (delC c) .nil := by simp [cut, cutC, kid]
  rw [e0]
  clear e0
  clear lk
  go_enter Tryz.func44, Tryz.ntmps44
  go_wp2_with fail
  refine LK.out.mono ?_
  rintro e w1 ⟨rfl, n, rfl⟩
  clear LK
  obtain ⟨W, hW⟩ : ∃ W, W = w.drewN n := ⟨_, rfl⟩
  have sW : St rbL W H c (.node i .nil k v 1 .nil) := by rw [hW]; exact s0.drewN n
  have OW := Lib.hid (show Only S w W by rw [hW]; exact (Only.refl _ w).drewN n)
  rw [← hW]
  clear hW s0
  have i3 : W.cell? ⟨i, 3, none⟩ = some (.pointer none) := (Nd.cells_ sW.ht.1).2.2.1
  have i4 : W.cell? ⟨i, 4, none⟩ = some (.pointer none) := (Nd.cells_ sW.ht.1).2.2.2
  have ic : W.cell? ⟨i, 2, none⟩ = some (.bool true) := sW.ht.1.cellC
  have fi := sW.ht.1.frozen 2
  have u1 := stBlack sW
  have DW := Lib.hid (del_walk H S c.length c (Nat.le_refl _) _ i .nil k v 1 .nil 0 u1.1 hh hS)
  have o1 := u1.2.mono (S' := S) fun y _ hy => hS y hy
  have CC := Lib.hid (nodeColor_nil W)
  have O1 := Lib.hid o1
  have SW := Lib.hid sW
  clear sW u1 o1
  go_wp2_with fail
  refine CC.out.mono ?_
  rintro e w1 ⟨rfl, rfl⟩
  clear CC
  go_wp2_with fail
  refine DW.out.mono ?_
  rintro e w2 ⟨rfl, s2, o2⟩
  have O2 := Lib.hid (O1.out.trans o2)
  clear DW SW O1 o2
  rcases hcc : delC c with _ | ⟨f, x0⟩
  · rw [hcc] at s2
    have HCC := Lib.hid hcc
    clear hcc
    have hmS : ∀ y, y ∈ allIds H [] (.node i .nil k v 1 .nil) → y ∈ S := fun y hy => hS y (by rw [← HCC.out] at hy; simp only [allIds, List.mem_cons, List.mem_append, delC_mem] at hy ⊢; exact hy)
    have RP := Lib.hid (replace_nil s2.hc s2.ht.1 s2.ndc (not_above s2 (by simp [BT.ids])))
    have i52 := s2.ht.1.cellP
    have FN := Lib.hid (fun (w3 : World) h1 o3 => (lift_none s2 h1 o3 : St rbL w3 H [] .nil ∧ Only _ w2 w3))
    have KE := Lib.hid (fun (w3 : World) (o3 : Only [(slot H []).block] w2 w3) => (World.cell?_of_block (o3.block i s2.ht.1.lt (fun hm => not_above s2 (b := i) (by simp [BT.ids]) (by simp only [List.mem_singleton] at hm; rw [hm]; exact slot_block H []))) : w3.cell? ⟨i, 5, none⟩ = w2.cell? ⟨i, 5, none⟩))
    simp only [Ctx.par, rb_op, ptr, Option.map_none] at i52
    have MS := Lib.hid hmS
    clear s2 hmS
    go_wp2_with fail
    refine RP.out.mono ?_
    rintro e w3 ⟨rfl, h1, o3⟩
    have i53 := (KE.out w3 o3).trans i52
    obtain ⟨s3, o3'⟩ := FN.out w3 h1 o3
    have o4 := O2.out.trans (o3'.mono fun y _ hy => MS.out y hy)
    obtain ⟨f1, f2, f3⟩ := cutPost (hS _ (by simp [allIds])) OW.out o4 s3
    have F := Lib.hid f1
    clear f1
    clear s3 o3 o3' o4 h1 RP FN KE O2 OW
    go_wp2_with fail
    go_end0
    exact ⟨rfl, by rw [HCC.out]; exact F.out⟩
  · rw [hcc] at s2
    have HCC := Lib.hid hcc
    clear hcc
    have hmS : ∀ y, y ∈ allIds H (f :: x0) (.node i .nil k v 1 .nil) → y ∈ S := fun y hy => hS y (by rw [← HCC.out] at hy; simp only [allIds, List.mem_cons, List.mem_append, delC_mem] at hy ⊢; exact hy)
    have RP := Lib.hid (replace_nil s2.hc s2.ht.1 s2.ndc (not_above s2 (by simp [BT.ids])))
    have i52 := s2.ht.1.cellP
    have FN := Lib.hid (fun (w3 : World) h1 o3 => (lift_none s2 h1 o3 : St rbL w3 H (f :: x0) .nil ∧ Only _ w2 w3))
    have KE := Lib.hid (fun (w3 : World) (o3 : Only [(slot H (f :: x0)).block] w2 w3) => (World.cell?_of_block (o3.block i s2.ht.1.lt (fun hm => not_above s2 (b := i) (by simp [BT.ids]) (by simp only [List.mem_singleton] at hm; rw [hm]; exact slot_block H (f :: x0)))) : w3.cell? ⟨i, 5, none⟩ = w2.cell? ⟨i, 5, none⟩))
    simp only [Ctx.par, rb_op, ptr, Option.map_some] at i52
    have MS := Lib.hid hmS
    clear s2 hmS
    go_wp2_with fail
    refine RP.out.mono ?_
    rintro e w3 ⟨rfl, h1, o3⟩
    have i53 := (KE.out w3 o3).trans i52
    obtain ⟨s3, o3'⟩ := FN.out w3 h1 o3
    have o4 := O2.out.trans (o3'.mono fun y _ hy => MS.out y hy)
    obtain ⟨f1, f2, f3⟩ := cutPost (hS _ (by simp [allIds])) OW.out o4 s3.plug
    have F := Lib.hid f1
    clear f1
    clear s3 o3 o3' o4 h1 RP FN KE O2 OW
    go_wp2_with fail
    go_end0
    exact ⟨rfl, by rw [HCC.out]; exact F.out⟩
set_option maxHeartbeats 1000000 in
set_option maxRecDepth 100000 in
theorem remove_one_L_b {w : World} {S : List Nat} {H : Hd} {c : Ctx} {i : Nat} {k v key : Int} {x : Nat} {xl xr : BT} {kx vx : Int} (s0 : St rbL w H c (.node i (.node x xl kx vx 0 xr) k v 1 .nil)) (hh : Hole c 1) (hS : ∀ y, y ∈ allIds H c (.node i (.node x xl kx vx 0 xr) k v 1 .nil) → y ∈ S) (hs0 : 0 ≤ H.size) (hs1 : H.size ≤ 1000000)
    (lk : Calls Tryz.prog 52 #[.pointer (some ⟨H.tb, 0, none⟩), .iface 3 (.int .i64 key)] w fun e w' => e = .returned (.pointer (some ⟨i, 0, none⟩)) ∧ ∃ n, w' = w.drewN n) :
    Calls Tryz.prog 44 #[.pointer (some ⟨H.tb, 0, none⟩), .iface 3 (.int .i64 key)] w (Ret (CutPost S H (cut c (.node i (.node x xl kx vx 0 xr) k v 1 .nil)) w)) := by
  have LK := Lib.hid lk
  have e0 : cut c (.node i (.node x xl kx vx 0 xr) k v 1 .nil) = fin (delC c) (.node x xl kx vx 0 xr) := by simp [cut, cutC, kid]
  rw [e0]
  clear e0
  clear lk
  go_enter Tryz.func44, Tryz.ntmps44
  go_wp2_with fail
  refine LK.out.mono ?_
  rintro e w1 ⟨rfl, n, rfl⟩
  clear LK
  obtain ⟨W, hW⟩ : ∃ W, W = w.drewN n := ⟨_, rfl⟩
  have sW : St rbL W H c (.node i (.node x xl kx vx 0 xr) k v 1 .nil) := by rw [hW]; exact s0.drewN n
  have OW := Lib.hid (show Only S w W by rw [hW]; exact (Only.refl _ w).drewN n)
  rw [← hW]
  clear hW s0
  have i3 : W.cell? ⟨i, 3, none⟩ = some (.pointer (some ⟨x, 0, none⟩)) := (Nd.cells_ sW.ht.1).2.2.1
  have i4 : W.cell? ⟨i, 4, none⟩ = some (.pointer none) := (Nd.cells_ sW.ht.1).2.2.2
  have ic : W.cell? ⟨i, 2, none⟩ = some (.bool true) := sW.ht.1.cellC
  have fi := sW.ht.1.frozen 2
  have u1 := stRed sW
  have DW := Lib.hid (del_walk H S c.length c (Nat.le_refl _) _ i (.node x xl kx vx 0 xr) k v 0 .nil 0 u1.1 hh hS)
  have o1 := u1.2.mono (S' := S) fun y _ hy => hS y hy
  have CC := Lib.hid (nodeColor_node sW.ht.2.1.1)
  have O1 := Lib.hid o1
  have SW := Lib.hid sW
  clear sW u1 o1
  go_wp2_with fail
  refine CC.out.mono ?_
  rintro e w1 ⟨rfl, rfl⟩
  clear CC
  go_wp2_with fail
  refine DW.out.mono ?_
  rintro e w2 ⟨rfl, s2, o2⟩
  have O2 := Lib.hid (O1.out.trans o2)
  clear DW SW O1 o2
  rcases hcc : delC c with _ | ⟨f, x0⟩
  · rw [hcc] at s2
    have HCC := Lib.hid hcc
    clear hcc
    have hmS : ∀ y, y ∈ allIds H [] (.node i (.node x xl kx vx 0 xr) k v 0 .nil) → y ∈ S := fun y hy => hS y (by rw [← HCC.out] at hy; simp only [allIds, List.mem_cons, List.mem_append, delC_mem] at hy ⊢; exact hy)
    have hxi : i ≠ x := by have := s2.ndt; simp only [BT.ids, List.nodup_cons, List.mem_append, List.mem_cons, List.append_nil] at this; grind
    have RP := Lib.hid (replace_some s2.hc s2.ht.1 s2.ht.2.1.1 s2.ndc (not_above s2 (by simp [BT.ids])) (not_above s2 (by simp [BT.ids])) hxi)
    have i52 := s2.ht.1.cellP
    have FN := Lib.hid (fun (w3 : World) h1 h2 o3 => (lift_some s2 s2.ht.2.1 (fun y hy => by simp only [BT.ids, List.mem_cons, List.mem_append, List.not_mem_nil, or_false] at hy ⊢; exact .inr hy) (by have := s2.ndt; simp only [BT.ids, List.nodup_cons, List.append_nil] at this ⊢; exact this.2) h1 h2 o3 : St rbL w3 H [] (.node x xl kx vx 0 xr) ∧ Only _ w2 w3))
    have KE := Lib.hid (fun (w3 : World) (o3 : Only [(slot H []).block, x] w2 w3) => (World.cell?_of_block (o3.block i s2.ht.1.lt (fun hm => by
      simp only [List.mem_cons, List.not_mem_nil, or_false] at hm
      rcases hm with e | e
      · exact not_above s2 (b := i) (by simp [BT.ids]) (by rw [e]; exact slot_block H [])
      · exact hxi e)) : w3.cell? ⟨i, 5, none⟩ = w2.cell? ⟨i, 5, none⟩))
    simp only [Ctx.par, rb_op, ptr, Option.map_none] at i52
    have MS := Lib.hid hmS
    clear s2 hmS hxi
    go_wp2_with fail
    refine RP.out.mono ?_
    rintro e w3 ⟨rfl, h1, h2, o3⟩
    have i53 := (KE.out w3 o3).trans i52
    obtain ⟨s3, o3'⟩ := FN.out w3 h1 h2 o3
    have o4 := O2.out.trans (o3'.mono fun y _ hy => MS.out y hy)
    have x2 := s3.ht.1.cellC
    have xf := s3.ht.1.frozen 2
    have u4 := stBlack s3
    have o5 := o4.trans (u4.2.mono (S' := S) fun y _ hy => MS.out y (by simp only [allIds, BT.ids, List.mem_cons, List.mem_append, List.not_mem_nil, or_false] at hy ⊢; grind))
    simp only [rb_oc, rb_cv, zero_one] at x2
    obtain ⟨f1, f2, f3⟩ := cutPost (hS _ (by simp [allIds])) OW.out o5 u4.1
    have F := Lib.hid f1
    clear u4 o5 f1
    clear s3 o3 o3' o4 h1 h2 RP FN KE O2 OW
    go_wp2_with fail
    go_end0
    exact ⟨rfl, by rw [HCC.out]; exact F.out⟩
  · rw [hcc] at s2
    have HCC := Lib.hid hcc
    clear hcc
    have hmS : ∀ y, y ∈ allIds H (f :: x0) (.node i (.node x xl kx vx 0 xr) k v 0 .nil) → y ∈ S := fun y hy => hS y (by rw [← HCC.out] at hy; simp only [allIds, List.mem_cons, List.mem_append, delC_mem] at hy ⊢; exact hy)
    have hxi : i ≠ x := by have := s2.ndt; simp only [BT.ids, List.nodup_cons, List.mem_append, List.mem_cons, List.append_nil] at this; grind
    have RP := Lib.hid (replace_some s2.hc s2.ht.1 s2.ht.2.1.1 s2.ndc (not_above s2 (by simp [BT.ids])) (not_above s2 (by simp [BT.ids])) hxi)
    have i52 := s2.ht.1.cellP
    have FN := Lib.hid (fun (w3 : World) h1 h2 o3 => (lift_some s2 s2.ht.2.1 (fun y hy => by simp only [BT.ids, List.mem_cons, List.mem_append, List.not_mem_nil, or_false] at hy ⊢; exact .inr hy) (by have := s2.ndt; simp only [BT.ids, List.nodup_cons, List.append_nil] at this ⊢; exact this.2) h1 h2 o3 : St rbL w3 H (f :: x0) (.node x xl kx vx 0 xr) ∧ Only _ w2 w3))
    have KE := Lib.hid (fun (w3 : World) (o3 : Only [(slot H (f :: x0)).block, x] w2 w3) => (World.cell?_of_block (o3.block i s2.ht.1.lt (fun hm => by
      simp only [List.mem_cons, List.not_mem_nil, or_false] at hm
      rcases hm with e | e
      · exact not_above s2 (b := i) (by simp [BT.ids]) (by rw [e]; exact slot_block H (f :: x0))
      · exact hxi e)) : w3.cell? ⟨i, 5, none⟩ = w2.cell? ⟨i, 5, none⟩))
    simp only [Ctx.par, rb_op, ptr, Option.map_some] at i52
    have MS := Lib.hid hmS
    clear s2 hmS hxi
    go_wp2_with fail
    refine RP.out.mono ?_
    rintro e w3 ⟨rfl, h1, h2, o3⟩
    have i53 := (KE.out w3 o3).trans i52
    obtain ⟨s3, o3'⟩ := FN.out w3 h1 h2 o3
    have o4 := O2.out.trans (o3'.mono fun y _ hy => MS.out y hy)
    obtain ⟨f1, f2, f3⟩ := cutPost (hS _ (by simp [allIds])) OW.out o4 s3.plug
    have F := Lib.hid f1
    clear f1
    clear s3 o3 o3' o4 h1 h2 RP FN KE O2 OW
    go_wp2_with fail
    go_end0
    exact ⟨rfl, by rw [HCC.out]; exact F.out⟩
set_option maxHeartbeats 1000000 in
set_option maxRecDepth 100000 in
theorem remove_one_R_b {w : World} {S : List Nat} {H : Hd} {c : Ctx} {i : Nat} {k v key : Int} {x : Nat} {xl xr : BT} {kx vx : Int} (s0 : St rbL w H c (.node i .nil k v 1 (.node x xl kx vx 0 xr))) (hh : Hole c 1) (hS : ∀ y, y ∈ allIds H c (.node i .nil k v 1 (.node x xl kx vx 0 xr)) → y ∈ S) (hs0 : 0 ≤ H.size) (hs1 : H.size ≤ 1000000)
    (lk : Calls Tryz.prog 52 #[.pointer (some ⟨H.tb, 0, none⟩), .iface 3 (.int .i64 key)] w fun e w' => e = .returned (.pointer (some ⟨i, 0, none⟩)) ∧ ∃ n, w' = w.drewN n) :
    Calls Tryz.prog 44 #[.pointer (some ⟨H.tb, 0, none⟩), .iface 3 (.int .i64 key)] w (Ret (CutPost S H (cut c (.node i .nil k v 1 (.node x xl kx vx 0 xr))) w)) := by
  have LK := Lib.hid lk
  have e0 : cut c (.node i .nil k v 1 (.node x xl kx vx 0 xr)) = fin (delC c) (.node x xl kx vx 0 xr) := by simp [cut, cutC, kid]
  rw [e0]
  clear e0
  clear lk
  go_enter Tryz.func44, Tryz.ntmps44
  go_wp2_with fail
  refine LK.out.mono ?_
  rintro e w1 ⟨rfl, n, rfl⟩
  clear LK
  obtain ⟨W, hW⟩ : ∃ W, W = w.drewN n := ⟨_, rfl⟩
  have sW : St rbL W H c (.node i .nil k v 1 (.node x xl kx vx 0 xr)) := by rw [hW]; exact s0.drewN n
  have OW := Lib.hid (show Only S w W by rw [hW]; exact (Only.refl _ w).drewN n)
  rw [← hW]
  clear hW s0
  have i3 : W.cell? ⟨i, 3, none⟩ = some (.pointer none) := (Nd.cells_ sW.ht.1).2.2.1
  have i4 : W.cell? ⟨i, 4, none⟩ = some (.pointer (some ⟨x, 0, none⟩)) := (Nd.cells_ sW.ht.1).2.2.2
  have ic : W.cell? ⟨i, 2, none⟩ = some (.bool true) := sW.ht.1.cellC
  have fi := sW.ht.1.frozen 2
  have u1 := stRed sW
  have DW := Lib.hid (del_walk H S c.length c (Nat.le_refl _) _ i .nil k v 0 (.node x xl kx vx 0 xr) 0 u1.1 hh hS)
  have o1 := u1.2.mono (S' := S) fun y _ hy => hS y hy
  have CC := Lib.hid (nodeColor_node sW.ht.2.2.1)
  have O1 := Lib.hid o1
  have SW := Lib.hid sW
  clear sW u1 o1
  go_wp2_with fail
  refine CC.out.mono ?_
  rintro e w1 ⟨rfl, rfl⟩
  clear CC
  go_wp2_with fail
  refine DW.out.mono ?_
  rintro e w2 ⟨rfl, s2, o2⟩
  have O2 := Lib.hid (O1.out.trans o2)
  clear DW SW O1 o2
  rcases hcc : delC c with _ | ⟨f, x0⟩
  · rw [hcc] at s2
    have HCC := Lib.hid hcc
    clear hcc
    have hmS : ∀ y, y ∈ allIds H [] (.node i .nil k v 0 (.node x xl kx vx 0 xr)) → y ∈ S := fun y hy => hS y (by rw [← HCC.out] at hy; simp only [allIds, List.mem_cons, List.mem_append, delC_mem] at hy ⊢; exact hy)
    have hxi : i ≠ x := by have := s2.ndt; simp only [BT.ids, List.nodup_cons, List.mem_append, List.mem_cons, List.nil_append] at this; grind
    have RP := Lib.hid (replace_some s2.hc s2.ht.1 s2.ht.2.2.1 s2.ndc (not_above s2 (by simp [BT.ids])) (not_above s2 (by simp [BT.ids])) hxi)
    have i52 := s2.ht.1.cellP
    have FN := Lib.hid (fun (w3 : World) h1 h2 o3 => (lift_some s2 s2.ht.2.2 (fun y hy => by simp only [BT.ids, List.mem_cons, List.mem_append, List.not_mem_nil, false_or] at hy ⊢; exact .inr hy) (by have := s2.ndt; simp only [BT.ids, List.nodup_cons, List.nil_append] at this ⊢; exact this.2) h1 h2 o3 : St rbL w3 H [] (.node x xl kx vx 0 xr) ∧ Only _ w2 w3))
    have KE := Lib.hid (fun (w3 : World) (o3 : Only [(slot H []).block, x] w2 w3) => (World.cell?_of_block (o3.block i s2.ht.1.lt (fun hm => by
      simp only [List.mem_cons, List.not_mem_nil, or_false] at hm
      rcases hm with e | e
      · exact not_above s2 (b := i) (by simp [BT.ids]) (by rw [e]; exact slot_block H [])
      · exact hxi e)) : w3.cell? ⟨i, 5, none⟩ = w2.cell? ⟨i, 5, none⟩))
    simp only [Ctx.par, rb_op, ptr, Option.map_none] at i52
    have MS := Lib.hid hmS
    clear s2 hmS hxi
    go_wp2_with fail
    refine RP.out.mono ?_
    rintro e w3 ⟨rfl, h1, h2, o3⟩
    have i53 := (KE.out w3 o3).trans i52
    obtain ⟨s3, o3'⟩ := FN.out w3 h1 h2 o3
    have o4 := O2.out.trans (o3'.mono fun y _ hy => MS.out y hy)
    have x2 := s3.ht.1.cellC
    have xf := s3.ht.1.frozen 2
    have u4 := stBlack s3
    have o5 := o4.trans (u4.2.mono (S' := S) fun y _ hy => MS.out y (by simp only [allIds, BT.ids, List.mem_cons, List.mem_append, List.not_mem_nil, false_or] at hy ⊢; grind))
    simp only [rb_oc, rb_cv, zero_one] at x2
    obtain ⟨f1, f2, f3⟩ := cutPost (hS _ (by simp [allIds])) OW.out o5 u4.1
    have F := Lib.hid f1
    clear u4 o5 f1
    clear s3 o3 o3' o4 h1 h2 RP FN KE O2 OW
    go_wp2_with fail
    go_end0
    exact ⟨rfl, by rw [HCC.out]; exact F.out⟩
  · rw [hcc] at s2
    have HCC := Lib.hid hcc
    clear hcc
    have hmS : ∀ y, y ∈ allIds H (f :: x0) (.node i .nil k v 0 (.node x xl kx vx 0 xr)) → y ∈ S := fun y hy => hS y (by rw [← HCC.out] at hy; simp only [allIds, List.mem_cons, List.mem_append, delC_mem] at hy ⊢; exact hy)
    have hxi : i ≠ x := by have := s2.ndt; simp only [BT.ids, List.nodup_cons, List.mem_append, List.mem_cons, List.nil_append] at this; grind
    have RP := Lib.hid (replace_some s2.hc s2.ht.1 s2.ht.2.2.1 s2.ndc (not_above s2 (by simp [BT.ids])) (not_above s2 (by simp [BT.ids])) hxi)
    have i52 := s2.ht.1.cellP
    have FN := Lib.hid (fun (w3 : World) h1 h2 o3 => (lift_some s2 s2.ht.2.2 (fun y hy => by simp only [BT.ids, List.mem_cons, List.mem_append, List.not_mem_nil, false_or] at hy ⊢; exact .inr hy) (by have := s2.ndt; simp only [BT.ids, List.nodup_cons, List.nil_append] at this ⊢; exact this.2) h1 h2 o3 : St rbL w3 H (f :: x0) (.node x xl kx vx 0 xr) ∧ Only _ w2 w3))
    have KE := Lib.hid (fun (w3 : World) (o3 : Only [(slot H (f :: x0)).block, x] w2 w3) => (World.cell?_of_block (o3.block i s2.ht.1.lt (fun hm => by
      simp only [List.mem_cons, List.not_mem_nil, or_false] at hm
      rcases hm with e | e
      · exact not_above s2 (b := i) (by simp [BT.ids]) (by rw [e]; exact slot_block H (f :: x0))
      · exact hxi e)) : w3.cell? ⟨i, 5, none⟩ = w2.cell? ⟨i, 5, none⟩))
    simp only [Ctx.par, rb_op, ptr, Option.map_some] at i52
    have MS := Lib.hid hmS
    clear s2 hmS hxi
    go_wp2_with fail
    refine RP.out.mono ?_
    rintro e w3 ⟨rfl, h1, h2, o3⟩
    have i53 := (KE.out w3 o3).trans i52
    obtain ⟨s3, o3'⟩ := FN.out w3 h1 h2 o3
    have o4 := O2.out.trans (o3'.mono fun y _ hy => MS.out y hy)
    obtain ⟨f1, f2, f3⟩ := cutPost (hS _ (by simp [allIds])) OW.out o4 s3.plug
    have F := Lib.hid f1
    clear f1
    clear s3 o3 o3' o4 h1 h2 RP FN KE O2 OW
    go_wp2_with fail
    go_end0
    exact ⟨rfl, by rw [HCC.out]; exact F.out⟩
set_option maxHeartbeats 1000000 in
set_option maxRecDepth 100000 in
theorem remove_one_nil_r {w : World} {S : List Nat} {H : Hd} {f : Fr} {x0 : Ctx} {i : Nat} {k v key : Int} (s0 : St rbL w H (f :: x0) (.node i .nil k v 0 .nil)) (hS : ∀ y, y ∈ allIds H (f :: x0) (.node i .nil k v 0 .nil) → y ∈ S) (hs0 : 0 ≤ H.size) (hs1 : H.size ≤ 1000000)
    (lk : Calls Tryz.prog 52 #[.pointer (some ⟨H.tb, 0, none⟩), .iface 3 (.int .i64 key)] w fun e w' => e = .returned (.pointer (some ⟨i, 0, none⟩)) ∧ ∃ n, w' = w.drewN n) :
    Calls Tryz.prog 44 #[.pointer (some ⟨H.tb, 0, none⟩), .iface 3 (.int .i64 key)] w (Ret (CutPost S H (cut (f :: x0) (.node i .nil k v 0 .nil)) w)) := by
  have LK := Lib.hid lk
  have e0 : cut (f :: x0) (.node i .nil k v 0 .nil) = Ctx.plug (f :: x0) .nil := by simp [cut, cutC, kid, fin]
  rw [e0]
  clear e0
  clear lk
  go_enter Tryz.func44, Tryz.ntmps44
  go_wp2_with fail
  refine LK.out.mono ?_
  rintro e w1 ⟨rfl, n, rfl⟩
  clear LK
  obtain ⟨W, hW⟩ : ∃ W, W = w.drewN n := ⟨_, rfl⟩
  have sW : St rbL W H (f :: x0) (.node i .nil k v 0 .nil) := by rw [hW]; exact s0.drewN n
  have OW := Lib.hid (show Only S w W by rw [hW]; exact (Only.refl _ w).drewN n)
  rw [← hW]
  clear hW s0
  have i3 : W.cell? ⟨i, 3, none⟩ = some (.pointer none) := (Nd.cells_ sW.ht.1).2.2.1
  have i4 : W.cell? ⟨i, 4, none⟩ = some (.pointer none) := (Nd.cells_ sW.ht.1).2.2.2
  have ic : W.cell? ⟨i, 2, none⟩ = some (.bool false) := sW.ht.1.cellC
  have fi := sW.ht.1.frozen 2
  have s2 := sW
  have O2 := Lib.hid (Only.refl S W)
  clear sW
  have hmS : ∀ y, y ∈ allIds H (f :: x0) (.node i .nil k v 0 .nil) → y ∈ S := fun y hy => hS y (hy)
  have RP := Lib.hid (replace_nil s2.hc s2.ht.1 s2.ndc (not_above s2 (by simp [BT.ids])))
  have i52 := s2.ht.1.cellP
  have FN := Lib.hid (fun (w3 : World) h1 o3 => (lift_none s2 h1 o3 : St rbL w3 H (f :: x0) .nil ∧ Only _ W w3))
  have KE := Lib.hid (fun (w3 : World) (o3 : Only [(slot H (f :: x0)).block] W w3) => (World.cell?_of_block (o3.block i s2.ht.1.lt (fun hm => not_above s2 (b := i) (by simp [BT.ids]) (by simp only [List.mem_singleton] at hm; rw [hm]; exact slot_block H (f :: x0)))) : w3.cell? ⟨i, 5, none⟩ = W.cell? ⟨i, 5, none⟩))
  simp only [Ctx.par, rb_op, ptr, Option.map_some] at i52
  have MS := Lib.hid hmS
  clear s2 hmS
  go_wp2_with fail
  refine RP.out.mono ?_
  rintro e w3 ⟨rfl, h1, o3⟩
  have i53 := (KE.out w3 o3).trans i52
  obtain ⟨s3, o3'⟩ := FN.out w3 h1 o3
  have o4 := O2.out.trans (o3'.mono fun y _ hy => MS.out y hy)
  obtain ⟨f1, f2, f3⟩ := cutPost (hS _ (by simp [allIds])) OW.out o4 s3.plug
  have F := Lib.hid f1
  clear f1
  clear s3 o3 o3' o4 h1 RP FN KE O2 OW
  go_wp2_with fail
  go_end0
  exact ⟨rfl, F.out⟩
end Go.Proofs.YtbdcepkahdecjaaGreat.Rb

namespace Go.Proofs.YtbdcepkahdecjaaGreat.Rb
open Go.RowKit Go.Proofs.YtbdcepkahdecjaaGreat
theorem maxp_st {w : World} {H : Hd} {t : BT} {c : Ctx} (s : St rbL w H c t) (h : t ≠ .nil) : St rbL w H (maxp c t).1 (maxp c t).2 := by
  induction t generalizing c with
  | nil => exact absurd rfl h
  | node i l k v b r ihl ihr =>
    by_cases hr : r = .nil
    · subst hr; rw [maxp_end]; exact s
    · rw [maxp_step hr]; exact ihr s.downR hr
set_option maxHeartbeats 1000000 in
set_option maxRecDepth 100000 in
theorem remove_two_nil_b {w : World} {S : List Nat} {H : Hd} {cm : Ctx} {i i0 il ir : Nat} {k v key k0 v0 b0 : Int} {l0 r0 : BT} {c : Ctx} (s0 : St rbL w H c (.node i0 l0 k0 v0 b0 r0)) (hl0 : l0.root = some il) (hr0 : r0.root = some ir)
    (hm : ∀ c, (maxp c l0).2 = (.node i .nil k v 1 .nil)) (hcm : (maxp (.lf i0 k v b0 r0 :: c) l0).1 = cm) (hh : Hole cm 1) (hS0 : ∀ y, y ∈ allIds H c (.node i0 l0 k0 v0 b0 r0) → y ∈ S) (hs0 : 0 ≤ H.size) (hs1 : H.size ≤ 1000000)
    (lk : Calls Tryz.prog 52 #[.pointer (some ⟨H.tb, 0, none⟩), .iface 3 (.int .i64 key)] w fun e w' => e = .returned (.pointer (some ⟨i0, 0, none⟩)) ∧ ∃ n, w' = w.drewN n) :
    Calls Tryz.prog 44 #[.pointer (some ⟨H.tb, 0, none⟩), .iface 3 (.int .i64 key)] w (Ret (CutPost S H (cut cm (.node i .nil k v 1 .nil)) w)) := by
  have LK := Lib.hid lk
  have hln : l0 ≠ .nil := by rintro rfl; cases hl0
  have hpl : Ctx.plug cm (.node i .nil k v 1 .nil) = Ctx.plug c (.node i0 l0 k v b0 r0) := by
    obtain ⟨j, jl, jk, jv, jb, h1, _, _, h4⟩ := maxp_spec (t := l0) (.lf i0 k v b0 r0 :: c) hln
    have e := (h1 []).symm.trans (hm [])
    rw [← e, ← hcm]
    exact h4
  have hS : ∀ y, y ∈ allIds H cm (.node i .nil k v 1 .nil) → y ∈ S := fun y hy => hS0 y (by
    have := (allIds_eq hpl y).1 hy
    simp only [allIds, BT.ids, List.mem_cons, List.mem_append] at this ⊢
    exact this)
  have e0 : cut cm (.node i .nil k v 1 .nil) = fin (delC cm) .nil := by simp [cut, cutC, kid]
  rw [e0]
  clear e0
  have al : ∀ n, ∃ (_ : St rbL (((w.drewN n).setCell ⟨i0, 0, none⟩ (.iface 3 (.int .i64 k))).setCell ⟨i0, 1, none⟩ (.iface 3 (.int .i64 v))) H cm (.node i .nil k v 1 .nil)), Only S w (((w.drewN n).setCell ⟨i0, 0, none⟩ (.iface 3 (.int .i64 k))).setCell ⟨i0, 1, none⟩ (.iface 3 (.int .i64 v))) ∧
      ((w.drewN n).setCell ⟨i0, 0, none⟩ (.iface 3 (.int .i64 k))).cell? ⟨i, 1, none⟩ = some (.iface 3 (.int .i64 v)) ∧ ((w.drewN n).setCell ⟨i0, 0, none⟩ (.iface 3 (.int .i64 k))).cell? ⟨i0, 1, none⟩ = some (.iface 3 (.int .i64 v0)) ∧ ((w.drewN n).setCell ⟨i0, 0, none⟩ (.iface 3 (.int .i64 k))).frozen? ⟨i0, 1, none⟩ = false := fun n => by
    have u1 := St.root_set (s0.drewN n) (Nd.setK (L := rbL) (St.ht (s0.drewN n)).1 k)
    have u2 := St.root_set u1.1 (Nd.setV (L := rbL) u1.1.ht.1 v)
    have m2 := maxp_st u2.1.downL hln
    rw [hm, hcm] at m2
    have m1 := maxp_st u1.1.downL hln
    rw [hm] at m1
    exact ⟨m2, (((Only.refl _ w).drewN n).trans (u1.2.mono fun y _ hy => hS0 y hy)).trans (u2.2.mono fun y _ hy => hS0 y hy), (Nd.cells_ m1.ht.1).2.1, (Nd.cells_ u1.1.ht.1).2.1, u1.1.ht.1.frozen 1⟩
  have m0 := maxp_st s0.downL hln
  rw [hm] at m0
  have jk0 : w.cell? ⟨i, 0, none⟩ = some (.iface 3 (.int .i64 k)) := (Nd.cells_ m0.ht.1).1
  have ik0 : w.cell? ⟨i0, 0, none⟩ = some (.iface 3 (.int .i64 k0)) := (Nd.cells_ s0.ht.1).1
  have fk0 := s0.ht.1.frozen 0
  have q3 := (Nd.cells_ s0.ht.1).2.2.1
  have q4 := (Nd.cells_ s0.ht.1).2.2.2
  rw [hl0] at q3
  rw [hr0] at q4
  have mx := fun n => maximum_walk l0 (w.drewN n) H _ il hl0 (s0.downL.drewN n)
  rw [hm] at mx
  simp only [root_node, ptr, Option.map_some] at q3 q4 mx
  have MX := Lib.hid mx
  have AL := Lib.hid al
  clear lk hm hcm hpl al m0 mx hl0 hr0 hln
  go_enter Tryz.func44, Tryz.ntmps44
  go_wp2_with fail
  refine LK.out.mono ?_
  rintro e w1 ⟨rfl, n, rfl⟩
  clear LK
  go_wp2_with fail
  refine (MX.out n).mono ?_
  rintro e w1 ⟨rfl, rfl⟩
  clear MX
  obtain ⟨sW, oW, j1, i1, f1⟩ := AL.out n
  have OW := Lib.hid oW
  clear AL oW s0
  have i3 : (((w.drewN n).setCell ⟨i0, 0, none⟩ (.iface 3 (.int .i64 k))).setCell ⟨i0, 1, none⟩ (.iface 3 (.int .i64 v))).cell? ⟨i, 3, none⟩ = some (.pointer none) := (Nd.cells_ sW.ht.1).2.2.1
  have i4 : (((w.drewN n).setCell ⟨i0, 0, none⟩ (.iface 3 (.int .i64 k))).setCell ⟨i0, 1, none⟩ (.iface 3 (.int .i64 v))).cell? ⟨i, 4, none⟩ = some (.pointer none) := (Nd.cells_ sW.ht.1).2.2.2
  have ic : (((w.drewN n).setCell ⟨i0, 0, none⟩ (.iface 3 (.int .i64 k))).setCell ⟨i0, 1, none⟩ (.iface 3 (.int .i64 v))).cell? ⟨i, 2, none⟩ = some (.bool true) := sW.ht.1.cellC
  have fi := sW.ht.1.frozen 2
  have u1 := stBlack sW
  have DW := Lib.hid (del_walk H S cm.length cm (Nat.le_refl _) _ i .nil k v 1 .nil 0 u1.1 hh hS)
  have o1 := u1.2.mono (S' := S) fun y _ hy => hS y hy
  have CC := Lib.hid (nodeColor_nil (((w.drewN n).setCell ⟨i0, 0, none⟩ (.iface 3 (.int .i64 k))).setCell ⟨i0, 1, none⟩ (.iface 3 (.int .i64 v))))
  have O1 := Lib.hid o1
  have SW := Lib.hid sW
  clear sW u1 o1
  go_wp2_with fail
  refine CC.out.mono ?_
  rintro e w1 ⟨rfl, rfl⟩
  clear CC
  go_wp2_with fail
  refine DW.out.mono ?_
  rintro e w2 ⟨rfl, s2, o2⟩
  have O2 := Lib.hid (O1.out.trans o2)
  clear DW SW O1 o2
  rcases hcc : delC cm with _ | ⟨f, x0⟩
  · rw [hcc] at s2
    have HCC := Lib.hid hcc
    clear hcc
    have hmS : ∀ y, y ∈ allIds H [] (.node i .nil k v 1 .nil) → y ∈ S := fun y hy => hS y (by rw [← HCC.out] at hy; simp only [allIds, List.mem_cons, List.mem_append, delC_mem] at hy ⊢; exact hy)
    have RP := Lib.hid (replace_nil s2.hc s2.ht.1 s2.ndc (not_above s2 (by simp [BT.ids])))
    have i52 := s2.ht.1.cellP
    have FN := Lib.hid (fun (w3 : World) h1 o3 => (lift_none s2 h1 o3 : St rbL w3 H [] .nil ∧ Only _ w2 w3))
    have KE := Lib.hid (fun (w3 : World) (o3 : Only [(slot H []).block] w2 w3) => (World.cell?_of_block (o3.block i s2.ht.1.lt (fun hm => not_above s2 (b := i) (by simp [BT.ids]) (by simp only [List.mem_singleton] at hm; rw [hm]; exact slot_block H []))) : w3.cell? ⟨i, 5, none⟩ = w2.cell? ⟨i, 5, none⟩))
    simp only [Ctx.par, rb_op, ptr, Option.map_none] at i52
    have MS := Lib.hid hmS
    clear s2 hmS
    go_wp2_with fail
    refine RP.out.mono ?_
    rintro e w3 ⟨rfl, h1, o3⟩
    have i53 := (KE.out w3 o3).trans i52
    obtain ⟨s3, o3'⟩ := FN.out w3 h1 o3
    have o4 := O2.out.trans (o3'.mono fun y _ hy => MS.out y hy)
    obtain ⟨f1, f2, f3⟩ := cutPost (hS _ (by simp [allIds])) OW.out o4 s3
    have F := Lib.hid f1
    clear f1
    clear s3 o3 o3' o4 h1 RP FN KE O2 OW
    go_wp2_with fail
    go_end0
    exact ⟨rfl, by rw [HCC.out]; exact F.out⟩
  · rw [hcc] at s2
    have HCC := Lib.hid hcc
    clear hcc
    have hmS : ∀ y, y ∈ allIds H (f :: x0) (.node i .nil k v 1 .nil) → y ∈ S := fun y hy => hS y (by rw [← HCC.out] at hy; simp only [allIds, List.mem_cons, List.mem_append, delC_mem] at hy ⊢; exact hy)
    have RP := Lib.hid (replace_nil s2.hc s2.ht.1 s2.ndc (not_above s2 (by simp [BT.ids])))
    have i52 := s2.ht.1.cellP
    have FN := Lib.hid (fun (w3 : World) h1 o3 => (lift_none s2 h1 o3 : St rbL w3 H (f :: x0) .nil ∧ Only _ w2 w3))
    have KE := Lib.hid (fun (w3 : World) (o3 : Only [(slot H (f :: x0)).block] w2 w3) => (World.cell?_of_block (o3.block i s2.ht.1.lt (fun hm => not_above s2 (b := i) (by simp [BT.ids]) (by simp only [List.mem_singleton] at hm; rw [hm]; exact slot_block H (f :: x0)))) : w3.cell? ⟨i, 5, none⟩ = w2.cell? ⟨i, 5, none⟩))
    simp only [Ctx.par, rb_op, ptr, Option.map_some] at i52
    have MS := Lib.hid hmS
    clear s2 hmS
    go_wp2_with fail
    refine RP.out.mono ?_
    rintro e w3 ⟨rfl, h1, o3⟩
    have i53 := (KE.out w3 o3).trans i52
    obtain ⟨s3, o3'⟩ := FN.out w3 h1 o3
    have o4 := O2.out.trans (o3'.mono fun y _ hy => MS.out y hy)
    obtain ⟨f1, f2, f3⟩ := cutPost (hS _ (by simp [allIds])) OW.out o4 s3.plug
    have F := Lib.hid f1
    clear f1
    clear s3 o3 o3' o4 h1 RP FN KE O2 OW
    go_wp2_with fail
    go_end0
    exact ⟨rfl, by rw [HCC.out]; exact F.out⟩
set_option maxHeartbeats 1000000 in
set_option maxRecDepth 100000 in
theorem remove_two_L_b {w : World} {S : List Nat} {H : Hd} {cm : Ctx} {i i0 il ir : Nat} {k v key k0 v0 b0 : Int} {x : Nat} {xl xr : BT} {kx vx : Int} {l0 r0 : BT} {c : Ctx} (s0 : St rbL w H c (.node i0 l0 k0 v0 b0 r0)) (hl0 : l0.root = some il) (hr0 : r0.root = some ir)
    (hm : ∀ c, (maxp c l0).2 = (.node i (.node x xl kx vx 0 xr) k v 1 .nil)) (hcm : (maxp (.lf i0 k v b0 r0 :: c) l0).1 = cm) (hh : Hole cm 1) (hS0 : ∀ y, y ∈ allIds H c (.node i0 l0 k0 v0 b0 r0) → y ∈ S) (hs0 : 0 ≤ H.size) (hs1 : H.size ≤ 1000000)
    (lk : Calls Tryz.prog 52 #[.pointer (some ⟨H.tb, 0, none⟩), .iface 3 (.int .i64 key)] w fun e w' => e = .returned (.pointer (some ⟨i0, 0, none⟩)) ∧ ∃ n, w' = w.drewN n) :
    Calls Tryz.prog 44 #[.pointer (some ⟨H.tb, 0, none⟩), .iface 3 (.int .i64 key)] w (Ret (CutPost S H (cut cm (.node i (.node x xl kx vx 0 xr) k v 1 .nil)) w)) := by
  have LK := Lib.hid lk
  have hln : l0 ≠ .nil := by rintro rfl; cases hl0
  have hpl : Ctx.plug cm (.node i (.node x xl kx vx 0 xr) k v 1 .nil) = Ctx.plug c (.node i0 l0 k v b0 r0) := by
    obtain ⟨j, jl, jk, jv, jb, h1, _, _, h4⟩ := maxp_spec (t := l0) (.lf i0 k v b0 r0 :: c) hln
    have e := (h1 []).symm.trans (hm [])
    rw [← e, ← hcm]
    exact h4
  have hS : ∀ y, y ∈ allIds H cm (.node i (.node x xl kx vx 0 xr) k v 1 .nil) → y ∈ S := fun y hy => hS0 y (by
    have := (allIds_eq hpl y).1 hy
    simp only [allIds, BT.ids, List.mem_cons, List.mem_append] at this ⊢
    exact this)
  have e0 : cut cm (.node i (.node x xl kx vx 0 xr) k v 1 .nil) = fin (delC cm) (.node x xl kx vx 0 xr) := by simp [cut, cutC, kid]
  rw [e0]
  clear e0
  have al : ∀ n, ∃ (_ : St rbL (((w.drewN n).setCell ⟨i0, 0, none⟩ (.iface 3 (.int .i64 k))).setCell ⟨i0, 1, none⟩ (.iface 3 (.int .i64 v))) H cm (.node i (.node x xl kx vx 0 xr) k v 1 .nil)), Only S w (((w.drewN n).setCell ⟨i0, 0, none⟩ (.iface 3 (.int .i64 k))).setCell ⟨i0, 1, none⟩ (.iface 3 (.int .i64 v))) ∧
      ((w.drewN n).setCell ⟨i0, 0, none⟩ (.iface 3 (.int .i64 k))).cell? ⟨i, 1, none⟩ = some (.iface 3 (.int .i64 v)) ∧ ((w.drewN n).setCell ⟨i0, 0, none⟩ (.iface 3 (.int .i64 k))).cell? ⟨i0, 1, none⟩ = some (.iface 3 (.int .i64 v0)) ∧ ((w.drewN n).setCell ⟨i0, 0, none⟩ (.iface 3 (.int .i64 k))).frozen? ⟨i0, 1, none⟩ = false := fun n => by
    have u1 := St.root_set (s0.drewN n) (Nd.setK (L := rbL) (St.ht (s0.drewN n)).1 k)
    have u2 := St.root_set u1.1 (Nd.setV (L := rbL) u1.1.ht.1 v)
    have m2 := maxp_st u2.1.downL hln
    rw [hm, hcm] at m2
    have m1 := maxp_st u1.1.downL hln
    rw [hm] at m1
    exact ⟨m2, (((Only.refl _ w).drewN n).trans (u1.2.mono fun y _ hy => hS0 y hy)).trans (u2.2.mono fun y _ hy => hS0 y hy), (Nd.cells_ m1.ht.1).2.1, (Nd.cells_ u1.1.ht.1).2.1, u1.1.ht.1.frozen 1⟩
  have m0 := maxp_st s0.downL hln
  rw [hm] at m0
  have jk0 : w.cell? ⟨i, 0, none⟩ = some (.iface 3 (.int .i64 k)) := (Nd.cells_ m0.ht.1).1
  have ik0 : w.cell? ⟨i0, 0, none⟩ = some (.iface 3 (.int .i64 k0)) := (Nd.cells_ s0.ht.1).1
  have fk0 := s0.ht.1.frozen 0
  have q3 := (Nd.cells_ s0.ht.1).2.2.1
  have q4 := (Nd.cells_ s0.ht.1).2.2.2
  rw [hl0] at q3
  rw [hr0] at q4
  have mx := fun n => maximum_walk l0 (w.drewN n) H _ il hl0 (s0.downL.drewN n)
  rw [hm] at mx
  simp only [root_node, ptr, Option.map_some] at q3 q4 mx
  have MX := Lib.hid mx
  have AL := Lib.hid al
  clear lk hm hcm hpl al m0 mx hl0 hr0 hln
  go_enter Tryz.func44, Tryz.ntmps44
  go_wp2_with fail
  refine LK.out.mono ?_
  rintro e w1 ⟨rfl, n, rfl⟩
  clear LK
  go_wp2_with fail
  refine (MX.out n).mono ?_
  rintro e w1 ⟨rfl, rfl⟩
  clear MX
  obtain ⟨sW, oW, j1, i1, f1⟩ := AL.out n
  have OW := Lib.hid oW
  clear AL oW s0
  have i3 : (((w.drewN n).setCell ⟨i0, 0, none⟩ (.iface 3 (.int .i64 k))).setCell ⟨i0, 1, none⟩ (.iface 3 (.int .i64 v))).cell? ⟨i, 3, none⟩ = some (.pointer (some ⟨x, 0, none⟩)) := (Nd.cells_ sW.ht.1).2.2.1
  have i4 : (((w.drewN n).setCell ⟨i0, 0, none⟩ (.iface 3 (.int .i64 k))).setCell ⟨i0, 1, none⟩ (.iface 3 (.int .i64 v))).cell? ⟨i, 4, none⟩ = some (.pointer none) := (Nd.cells_ sW.ht.1).2.2.2
  have ic : (((w.drewN n).setCell ⟨i0, 0, none⟩ (.iface 3 (.int .i64 k))).setCell ⟨i0, 1, none⟩ (.iface 3 (.int .i64 v))).cell? ⟨i, 2, none⟩ = some (.bool true) := sW.ht.1.cellC
  have fi := sW.ht.1.frozen 2
  have u1 := stRed sW
  have DW := Lib.hid (del_walk H S cm.length cm (Nat.le_refl _) _ i (.node x xl kx vx 0 xr) k v 0 .nil 0 u1.1 hh hS)
  have o1 := u1.2.mono (S' := S) fun y _ hy => hS y hy
  have CC := Lib.hid (nodeColor_node sW.ht.2.1.1)
  have O1 := Lib.hid o1
  have SW := Lib.hid sW
  clear sW u1 o1
  go_wp2_with fail
  refine CC.out.mono ?_
  rintro e w1 ⟨rfl, rfl⟩
  clear CC
  go_wp2_with fail
  refine DW.out.mono ?_
  rintro e w2 ⟨rfl, s2, o2⟩
  have O2 := Lib.hid (O1.out.trans o2)
  clear DW SW O1 o2
  rcases hcc : delC cm with _ | ⟨f, x0⟩
  · rw [hcc] at s2
    have HCC := Lib.hid hcc
    clear hcc
    have hmS : ∀ y, y ∈ allIds H [] (.node i (.node x xl kx vx 0 xr) k v 0 .nil) → y ∈ S := fun y hy => hS y (by rw [← HCC.out] at hy; simp only [allIds, List.mem_cons, List.mem_append, delC_mem] at hy ⊢; exact hy)
    have hxi : i ≠ x := by have := s2.ndt; simp only [BT.ids, List.nodup_cons, List.mem_append, List.mem_cons, List.append_nil] at this; grind
    have RP := Lib.hid (replace_some s2.hc s2.ht.1 s2.ht.2.1.1 s2.ndc (not_above s2 (by simp [BT.ids])) (not_above s2 (by simp [BT.ids])) hxi)
    have i52 := s2.ht.1.cellP
    have FN := Lib.hid (fun (w3 : World) h1 h2 o3 => (lift_some s2 s2.ht.2.1 (fun y hy => by simp only [BT.ids, List.mem_cons, List.mem_append, List.not_mem_nil, or_false] at hy ⊢; exact .inr hy) (by have := s2.ndt; simp only [BT.ids, List.nodup_cons, List.append_nil] at this ⊢; exact this.2) h1 h2 o3 : St rbL w3 H [] (.node x xl kx vx 0 xr) ∧ Only _ w2 w3))
    have KE := Lib.hid (fun (w3 : World) (o3 : Only [(slot H []).block, x] w2 w3) => (World.cell?_of_block (o3.block i s2.ht.1.lt (fun hm => by
      simp only [List.mem_cons, List.not_mem_nil, or_false] at hm
      rcases hm with e | e
      · exact not_above s2 (b := i) (by simp [BT.ids]) (by rw [e]; exact slot_block H [])
      · exact hxi e)) : w3.cell? ⟨i, 5, none⟩ = w2.cell? ⟨i, 5, none⟩))
    simp only [Ctx.par, rb_op, ptr, Option.map_none] at i52
    have MS := Lib.hid hmS
    clear s2 hmS hxi
    go_wp2_with fail
    refine RP.out.mono ?_
    rintro e w3 ⟨rfl, h1, h2, o3⟩
    have i53 := (KE.out w3 o3).trans i52
    obtain ⟨s3, o3'⟩ := FN.out w3 h1 h2 o3
    have o4 := O2.out.trans (o3'.mono fun y _ hy => MS.out y hy)
    have x2 := s3.ht.1.cellC
    have xf := s3.ht.1.frozen 2
    have u4 := stBlack s3
    have o5 := o4.trans (u4.2.mono (S' := S) fun y _ hy => MS.out y (by simp only [allIds, BT.ids, List.mem_cons, List.mem_append, List.not_mem_nil, or_false] at hy ⊢; grind))
    simp only [rb_oc, rb_cv, zero_one] at x2
    obtain ⟨f1, f2, f3⟩ := cutPost (hS _ (by simp [allIds])) OW.out o5 u4.1
    have F := Lib.hid f1
    clear u4 o5 f1
    clear s3 o3 o3' o4 h1 h2 RP FN KE O2 OW
    go_wp2_with fail
    go_end0
    exact ⟨rfl, by rw [HCC.out]; exact F.out⟩
  · rw [hcc] at s2
    have HCC := Lib.hid hcc
    clear hcc
    have hmS : ∀ y, y ∈ allIds H (f :: x0) (.node i (.node x xl kx vx 0 xr) k v 0 .nil) → y ∈ S := fun y hy => hS y (by rw [← HCC.out] at hy; simp only [allIds, List.mem_cons, List.mem_append, delC_mem] at hy ⊢; exact hy)
    have hxi : i ≠ x := by have := s2.ndt; simp only [BT.ids, List.nodup_cons, List.mem_append, List.mem_cons, List.append_nil] at this; grind
    have RP := Lib.hid (replace_some s2.hc s2.ht.1 s2.ht.2.1.1 s2.ndc (not_above s2 (by simp [BT.ids])) (not_above s2 (by simp [BT.ids])) hxi)
    have i52 := s2.ht.1.cellP
    have FN := Lib.hid (fun (w3 : World) h1 h2 o3 => (lift_some s2 s2.ht.2.1 (fun y hy => by simp only [BT.ids, List.mem_cons, List.mem_append, List.not_mem_nil, or_false] at hy ⊢; exact .inr hy) (by have := s2.ndt; simp only [BT.ids, List.nodup_cons, List.append_nil] at this ⊢; exact this.2) h1 h2 o3 : St rbL w3 H (f :: x0) (.node x xl kx vx 0 xr) ∧ Only _ w2 w3))
    have KE := Lib.hid (fun (w3 : World) (o3 : Only [(slot H (f :: x0)).block, x] w2 w3) => (World.cell?_of_block (o3.block i s2.ht.1.lt (fun hm => by
      simp only [List.mem_cons, List.not_mem_nil, or_false] at hm
      rcases hm with e | e
      · exact not_above s2 (b := i) (by simp [BT.ids]) (by rw [e]; exact slot_block H (f :: x0))
      · exact hxi e)) : w3.cell? ⟨i, 5, none⟩ = w2.cell? ⟨i, 5, none⟩))
    simp only [Ctx.par, rb_op, ptr, Option.map_some] at i52
    have MS := Lib.hid hmS
    clear s2 hmS hxi
    go_wp2_with fail
    refine RP.out.mono ?_
    rintro e w3 ⟨rfl, h1, h2, o3⟩
    have i53 := (KE.out w3 o3).trans i52
    obtain ⟨s3, o3'⟩ := FN.out w3 h1 h2 o3
    have o4 := O2.out.trans (o3'.mono fun y _ hy => MS.out y hy)
    obtain ⟨f1, f2, f3⟩ := cutPost (hS _ (by simp [allIds])) OW.out o4 s3.plug
    have F := Lib.hid f1
    clear f1
    clear s3 o3 o3' o4 h1 h2 RP FN KE O2 OW
    go_wp2_with fail
    go_end0
    exact ⟨rfl, by rw [HCC.out]; exact F.out⟩
set_option maxHeartbeats 1000000 in
set_option maxRecDepth 100000 in
theorem remove_two_nil_r {w : World} {S : List Nat} {H : Hd} {f : Fr} {x0 : Ctx} {i i0 il ir : Nat} {k v key k0 v0 b0 : Int} {l0 r0 : BT} {c : Ctx} (s0 : St rbL w H c (.node i0 l0 k0 v0 b0 r0)) (hl0 : l0.root = some il) (hr0 : r0.root = some ir)
    (hm : ∀ c, (maxp c l0).2 = (.node i .nil k v 0 .nil)) (hcm : (maxp (.lf i0 k v b0 r0 :: c) l0).1 = (f :: x0)) (hS0 : ∀ y, y ∈ allIds H c (.node i0 l0 k0 v0 b0 r0) → y ∈ S) (hs0 : 0 ≤ H.size) (hs1 : H.size ≤ 1000000)
    (lk : Calls Tryz.prog 52 #[.pointer (some ⟨H.tb, 0, none⟩), .iface 3 (.int .i64 key)] w fun e w' => e = .returned (.pointer (some ⟨i0, 0, none⟩)) ∧ ∃ n, w' = w.drewN n) :
    Calls Tryz.prog 44 #[.pointer (some ⟨H.tb, 0, none⟩), .iface 3 (.int .i64 key)] w (Ret (CutPost S H (cut (f :: x0) (.node i .nil k v 0 .nil)) w)) := by
  have LK := Lib.hid lk
  have hln : l0 ≠ .nil := by rintro rfl; cases hl0
  have hpl : Ctx.plug (f :: x0) (.node i .nil k v 0 .nil) = Ctx.plug c (.node i0 l0 k v b0 r0) := by
    obtain ⟨j, jl, jk, jv, jb, h1, _, _, h4⟩ := maxp_spec (t := l0) (.lf i0 k v b0 r0 :: c) hln
    have e := (h1 []).symm.trans (hm [])
    rw [← e, ← hcm]
    exact h4
  have hS : ∀ y, y ∈ allIds H (f :: x0) (.node i .nil k v 0 .nil) → y ∈ S := fun y hy => hS0 y (by
    have := (allIds_eq hpl y).1 hy
    simp only [allIds, BT.ids, List.mem_cons, List.mem_append] at this ⊢
    exact this)
  have e0 : cut (f :: x0) (.node i .nil k v 0 .nil) = Ctx.plug (f :: x0) .nil := by simp [cut, cutC, kid, fin]
  rw [e0]
  clear e0
  have al : ∀ n, ∃ (_ : St rbL (((w.drewN n).setCell ⟨i0, 0, none⟩ (.iface 3 (.int .i64 k))).setCell ⟨i0, 1, none⟩ (.iface 3 (.int .i64 v))) H (f :: x0) (.node i .nil k v 0 .nil)), Only S w (((w.drewN n).setCell ⟨i0, 0, none⟩ (.iface 3 (.int .i64 k))).setCell ⟨i0, 1, none⟩ (.iface 3 (.int .i64 v))) ∧
      ((w.drewN n).setCell ⟨i0, 0, none⟩ (.iface 3 (.int .i64 k))).cell? ⟨i, 1, none⟩ = some (.iface 3 (.int .i64 v)) ∧ ((w.drewN n).setCell ⟨i0, 0, none⟩ (.iface 3 (.int .i64 k))).cell? ⟨i0, 1, none⟩ = some (.iface 3 (.int .i64 v0)) ∧ ((w.drewN n).setCell ⟨i0, 0, none⟩ (.iface 3 (.int .i64 k))).frozen? ⟨i0, 1, none⟩ = false := fun n => by
    have u1 := St.root_set (s0.drewN n) (Nd.setK (L := rbL) (St.ht (s0.drewN n)).1 k)
    have u2 := St.root_set u1.1 (Nd.setV (L := rbL) u1.1.ht.1 v)
    have m2 := maxp_st u2.1.downL hln
    rw [hm, hcm] at m2
    have m1 := maxp_st u1.1.downL hln
    rw [hm] at m1
    exact ⟨m2, (((Only.refl _ w).drewN n).trans (u1.2.mono fun y _ hy => hS0 y hy)).trans (u2.2.mono fun y _ hy => hS0 y hy), (Nd.cells_ m1.ht.1).2.1, (Nd.cells_ u1.1.ht.1).2.1, u1.1.ht.1.frozen 1⟩
  have m0 := maxp_st s0.downL hln
  rw [hm] at m0
  have jk0 : w.cell? ⟨i, 0, none⟩ = some (.iface 3 (.int .i64 k)) := (Nd.cells_ m0.ht.1).1
  have ik0 : w.cell? ⟨i0, 0, none⟩ = some (.iface 3 (.int .i64 k0)) := (Nd.cells_ s0.ht.1).1
  have fk0 := s0.ht.1.frozen 0
  have q3 := (Nd.cells_ s0.ht.1).2.2.1
  have q4 := (Nd.cells_ s0.ht.1).2.2.2
  rw [hl0] at q3
  rw [hr0] at q4
  have mx := fun n => maximum_walk l0 (w.drewN n) H _ il hl0 (s0.downL.drewN n)
  rw [hm] at mx
  simp only [root_node, ptr, Option.map_some] at q3 q4 mx
  have MX := Lib.hid mx
  have AL := Lib.hid al
  clear lk hm hcm hpl al m0 mx hl0 hr0 hln
  go_enter Tryz.func44, Tryz.ntmps44
  go_wp2_with fail
  refine LK.out.mono ?_
  rintro e w1 ⟨rfl, n, rfl⟩
  clear LK
  go_wp2_with fail
  refine (MX.out n).mono ?_
  rintro e w1 ⟨rfl, rfl⟩
  clear MX
  obtain ⟨sW, oW, j1, i1, f1⟩ := AL.out n
  have OW := Lib.hid oW
  clear AL oW s0
  have i3 : (((w.drewN n).setCell ⟨i0, 0, none⟩ (.iface 3 (.int .i64 k))).setCell ⟨i0, 1, none⟩ (.iface 3 (.int .i64 v))).cell? ⟨i, 3, none⟩ = some (.pointer none) := (Nd.cells_ sW.ht.1).2.2.1
  have i4 : (((w.drewN n).setCell ⟨i0, 0, none⟩ (.iface 3 (.int .i64 k))).setCell ⟨i0, 1, none⟩ (.iface 3 (.int .i64 v))).cell? ⟨i, 4, none⟩ = some (.pointer none) := (Nd.cells_ sW.ht.1).2.2.2
  have ic : (((w.drewN n).setCell ⟨i0, 0, none⟩ (.iface 3 (.int .i64 k))).setCell ⟨i0, 1, none⟩ (.iface 3 (.int .i64 v))).cell? ⟨i, 2, none⟩ = some (.bool false) := sW.ht.1.cellC
  have fi := sW.ht.1.frozen 2
  have s2 := sW
  have O2 := Lib.hid (Only.refl S (((w.drewN n).setCell ⟨i0, 0, none⟩ (.iface 3 (.int .i64 k))).setCell ⟨i0, 1, none⟩ (.iface 3 (.int .i64 v))))
  clear sW
  have hmS : ∀ y, y ∈ allIds H (f :: x0) (.node i .nil k v 0 .nil) → y ∈ S := fun y hy => hS y (hy)
  have RP := Lib.hid (replace_nil s2.hc s2.ht.1 s2.ndc (not_above s2 (by simp [BT.ids])))
  have i52 := s2.ht.1.cellP
  have FN := Lib.hid (fun (w3 : World) h1 o3 => (lift_none s2 h1 o3 : St rbL w3 H (f :: x0) .nil ∧ Only _ (((w.drewN n).setCell ⟨i0, 0, none⟩ (.iface 3 (.int .i64 k))).setCell ⟨i0, 1, none⟩ (.iface 3 (.int .i64 v))) w3))
  have KE := Lib.hid (fun (w3 : World) (o3 : Only [(slot H (f :: x0)).block] (((w.drewN n).setCell ⟨i0, 0, none⟩ (.iface 3 (.int .i64 k))).setCell ⟨i0, 1, none⟩ (.iface 3 (.int .i64 v))) w3) => (World.cell?_of_block (o3.block i s2.ht.1.lt (fun hm => not_above s2 (b := i) (by simp [BT.ids]) (by simp only [List.mem_singleton] at hm; rw [hm]; exact slot_block H (f :: x0)))) : w3.cell? ⟨i, 5, none⟩ = (((w.drewN n).setCell ⟨i0, 0, none⟩ (.iface 3 (.int .i64 k))).setCell ⟨i0, 1, none⟩ (.iface 3 (.int .i64 v))).cell? ⟨i, 5, none⟩))
  simp only [Ctx.par, rb_op, ptr, Option.map_some] at i52
  have MS := Lib.hid hmS
  clear s2 hmS
  go_wp2_with fail
  refine RP.out.mono ?_
  rintro e w3 ⟨rfl, h1, o3⟩
  have i53 := (KE.out w3 o3).trans i52
  obtain ⟨s3, o3'⟩ := FN.out w3 h1 o3
  have o4 := O2.out.trans (o3'.mono fun y _ hy => MS.out y hy)
  obtain ⟨f1, f2, f3⟩ := cutPost (hS _ (by simp [allIds])) OW.out o4 s3.plug
  have F := Lib.hid f1
  clear f1
  clear s3 o3 o3' o4 h1 RP FN KE O2 OW
  go_wp2_with fail
  go_end0
  exact ⟨rfl, F.out⟩
end Go.Proofs.YtbdcepkahdecjaaGreat.Rb
