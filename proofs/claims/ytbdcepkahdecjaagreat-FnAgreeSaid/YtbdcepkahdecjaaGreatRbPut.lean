import Derived.Test.YtbdcepkahdecjaaGreatRbMend
namespace Go.Proofs.YtbdcepkahdecjaaGreat.Rb
open Go.RowKit Go.Proofs.YtbdcepkahdecjaaGreat
theorem fix_black_LL {i : Nat} {l r : BT} {k v : Int} {f g : Fr} {x : Ctx} (h : pcol (f :: g :: x) = 1) : fix i l k v r (f :: g :: x) = Ctx.plug (f :: g :: x) (.node i l k v 0 r) := by
  cases f <;> cases g <;> (simp only [pcol] at h; subst h; rw [fix, if_pos rfl])
theorem frame_nd {w : World} {H : Hd} {f : Fr} {x : Ctx} {h : Option Nat} (hc : IsC rbL w H (f :: x) h) : ∃ k v q l r, Nd rbL w f.id k v (pcol (f :: x)) q l r := by
  cases f with
  | lf i k v c r => exact ⟨_, _, _, _, _, hc.1⟩
  | rf i l k v c => exact ⟨_, _, _, _, _, hc.1⟩
set_option maxHeartbeats 1000000 in
theorem ins_walk (H : Hd) (S : List Nat) : ∀ (n : Nat) (c : Ctx), c.length ≤ n → ∀ (w : World) (i : Nat) (l : BT) (k v : Int) (r : BT) (m : Nat), St rbL w H c (.node i l k v 0 r) → Hole c m → (∀ x, x ∈ allIds H c (.node i l k v 0 r) → x ∈ S) →
    Calls Tryz.prog 51 #[.pointer (some ⟨H.tb, 0, none⟩), .pointer (some ⟨i, 0, none⟩)] w (InsPost H S (fix i l k v r c) w) := by
  intro n
  induction n with
  | zero =>
    intro c hn w i l k v r m s0 hh hS
    obtain rfl : c = [] := List.eq_nil_of_length_eq_zero (by omega)
    exact case1_nil s0 hS
  | succ n ih =>
    intro c hn w i l k v r m s0 hh hS
    cases c with
    | nil => exact case1_nil s0 hS
    | cons f x =>
      have i5 : w.cell? ⟨i, 5, none⟩ = some (.pointer (some ⟨f.id, 0, none⟩)) := s0.ht.1.cellP
      obtain ⟨kp, vp, qp, lp, rp, hp⟩ := frame_nd s0.hc
      refine case1_up i5 ?_
      cases x with
      | nil =>
        rw [hole_one hh] at hp
        exact case2_black i5 hp s0.plug
      | cons g x =>
        by_cases hb : pcol (f :: g :: x) = 1
        · rw [hb] at hp
          rw [fix_black_LL hb]
          exact case2_black i5 hp s0.plug
        · obtain ⟨h0, h1⟩ := hole_two hh hb
          rw [h0] at hp
          refine case2_red i5 hp ?_
          cases f with
          | lf p kp vp cp a =>
            simp only [pcol] at h0; subst h0
            obtain ⟨_, _, _, _, hg⟩ := hole_lf_red hh (by omega)
            cases g with
            | lf g kg vg cg u =>
              simp only [pcol] at h1; subst h1
              obtain ⟨hu, hx⟩ := hole_lf_black hg
              rw [fix, if_neg (by omega)]
              by_cases hc : col u = 0
              · rw [if_pos hc]
                cases u with
                | nil => simp [col] at hc
                | node ui ul ku vu cu ur =>
                  simp only [col] at hc; subst hc
                  exact case3LL_red s0 hS fun w' s' => ih x (by simp at hn; omega) w' g _ kg vg _ (m + 1) s' hx fun b hb => hS b (by simp only [allIds, Ctx.ids, Fr.ids, BT.ids, blk, List.mem_cons, List.mem_append] at hb ⊢; grind)
              · rw [if_neg hc]
                exact case3LL_black s0 ((col_cases hu).resolve_left hc) hS
            | rf g u kg vg cg =>
              simp only [pcol] at h1; subst h1
              obtain ⟨hu, hx⟩ := hole_rf_black hg
              rw [fix, if_neg (by omega)]
              by_cases hc : col u = 0
              · rw [if_pos hc]
                cases u with
                | nil => simp [col] at hc
                | node ui ul ku vu cu ur =>
                  simp only [col] at hc; subst hc
                  exact case3RL_red s0 hS fun w' s' => ih x (by simp at hn; omega) w' g _ kg vg _ (m + 1) s' hx fun b hb => hS b (by simp only [allIds, Ctx.ids, Fr.ids, BT.ids, blk, List.mem_cons, List.mem_append] at hb ⊢; grind)
              · rw [if_neg hc]
                exact case3RL_black s0 ((col_cases hu).resolve_left hc) hS
          | rf p a kp vp cp =>
            simp only [pcol] at h0; subst h0
            obtain ⟨_, _, _, _, hg⟩ := hole_rf_red hh (by omega)
            cases g with
            | lf g kg vg cg u =>
              simp only [pcol] at h1; subst h1
              obtain ⟨hu, hx⟩ := hole_lf_black hg
              rw [fix, if_neg (by omega)]
              by_cases hc : col u = 0
              · rw [if_pos hc]
                cases u with
                | nil => simp [col] at hc
                | node ui ul ku vu cu ur =>
                  simp only [col] at hc; subst hc
                  exact case3LR_red s0 hS fun w' s' => ih x (by simp at hn; omega) w' g _ kg vg _ (m + 1) s' hx fun b hb => hS b (by simp only [allIds, Ctx.ids, Fr.ids, BT.ids, blk, List.mem_cons, List.mem_append] at hb ⊢; grind)
              · rw [if_neg hc]
                exact case3LR_black s0 ((col_cases hu).resolve_left hc) hS
            | rf g u kg vg cg =>
              simp only [pcol] at h1; subst h1
              obtain ⟨hu, hx⟩ := hole_rf_black hg
              rw [fix, if_neg (by omega)]
              by_cases hc : col u = 0
              · rw [if_pos hc]
                cases u with
                | nil => simp [col] at hc
                | node ui ul ku vu cu ur =>
                  simp only [col] at hc; subst hc
                  exact case3RR_red s0 hS fun w' s' => ih x (by simp at hn; omega) w' g _ kg vg _ (m + 1) s' hx fun b hb => hS b (by simp only [allIds, Ctx.ids, Fr.ids, BT.ids, blk, List.mem_cons, List.mem_append] at hb ⊢; grind)
              · rw [if_neg hc]
                exact case3RR_black s0 ((col_cases hu).resolve_left hc) hS
theorem zero_one : ((0 : Int) == 1) = false := rfl
theorem stPlant {w : World} {H : Hd} {c : Ctx} (s : St rbL w H c .nil) (k v : Int) :
    St rbL (((w.alloc (.cells (rbL.cells k v 0 none none none) rbL.tn)).setCell (slot H c) (ptr (some w.heap.size))).setCell ⟨w.heap.size, 5, none⟩ (ptr c.par)) H c (.node w.heap.size .nil k v 0 .nil) ∧
      Only (allIds H c .nil) w (((w.alloc (.cells (rbL.cells k v 0 none none none) rbL.tn)).setCell (slot H c) (ptr (some w.heap.size))).setCell ⟨w.heap.size, 5, none⟩ (ptr c.par)) ∧
      Nd rbL ((w.alloc (.cells (rbL.cells k v 0 none none none) rbL.tn)).setCell (slot H c) (ptr (some w.heap.size))) w.heap.size k v 0 none none none := by
  have hlt := s.hc.lt
  have hsb := slot_block H c
  have hslt : (slot H c).block < w.heap.size := by
    rcases List.mem_cons.1 hsb with e | e
    · rw [e]; exact hlt.1
    · exact hlt.2 _ e
  have hnd : Nd rbL ((w.alloc (.cells (rbL.cells k v 0 none none none) rbL.tn)).setCell (slot H c) (ptr (some w.heap.size))) w.heap.size k v 0 none none none := Blk.far (Blk.new w _ _) (by omega) _
  have hno : w.heap.size ∉ H.tb :: c.ids := by
    simp only [List.mem_cons, not_or]
    exact ⟨by omega, fun hm => by have := hlt.2 _ hm; omega⟩
  refine ⟨⟨?_, ⟨?_, trivial, trivial⟩, ?_⟩, ?_, hnd⟩
  · refine ((s.hc.alloc _).slot_set s.ndc _).far (fun hm => hno (List.mem_cons_of_mem _ hm)) (fun e => hno ?_) _
    rw [← e]; simp
  · exact hnd.setP c.par
  · have h := s.nd
    simp only [allIds, BT.ids, List.append_nil] at h
    simp only [allIds, BT.ids, List.append_nil]
    have hp : (H.tb :: (c.ids ++ [w.heap.size])).Perm (w.heap.size :: (H.tb :: c.ids)) := (List.Perm.cons _ (List.perm_append_singleton _ _)).trans (List.Perm.swap _ _ _)
    exact hp.symm.nodup (List.nodup_cons.2 ⟨hno, h⟩)
  · refine (((Only.refl _ _).alloc _).setCell (.inl ?_) _).setCell (.inr (Nat.le_refl _)) _
    simp only [allIds, List.mem_cons, List.mem_append] at hsb ⊢
    rcases hsb with e | e
    · exact .inl e
    · exact .inr (.inl e)
def PutPost (o : Ord) (k v : Int) (H : Hd) (t : BT) (w : World) (e : Ending) (w' : World) : Prop :=
  e = .returned (.tuple #[]) ∧ St rbL w' { H with size := H.size + if has o k t then 0 else 1 } [] (put o w.heap.size k v t) ∧ Only (allIds H [] t) w w'
theorem putPost_new {o : Ord} {k v : Int} {H : Hd} {t : BT} {c : Ctx} {w w1 w2 : World} (hf : find o k [] t = (c, .nil)) (h1 : Only (allIds H c .nil) w w1) (h2 : InsPost H (w.heap.size :: allIds H c .nil) (fix w.heap.size .nil k v .nil c) w1 (.returned (.tuple #[])) w2) :
    PutPost o k v H t w (.returned (.tuple #[])) (w2.setCell ⟨H.tb, 1, none⟩ (.int .i64 (H.size + 1))) := by
  obtain ⟨_, s2, o2⟩ := h2
  have hp := find_plug o k [] t
  rw [hf] at hp
  have hmem : ∀ b, b ∈ allIds H c .nil → b ∈ allIds H [] t := fun b hb => (allIds_eq (c := c) (t := .nil) (c' := []) (t' := t) hp b).1 hb
  have f := s2.size_set (H.size + 1)
  refine ⟨rfl, ?_, ?_⟩
  · have e1 : has o k t = false := by unfold has; rw [hf]
    have e2 : put o w.heap.size k v t = fix w.heap.size .nil k v .nil c := by unfold put putAt; rw [hf]
    rw [e1, e2]
    exact f.1
  · refine (h1.mono fun b _ hb => hmem b hb).trans' (o2.setCell (p := ⟨H.tb, 1, none⟩) (.inl (by simp [allIds])) _) fun b hb hm => ?_
    rcases List.mem_cons.1 hm with e | e
    · omega
    · exact hmem b e
theorem putPost_here {o : Ord} {k v : Int} {H : Hd} {t : BT} {c : Ctx} {i : Nat} {l r : BT} {k' v' b : Int} {w w1 : World} (hf : find o k [] t = (c, .node i l k' v' b r)) (s : St rbL w H c (.node i l k' v' b r)) (n : Nat) (hw : w1 = ((w.drewN n).setCell ⟨i, 0, none⟩ (.iface 3 (.int .i64 k))).setCell ⟨i, 1, none⟩ (.iface 3 (.int .i64 v))) :
    PutPost o k v H t w (.returned (.tuple #[])) w1 := by
  subst hw
  have hp := find_plug o k [] t
  rw [hf] at hp
  have hmem : ∀ b', b' ∈ allIds H c (.node i l k' v' b r) → b' ∈ allIds H [] t := fun b' hb => (allIds_eq (c := c) (t := .node i l k' v' b r) (c' := []) (t' := t) hp b').1 hb
  have s1 := St.root_set (s.drewN n) (Nd.setK (L := rbL) (St.ht (s.drewN n)).1 k)
  have s2 := St.root_set s1.1 (Nd.setV (L := rbL) s1.1.ht.1 v)
  have e1 : has o k t = true := by unfold has; rw [hf]
  have e2 : put o w.heap.size k v t = Ctx.plug c (.node i l k v b r) := by unfold put putAt; rw [hf]
  refine ⟨rfl, ?_, (((Only.refl _ w).drewN n).trans (s1.2.mono fun b' _ hb => hmem b' hb)).trans (s2.2.mono fun b' _ hb => hmem b' hb)⟩
  rw [e1, e2]
  have := s2.1.plug
  simpa using this
theorem PutPost.drewN {o : Ord} {k v : Int} {H : Hd} {t : BT} {w w' : World} {e : Ending} {n : Nat} (h : PutPost o k v H t (w.drewN n) e w') : PutPost o k v H t w e w' := ⟨h.1, h.2.1, ((Only.refl _ w).drewN n).trans h.2.2⟩
set_option maxHeartbeats 4000000 in
set_option maxRecDepth 100000 in
theorem put_walk (o : Ord) (ho : o.fine) (ob : Nat) (k v : Int) (t : BT) (w : World) (H : Hd) (sT : St rbL w H [] t) (hok : ok t) (hcmp : H.cmp = cmpv ob) (hob : OrdAt w ob o) (hs0 : 0 ≤ H.size) (hs1 : H.size ≤ 1000000) :
    Calls Tryz.prog 43 #[.pointer (some ⟨H.tb, 0, none⟩), .iface 3 (.int .i64 k), .iface 3 (.int .i64 v)] w (PutPost o k v H t w) := by
  obtain ⟨hsl, hslf⟩ := sT.hc.slot_cell
  obtain ⟨hh1, hh2, hhf⟩ := sT.hc.header
  simp only [slot, ptr, rb_os, rb_om, hcmp] at hsl hslf hh1 hh2
  cases t with
  | nil =>
    have pl := fun n => St.plant (L := rbL) (sT.drewN n) k v 0
    have fin : ∀ (n : Nat) (w2 : World), InsPost H (w.heap.size :: allIds H [] .nil) (fix w.heap.size .nil k v .nil []) (((w.drewN n).alloc (.cells (rbL.cells k v 0 none none none) rbL.tn)).setCell ⟨H.tb, 0, none⟩ (ptr (some w.heap.size))) (.returned (.tuple #[])) w2 → PutPost o k v H .nil w (.returned (.tuple #[])) (w2.setCell ⟨H.tb, 1, none⟩ (.int .i64 (H.size + 1))) :=
      fun n w2 h2 => putPost_new rfl (((Only.refl _ w).drewN n).trans (pl n).2) h2
    have ic : ∀ n, Calls Tryz.prog 51 #[.pointer (some ⟨H.tb, 0, none⟩), .pointer (some ⟨w.heap.size, 0, none⟩)] (((w.drewN n).alloc (.cells (rbL.cells k v 0 none none none) rbL.tn)).setCell ⟨H.tb, 0, none⟩ (ptr (some w.heap.size))) (InsPost H (w.heap.size :: allIds H [] .nil) (fix w.heap.size .nil k v .nil []) (((w.drewN n).alloc (.cells (rbL.cells k v 0 none none none) rbL.tn)).setCell ⟨H.tb, 0, none⟩ (ptr (some w.heap.size)))) :=
      fun n => ins_walk H _ 0 [] (by simp) _ _ .nil k v .nil 0 (pl n).1 trivial (fun x hx => by simpa [allIds, BT.ids, Ctx.ids, or_comm] using hx)
    have hz : ∀ n (w2 : World), InsPost H (w.heap.size :: allIds H [] .nil) (fix w.heap.size .nil k v .nil []) (((w.drewN n).alloc (.cells (rbL.cells k v 0 none none none) rbL.tn)).setCell ⟨H.tb, 0, none⟩ (ptr (some w.heap.size))) (.returned (.tuple #[])) w2 → w2.cell? ⟨H.tb, 1, none⟩ = some (.int .i64 H.size) ∧ w2.frozen? ⟨H.tb, 1, none⟩ = false := fun n w2 h => ⟨h.2.1.hc.header.1, h.2.1.hc.header.2.2 1⟩
    have By := Lib.hid (by1_eq o ob k k w ho hob rfl)
    have fz := fun n => ((sT.drewN n).hc.alloc (.cells (rbL.cells k v 0 none none none) rbL.tn)).slot_cell
    simp only [slot, BT.root, ptr, Option.map_some, Lay.cells, Bool.false_eq_true, if_false, Option.map_none, zero_one] at fin ic hz fz
    have fz1 := fun n => (fz n).1
    have fz2 := fun n => (fz n).2
    have Fin := Lib.hid fin
    have IC := Lib.hid ic
    have HZ := Lib.hid hz
    simp only [BT.root, Option.map_none] at hsl
    clear sT hok hcmp hob pl fin ic hz fz
    go_enter Tryz.func43, Tryz.ntmps43
    go_wp2_with fail
    refine By.out.mono ?_
    rintro e w1 ⟨rfl, n, rfl⟩
    clear By
    go_wp2_with fail
    refine (IC.out n).mono ?_
    rintro e w2 ⟨rfl, s2, o2⟩
    have F := Lib.hid (Fin.out n w2 ⟨rfl, s2, o2⟩)
    obtain ⟨z1, z2⟩ := HZ.out n w2 ⟨rfl, s2, o2⟩
    clear s2 o2 Fin IC HZ
    go_wp2_with fail
    go_end0
    exact F.out
  | node i0 l0 k0 v0 b0 r0 =>
    have hcn : ∀ {c : Ctx} {s : BT} {m : Nat}, Hole c m → True := fun _ => trivial
    clear hcn
    generalize hT : BT.node i0 l0 k0 v0 b0 r0 = t at *
    have hroot : t.root = some i0 := by rw [← hT]; rfl
    have hfh : ∃ m, Hole (find o k [] t).1 m := by
      obtain ⟨m, hb, hc⟩ := hok
      obtain ⟨m', h1, _, _⟩ := find_hole (o := o) (k := k) (c := []) (t := t) (n := m) trivial hb (.inl hc)
      exact ⟨m', h1⟩
    rw [hroot] at hsl
    simp only [Option.map_some] at hsl
    have at0 : ∃ (c : Ctx) (i : Nat) (l : BT) (k' v' b : Int) (r : BT), Value.pointer (some ⟨i0, 0, none⟩) = .pointer (some ⟨i, 0, none⟩) ∧ (∃ m, w = w.drewN m) ∧ St rbL w H c (.node i l k' v' b r) ∧ find o k [] t = find o k c (.node i l k' v' b r) ∧ (BT.node i l k' v' b r).count < t.count + 1 :=
      ⟨[], i0, l0, k0, v0, b0, r0, rfl, ⟨0, rfl⟩, by rw [hT]; exact sT, by rw [hT], by rw [hT]; omega⟩
    have At0 := Lib.hid at0
    have HFH := Lib.hid hfh
    have HOB := Lib.hid hob
    have HCM := Lib.hid hcmp
    clear sT hok hcmp hob hT hroot at0 hfh
    go_enter Tryz.func43, Tryz.ntmps43
    go_wp2_with fail
    go_loopg [6, 7, 8] (t.count + 1) (fun g ins nd lp wr => (lp = .bool true ∧ ins = .pointer none ∧ ∃ (c : Ctx) (i : Nat) (l : BT) (k' v' b : Int) (r : BT), nd = .pointer (some ⟨i, 0, none⟩) ∧ (∃ m, wr = w.drewN m) ∧ St rbL w H c (.node i l k' v' b r) ∧ find o k [] t = find o k c (.node i l k' v' b r) ∧ (BT.node i l k' v' b r).count < g) ∨
      (lp = .bool false ∧ ins = .pointer (some ⟨w.heap.size, 0, none⟩) ∧ ∃ (c : Ctx) (p m : Nat), c.par = some p ∧ nd = .pointer (some ⟨p, 0, none⟩) ∧ wr = ((w.drewN m).alloc (.cells (rbL.cells k v 0 none none none) rbL.tn)).setCell (slot H c) (ptr (some w.heap.size)) ∧ St rbL w H c .nil ∧ find o k [] t = (c, .nil)))
    case atStart => exact .inl ⟨rfl, rfl, At0.out⟩
    case round =>
      clear hsl hslf hh1 hhf hh2 At0
      rcases hrel with ⟨hlp, hins, c, i, l, k', v', b, r, hnd, hw, hst, hfi, hg⟩ | ⟨hlp, hins, c, p, m, hpar, hnd, hw, hst, hfi⟩
      · subst hlp hins hnd
        obtain ⟨m, hw⟩ := hw
        have hsr : St rbL wr H c (.node i l k' v' b r) := by rw [hw]; exact hst.drewN m
        have HO := Lib.hid (show OrdAt wr ob o by rw [hw]; exact HOB.out.drewN m)
        have HW := Lib.hid hw
        obtain ⟨hk0, hv0, hl3, hr4⟩ := hsr.ht.1.cells_
        have hf := hsr.ht.1.frozen
        obtain ⟨_, hh2, _⟩ := hsr.hc.header
        simp only [ptr, rb_om, HCM.out] at hk0 hv0 hl3 hr4 hh2
        rcases Int.lt_trichotomy (o.rk k) (o.rk k') with hlt | he | hgt
        · have By := Lib.hid (fun (w1 : World) (h1 : OrdAt w1 ob o) => by1_lt o ob k k' w1 ho h1 hlt)
          have e1 := Lib.hid (hfi.trans (find_left hlt))
          cases l with
          | nil =>
            have fz := fun n => ((hsr.drewN n).downL.hc.alloc (.cells (rbL.cells k v 0 none none none) rbL.tn)).slot_cell
            simp only [slot, BT.root, ptr, Option.map_none, Lay.cells, Bool.false_eq_true, if_false, zero_one] at fz hl3
            have fz1 := fun n => (fz n).1
            have fz2 := fun n => (fz n).2
            have HS := Lib.hid hst.downL
            clear hst hsr hw fz hfi hlt
            go_wp2_with fail
            go_quiet ((go_at_call 21; exact Calls.quiet_of (By.out _ HO.out)))
            go_wp2_with fail
            go_roundg 0
            case measure => omega
            case rel => exact .inr ⟨rfl, by rw [HW.out]; rfl, .lf i k' v' b r :: c, i, m + nq, rfl, rfl, by rw [HW.out, World.drewN_drewN]; rfl, HS.out, e1.out⟩
          | node i2 l2 k2 v2 b2 r2 =>
            simp only [root_node, Option.map_some] at hl3
            have HS := Lib.hid hst.downL
            clear hst hsr hw hfi hlt
            go_wp2_with fail
            go_quiet ((go_at_call 21; exact Calls.quiet_of (By.out _ HO.out)))
            go_wp2_with fail
            go_roundg ((BT.node i2 l2 k2 v2 b2 r2).count + 1)
            case measure => simp only [BT.count] at hg ⊢; omega
            case rel => exact .inl ⟨rfl, rfl, _, i2, l2, k2, v2, b2, r2, rfl, ⟨m + nq, by rw [HW.out, World.drewN_drewN]⟩, HS.out, e1.out, by omega⟩
        · have By := Lib.hid (fun (w1 : World) (h1 : OrdAt w1 ob o) => by1_eq o ob k k' w1 ho h1 he)
          have Fin := Lib.hid (fun (n : Nat) (w1 : World) hw => putPost_here (v := v) (w1 := w1) (hfi.trans (find_here he)) hst n hw)
          clear hst hsr hw hfi he
          go_wp2_with fail
          go_quiet ((go_at_call 21; exact Calls.quiet_of (By.out _ HO.out)))
          go_wp2_with fail
          go_end0
          exact Fin.out (m + nq) _ (by rw [HW.out, World.drewN_drewN])
        · have By := Lib.hid (fun (w1 : World) (h1 : OrdAt w1 ob o) => by1_gt o ob k k' w1 ho h1 hgt)
          have e1 := Lib.hid (hfi.trans (find_right hgt))
          cases r with
          | nil =>
            have fz := fun n => ((hsr.drewN n).downR.hc.alloc (.cells (rbL.cells k v 0 none none none) rbL.tn)).slot_cell
            simp only [slot, BT.root, ptr, Option.map_none, Lay.cells, Bool.false_eq_true, if_false, zero_one] at fz hr4
            have fz1 := fun n => (fz n).1
            have fz2 := fun n => (fz n).2
            have HS := Lib.hid hst.downR
            clear hst hsr hw fz hfi hgt
            go_wp2_with fail
            go_quiet ((go_at_call 21; exact Calls.quiet_of (By.out _ HO.out)))
            go_wp2_with fail
            go_roundg 0
            case measure => omega
            case rel => exact .inr ⟨rfl, by rw [HW.out]; rfl, .rf i l k' v' b :: c, i, m + nq, rfl, rfl, by rw [HW.out, World.drewN_drewN]; rfl, HS.out, e1.out⟩
          | node i2 l2 k2 v2 b2 r2 =>
            simp only [root_node, Option.map_some] at hr4
            have HS := Lib.hid hst.downR
            clear hst hsr hw hfi hgt
            go_wp2_with fail
            go_quiet ((go_at_call 21; exact Calls.quiet_of (By.out _ HO.out)))
            go_wp2_with fail
            go_roundg ((BT.node i2 l2 k2 v2 b2 r2).count + 1)
            case measure => simp only [BT.count] at hg ⊢; omega
            case rel => exact .inl ⟨rfl, rfl, _, i2, l2, k2, v2, b2, r2, rfl, ⟨m + nq, by rw [HW.out, World.drewN_drewN]⟩, HS.out, e1.out, by omega⟩
      · obtain ⟨mh, hh⟩ := HFH.out
        rw [hfi] at hh
        have sp := stPlant (hst.drewN m) k v
        rw [hpar] at sp
        have IC : Calls Tryz.prog 51 #[.pointer (some ⟨H.tb, 0, none⟩), .pointer (some ⟨w.heap.size, 0, none⟩)] (wr.setCell ⟨w.heap.size, 5, none⟩ (.pointer (some ⟨p, 0, none⟩))) (InsPost H (w.heap.size :: allIds H c .nil) (fix w.heap.size .nil k v .nil c) (wr.setCell ⟨w.heap.size, 5, none⟩ (.pointer (some ⟨p, 0, none⟩)))) := by
          subst hw
          exact ins_walk H _ c.length c (Nat.le_refl _) _ _ .nil k v .nil mh sp.1 hh (fun x hx => by simp only [allIds, BT.ids, List.mem_cons, List.mem_append] at hx ⊢; grind)
        have o1 : Only (allIds H c .nil) w (wr.setCell ⟨w.heap.size, 5, none⟩ (.pointer (some ⟨p, 0, none⟩))) := by
          subst hw
          exact ((Only.refl _ w).drewN m).trans sp.2.1
        have n5 : wr.cell? ⟨w.heap.size, 5, none⟩ = some (.pointer none) := by rw [hw]; exact sp.2.2.cellP
        have nf : wr.frozen? ⟨w.heap.size, 5, none⟩ = false := by rw [hw]; exact sp.2.2.frozen 5
        have Fin := Lib.hid (fun (w2 : World) (h : InsPost H (w.heap.size :: allIds H c .nil) (fix w.heap.size .nil k v .nil c) (wr.setCell ⟨w.heap.size, 5, none⟩ (.pointer (some ⟨p, 0, none⟩))) (.returned (.tuple #[])) w2) => (⟨putPost_new hfi o1 h, h.2.1.hc.header.1, h.2.1.hc.header.2.2 1⟩ : PutPost o k v H t w (.returned (.tuple #[])) (w2.setCell ⟨H.tb, 1, none⟩ (.int .i64 (H.size + 1))) ∧ w2.cell? ⟨H.tb, 1, none⟩ = some (.int .i64 H.size) ∧ w2.frozen? ⟨H.tb, 1, none⟩ = false))
        have IC := Lib.hid IC
        subst hlp hins hnd
        clear hw hst hfi sp o1 hh hpar
        go_wp2_with fail
        refine IC.out.mono ?_
        rintro e w2 ⟨rfl, s2, o2⟩
        obtain ⟨f1, f2, f3⟩ := Fin.out w2 ⟨rfl, s2, o2⟩
        have F := Lib.hid f1
        clear s2 o2 Fin IC f1
        go_wp2_with fail
        go_end0
        exact F.out
end Go.Proofs.YtbdcepkahdecjaaGreat.Rb
