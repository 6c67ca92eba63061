/-
  Several texts as one (RbIns, RbIns3, RbDel, RbDel2, RbDelW): each says its own in its remarks.
-/
import Derived.Test.YtbdcepkahdecjaaGreatRbBases
namespace Go.Proofs.YtbdcepkahdecjaaGreat.Rb
open Go.RowKit Go.Proofs.YtbdcepkahdecjaaGreat
theorem stBlack {w : World} {H : Hd} {c : Ctx} {i : Nat} {l r : BT} {k v b : Int} (s : St rbL w H c (.node i l k v b r)) :
    St rbL (w.setCell ⟨i, 2, none⟩ (.bool true)) H c (.node i l k v 1 r) ∧ Only (allIds H c (.node i l k v b r)) w (w.setCell ⟨i, 2, none⟩ (.bool true)) :=
  St.root_set s (Nd.setC (L := rbL) s.ht.1 1)
theorem stRed {w : World} {H : Hd} {c : Ctx} {i : Nat} {l r : BT} {k v b : Int} (s : St rbL w H c (.node i l k v b r)) :
    St rbL (w.setCell ⟨i, 2, none⟩ (.bool false)) H c (.node i l k v 0 r) ∧ Only (allIds H c (.node i l k v b r)) w (w.setCell ⟨i, 2, none⟩ (.bool false)) :=
  St.root_set s (Nd.setC (L := rbL) s.ht.1 0)
theorem allIds_eq {H : Hd} {c : Ctx} {t : BT} {c' : Ctx} {t' : BT} (h : Ctx.plug c t = Ctx.plug c' t') : ∀ b, b ∈ allIds H c t ↔ b ∈ allIds H c' t' := fun b => by
  rw [← (allIds_plug H c t).mem_iff, ← (allIds_plug H c' t').mem_iff, h]
theorem allIds_lf {H : Hd} {c : Ctx} {i : Nat} {k v cc : Int} {t r : BT} {b : Nat} : b ∈ allIds H (.lf i k v cc r :: c) t ↔ b ∈ allIds H c (.node i t k v cc r) := allIds_eq (t := t) (c := .lf i k v cc r :: c) (t' := .node i t k v cc r) (c' := c) rfl b
theorem allIds_rf {H : Hd} {c : Ctx} {i : Nat} {k v cc : Int} {t l : BT} {b : Nat} : b ∈ allIds H (.rf i l k v cc :: c) t ↔ b ∈ allIds H c (.node i l k v cc t) := allIds_eq (t := t) (c := .rf i l k v cc :: c) (t' := .node i l k v cc t) (c' := c) rfl b
theorem grandparent_walk {w : World} {i p : Nat} {x : Option Nat} (hi : w.cell? ⟨i, 5, none⟩ = some (.pointer (some ⟨p, 0, none⟩))) (hp : w.cell? ⟨p, 5, none⟩ = some (ptr x)) :
    Calls Tryz.prog 67 #[.pointer (some ⟨i, 0, none⟩)] w fun e w' => e = .returned (ptr x) ∧ w = w' := by
  simp only [ptr] at hp ⊢
  generalize x.map (fun n => (⟨n, 0, none⟩ : Addr)) = y at *
  go_enter Tryz.func67, Tryz.ntmps67
  go_wp2_with fail
  go_ret
  exact ⟨rfl, rfl⟩
set_option maxRecDepth 100000 in
theorem case5L_walk {w : World} {H : Hd} {c : Ctx} {i p g : Nat} {l r pr u : BT} {k v bi kp vp bp kg vg bg : Int} (s0 : St rbL w H c (.node g (.node p (.node i l k v bi r) kp vp bp pr) kg vg bg u)) :
    Calls Tryz.prog 70 #[.pointer (some ⟨H.tb, 0, none⟩), .pointer (some ⟨i, 0, none⟩)] w fun e w' => e = .returned (.tuple #[]) ∧ St rbL w' H c (.node p (.node i l k v bi r) kp vp 1 (.node g pr kg vg 0 u)) ∧ Only (allIds H c (.node g (.node p (.node i l k v bi r) kp vp bp pr) kg vg bg u)) w w' := by
  have s1 := (stBlack s0.downL).1.upL
  have o1 := (stBlack s0.downL).2
  have s2 := stRed s1
  have o2 : Only (allIds H c (.node g (.node p (.node i l k v bi r) kp vp bp pr) kg vg bg u)) w ((w.setCell ⟨p, 2, none⟩ (.bool true)).setCell ⟨g, 2, none⟩ (.bool false)) :=
    Only.trans (S := allIds H c (.node g (.node p (.node i l k v bi r) kp vp bp pr) kg vg bg u)) (o1.mono fun b _ hb => allIds_lf.1 hb) (s2.2.mono fun b _ hb => by simp only [allIds, BT.ids, List.mem_cons, List.mem_append] at hb ⊢; exact hb)
  have i5 : w.cell? ⟨i, 5, none⟩ = some (.pointer (some ⟨p, 0, none⟩)) := (s0.downL.ht.2.1.1).cellP
  have p5 : w.cell? ⟨p, 5, none⟩ = some (.pointer (some ⟨g, 0, none⟩)) := (s0.ht.2.1.1).cellP
  have pf := (s0.ht.2.1.1).frozen 2
  have gf := s0.ht.1.frozen 2
  have i5' : (w.setCell ⟨p, 2, none⟩ (.bool true)).cell? ⟨i, 5, none⟩ = some (.pointer (some ⟨p, 0, none⟩)) := (s1.downL.ht.2.1.1).cellP
  have p5' : (w.setCell ⟨p, 2, none⟩ (.bool true)).cell? ⟨p, 5, none⟩ = some (.pointer (some ⟨g, 0, none⟩)) := (s1.ht.2.1.1).cellP
  have gf' := s1.ht.1.frozen 2
  have gc' : (w.setCell ⟨p, 2, none⟩ (.bool true)).cell? ⟨g, 2, none⟩ = some (.bool (bg == 1)) := s1.ht.1.cellC
  have pc : w.cell? ⟨p, 2, none⟩ = some (.bool (bp == 1)) := (s0.ht.2.1.1).cellC
  obtain ⟨s2, _⟩ := s2
  have i52 : ((w.setCell ⟨p, 2, none⟩ (.bool true)).setCell ⟨g, 2, none⟩ (.bool false)).cell? ⟨i, 5, none⟩ = some (.pointer (some ⟨p, 0, none⟩)) := (s2.downL.ht.2.1.1).cellP
  have p3 : ((w.setCell ⟨p, 2, none⟩ (.bool true)).setCell ⟨g, 2, none⟩ (.bool false)).cell? ⟨p, 3, none⟩ = some (.pointer (some ⟨i, 0, none⟩)) := (Nd.cells_ s2.ht.2.1.1).2.2.1
  have g3 : ((w.setCell ⟨p, 2, none⟩ (.bool true)).setCell ⟨g, 2, none⟩ (.bool false)).cell? ⟨g, 3, none⟩ = some (.pointer (some ⟨p, 0, none⟩)) := (Nd.cells_ s2.ht.1).2.2.1
  have C1 := Lib.hid (grandparent_walk (x := some g) i5' p5')
  have C2 := Lib.hid (fun n => rotR_walk (s2.drewN n))
  have O2 := Lib.hid o2
  have qs := rbPtr_same
  clear s0 s1 s2 o1 o2
  go_enter Tryz.func70, Tryz.ntmps70
  go_wp2_with fail
  refine C1.out.mono ?_
  rintro e w1 ⟨rfl, rfl⟩
  simp only [ptr, Option.map_some]
  clear C1
  go_wp2_with fail
  go_quiet (fail)
  go_wp2_with fail
  refine (C2.out _).mono ?_
  rintro e w3 ⟨rfl, s3, o3⟩
  have F := Lib.hid (show St rbL w3 H c (.node p (.node i l k v bi r) kp vp 1 (.node g pr kg vg 0 u)) ∧ Only (allIds H c (.node g (.node p (.node i l k v bi r) kp vp bp pr) kg vg bg u)) w w3 from ⟨s3, (O2.out.drewN _).trans (o3.mono fun b _ hb => by simp only [allIds, BT.ids, List.mem_cons, List.mem_append] at hb ⊢; exact hb)⟩)
  clear s3 o3 C2 O2
  go_wp2_with fail
  go_end0
  exact ⟨rfl, F.out⟩
set_option maxRecDepth 100000 in
theorem case5R_walk {w : World} {H : Hd} {c : Ctx} {i p g : Nat} {l r pr u : BT} {k v bi kp vp bp kg vg bg : Int} (s0 : St rbL w H c (.node g u kg vg bg (.node p pr kp vp bp (.node i r k v bi l)))) :
    Calls Tryz.prog 70 #[.pointer (some ⟨H.tb, 0, none⟩), .pointer (some ⟨i, 0, none⟩)] w fun e w' => e = .returned (.tuple #[]) ∧ St rbL w' H c (.node p (.node g u kg vg 0 pr) kp vp 1 (.node i r k v bi l)) ∧ Only (allIds H c (.node g u kg vg bg (.node p pr kp vp bp (.node i r k v bi l)))) w w' := by
  have s1 := (stBlack s0.downR).1.upR
  have o1 := (stBlack s0.downR).2
  have s2 := stRed s1
  have o2 : Only (allIds H c (.node g u kg vg bg (.node p pr kp vp bp (.node i r k v bi l)))) w ((w.setCell ⟨p, 2, none⟩ (.bool true)).setCell ⟨g, 2, none⟩ (.bool false)) :=
    Only.trans (S := allIds H c (.node g u kg vg bg (.node p pr kp vp bp (.node i r k v bi l)))) (o1.mono fun b _ hb => allIds_rf.1 hb) (s2.2.mono fun b _ hb => by simp only [allIds, BT.ids, List.mem_cons, List.mem_append] at hb ⊢; exact hb)
  have i5 : w.cell? ⟨i, 5, none⟩ = some (.pointer (some ⟨p, 0, none⟩)) := (s0.downR.ht.2.2.1).cellP
  have p5 : w.cell? ⟨p, 5, none⟩ = some (.pointer (some ⟨g, 0, none⟩)) := (s0.ht.2.2.1).cellP
  have pf := (s0.ht.2.2.1).frozen 2
  have gf := s0.ht.1.frozen 2
  have i5' : (w.setCell ⟨p, 2, none⟩ (.bool true)).cell? ⟨i, 5, none⟩ = some (.pointer (some ⟨p, 0, none⟩)) := (s1.downR.ht.2.2.1).cellP
  have p5' : (w.setCell ⟨p, 2, none⟩ (.bool true)).cell? ⟨p, 5, none⟩ = some (.pointer (some ⟨g, 0, none⟩)) := (s1.ht.2.2.1).cellP
  have gf' := s1.ht.1.frozen 2
  have gc' : (w.setCell ⟨p, 2, none⟩ (.bool true)).cell? ⟨g, 2, none⟩ = some (.bool (bg == 1)) := s1.ht.1.cellC
  have pc : w.cell? ⟨p, 2, none⟩ = some (.bool (bp == 1)) := (s0.ht.2.2.1).cellC
  obtain ⟨s2, _⟩ := s2
  have i52 : ((w.setCell ⟨p, 2, none⟩ (.bool true)).setCell ⟨g, 2, none⟩ (.bool false)).cell? ⟨i, 5, none⟩ = some (.pointer (some ⟨p, 0, none⟩)) := (s2.downR.ht.2.2.1).cellP
  have p3 : ((w.setCell ⟨p, 2, none⟩ (.bool true)).setCell ⟨g, 2, none⟩ (.bool false)).cell? ⟨p, 4, none⟩ = some (.pointer (some ⟨i, 0, none⟩)) := (Nd.cells_ s2.ht.2.2.1).2.2.2
  have g3 : ((w.setCell ⟨p, 2, none⟩ (.bool true)).setCell ⟨g, 2, none⟩ (.bool false)).cell? ⟨g, 4, none⟩ = some (.pointer (some ⟨p, 0, none⟩)) := (Nd.cells_ s2.ht.1).2.2.2
  have p4 : ((w.setCell ⟨p, 2, none⟩ (.bool true)).setCell ⟨g, 2, none⟩ (.bool false)).cell? ⟨p, 3, none⟩ = some (ptr pr.root) := (Nd.cells_ s2.ht.2.2.1).2.2.1
  have hip : i ∉ pr.ids := by
    have hn := s2.ndt
    simp only [BT.ids, List.nodup_cons, List.nodup_append, List.mem_append, List.mem_cons] at hn
    grind
  have qn := rbPtr_root s2.downR.ht.2.2.1 s2.downR.ht.2.1 hip
  have qN := rbPtr_rootN s2.downR.ht.2.2.1 s2.downR.ht.2.1 hip
  simp only [ptr] at p4 qn qN
  generalize Value.pointer (pr.root.map (fun n => (⟨n, 0, none⟩ : Addr))) = y at p4 qn qN
  have C1 := Lib.hid (grandparent_walk (x := some g) i5' p5')
  have C2 := Lib.hid (fun n => rotL_walk (s2.drewN n))
  have O2 := Lib.hid o2
  have qs := rbPtr_same
  clear s0 s1 s2 o1 o2 hip
  go_enter Tryz.func70, Tryz.ntmps70
  go_wp2_with fail
  refine C1.out.mono ?_
  rintro e w1 ⟨rfl, rfl⟩
  simp only [ptr, Option.map_some]
  clear C1
  go_wp2_with fail
  go_quiet (fail)
  go_wp2_with fail
  go_quiet (fail)
  go_wp2_with fail
  refine (C2.out _).mono ?_
  rintro e w3 ⟨rfl, s3, o3⟩
  have F := Lib.hid (show St rbL w3 H c (.node p (.node g u kg vg 0 pr) kp vp 1 (.node i r k v bi l)) ∧ Only (allIds H c (.node g u kg vg bg (.node p pr kp vp bp (.node i r k v bi l)))) w w3 from ⟨s3, (O2.out.drewN _).trans (o3.mono fun b _ hb => by simp only [allIds, BT.ids, List.mem_cons, List.mem_append] at hb ⊢; exact hb)⟩)
  clear s3 o3 C2 O2
  go_wp2_with fail
  go_end0
  exact ⟨rfl, F.out⟩
set_option maxRecDepth 100000 in
theorem case4LL_walk {w : World} {H : Hd} {c : Ctx} {i p g : Nat} {l r a u : BT} {k v bi kp vp bp kg vg bg : Int} (s0 : St rbL w H c (.node g (.node p (.node i l k v bi r) kp vp bp a) kg vg bg u)) :
    Calls Tryz.prog 68 #[.pointer (some ⟨H.tb, 0, none⟩), .pointer (some ⟨i, 0, none⟩)] w fun e w' => e = .returned (.tuple #[]) ∧ St rbL w' H c (.node p (.node i l k v bi r) kp vp 1 (.node g a kg vg 0 u)) ∧ Only (allIds H c (.node g (.node p (.node i l k v bi r) kp vp bp a) kg vg bg u)) w w' := by
  have i5 : w.cell? ⟨i, 5, none⟩ = some (.pointer (some ⟨p, 0, none⟩)) := (s0.downL.ht.2.1.1).cellP
  have p5 : w.cell? ⟨p, 5, none⟩ = some (.pointer (some ⟨g, 0, none⟩)) := (s0.ht.2.1.1).cellP
  have p3 := (Nd.cells_ s0.ht.2.1.1).2.2.1
  have p4 := (Nd.cells_ s0.ht.2.1.1).2.2.2
  have g3 := (Nd.cells_ s0.ht.1).2.2.1
  have g4 := (Nd.cells_ s0.ht.1).2.2.2
  have hn := s0.ndt
  simp only [BT.ids, List.nodup_cons, List.nodup_append, List.mem_append, List.mem_cons] at hn
  have hia : i ∉ a.ids := by grind
  have hpu : p ∉ u.ids := by grind
  have qa := rbPtr_root s0.downL.ht.2.1.1 s0.downL.ht.2.2 hia
  have qA := rbPtr_rootN s0.downL.ht.2.1.1 s0.downL.ht.2.2 hia
  have qu := rbPtr_root s0.ht.2.1.1 s0.ht.2.2 hpu
  have qU := rbPtr_rootN s0.ht.2.1.1 s0.ht.2.2 hpu
  have qs := rbPtr_same
  simp only [root_node, ptr, Option.map_some] at p3 p4 g3 g4 qa qA qu qU
  have C1 := Lib.hid (grandparent_walk (x := some g) i5 p5)
  have C2 := Lib.hid (fun n => case5L_walk (s0.drewN n))
  have FN := Lib.hid (fun (n : Nat) (w3 : World) (s3 : St rbL w3 H c (.node p (.node i l k v bi r) kp vp 1 (.node g a kg vg 0 u))) (o3 : Only (allIds H c (.node g (.node p (.node i l k v bi r) kp vp bp a) kg vg bg u)) (w.drewN n) w3) => show St rbL w3 H c (.node p (.node i l k v bi r) kp vp 1 (.node g a kg vg 0 u)) ∧ Only (allIds H c (.node g (.node p (.node i l k v bi r) kp vp bp a) kg vg bg u)) w w3 from ⟨s3, ((Only.refl _ w).drewN n).trans o3⟩)
  clear s0 hn hia hpu
  generalize Value.pointer (a.root.map (fun n => (⟨n, 0, none⟩ : Addr))) = ya at *
  generalize Value.pointer (u.root.map (fun n => (⟨n, 0, none⟩ : Addr))) = yu at *
  go_enter Tryz.func68, Tryz.ntmps68
  go_wp2_with fail
  refine C1.out.mono ?_
  rintro e w1 ⟨rfl, rfl⟩
  simp only [ptr, Option.map_some]
  clear C1
  go_wp2_with fail
  go_quiet (fail)
  go_wp2_with fail
  go_quiet (fail)
  go_wp2_with fail
  refine (C2.out _).mono ?_
  rintro e w3 ⟨rfl, s3, o3⟩
  have F := Lib.hid (FN.out _ _ s3 o3)
  clear s3 o3 C2 FN
  go_wp2_with fail
  go_end0
  exact ⟨rfl, F.out⟩
set_option maxRecDepth 100000 in
theorem case4LR_walk {w : World} {H : Hd} {c : Ctx} {i p g : Nat} {l r a u : BT} {k v bi kp vp bp kg vg bg : Int} (s0 : St rbL w H c (.node g (.node p a kp vp bp (.node i l k v bi r)) kg vg bg u)) :
    Calls Tryz.prog 68 #[.pointer (some ⟨H.tb, 0, none⟩), .pointer (some ⟨i, 0, none⟩)] w fun e w' => e = .returned (.tuple #[]) ∧ St rbL w' H c (.node i (.node p a kp vp bp l) k v 1 (.node g r kg vg 0 u)) ∧ Only (allIds H c (.node g (.node p a kp vp bp (.node i l k v bi r)) kg vg bg u)) w w' := by
  have i5 : w.cell? ⟨i, 5, none⟩ = some (.pointer (some ⟨p, 0, none⟩)) := (s0.downL.ht.2.2.1).cellP
  have p5 : w.cell? ⟨p, 5, none⟩ = some (.pointer (some ⟨g, 0, none⟩)) := (s0.ht.2.1.1).cellP
  have p3 := (Nd.cells_ s0.ht.2.1.1).2.2.1
  have p4 := (Nd.cells_ s0.ht.2.1.1).2.2.2
  have g3 := (Nd.cells_ s0.ht.1).2.2.1
  have g4 := (Nd.cells_ s0.ht.1).2.2.2
  have hn := s0.ndt
  simp only [BT.ids, List.nodup_cons, List.nodup_append, List.mem_append, List.mem_cons] at hn
  have hia : i ∉ a.ids := by grind
  have hpu : p ∉ u.ids := by grind
  have qa := rbPtr_root s0.downL.ht.2.2.1 s0.downL.ht.2.1 hia
  have qA := rbPtr_rootN s0.downL.ht.2.2.1 s0.downL.ht.2.1 hia
  have qu := rbPtr_root s0.ht.2.1.1 s0.ht.2.2 hpu
  have qU := rbPtr_rootN s0.ht.2.1.1 s0.ht.2.2 hpu
  have qs := rbPtr_same
  simp only [root_node, ptr, Option.map_some] at p3 p4 g3 g4 qa qA qu qU
  have C1 := Lib.hid (grandparent_walk (x := some g) i5 p5)
  have C2 := Lib.hid (fun n => rotL_walk (s0.downL.drewN n))
  have FN := Lib.hid (fun (n : Nat) (w3 w4 : World) (o3 : Only (allIds H (.lf g kg vg bg u :: c) (.node p a kp vp bp (.node i l k v bi r))) (w.drewN n) w3) (s4 : St rbL w4 H c (.node i (.node p a kp vp bp l) k v 1 (.node g r kg vg 0 u))) (o4 : Only (allIds H c (.node g (.node i (.node p a kp vp bp l) k v bi r) kg vg bg u)) w3 w4) => show St rbL w4 H c (.node i (.node p a kp vp bp l) k v 1 (.node g r kg vg 0 u)) ∧ Only (allIds H c (.node g (.node p a kp vp bp (.node i l k v bi r)) kg vg bg u)) w w4 from
    ⟨s4, (((Only.refl _ w).drewN n).trans (o3.mono fun b _ hb => allIds_lf.1 hb)).trans (o4.mono fun b _ hb => by simp only [allIds, BT.ids, List.mem_cons, List.mem_append] at hb ⊢; grind)⟩)
  clear s0 hn hia hpu
  generalize Value.pointer (a.root.map (fun n => (⟨n, 0, none⟩ : Addr))) = ya at *
  generalize Value.pointer (u.root.map (fun n => (⟨n, 0, none⟩ : Addr))) = yu at *
  go_enter Tryz.func68, Tryz.ntmps68
  go_wp2_with fail
  refine C1.out.mono ?_
  rintro e w1 ⟨rfl, rfl⟩
  simp only [ptr, Option.map_some]
  clear C1
  go_wp2_with fail
  go_quiet (fail)
  go_wp2_with fail
  refine (C2.out _).mono ?_
  rintro e w3 ⟨rfl, s3, o3⟩
  have i3 : w3.cell? ⟨i, 3, none⟩ = some (.pointer (some ⟨p, 0, none⟩)) := (Nd.cells_ s3.ht.1).2.2.1
  have C3 := Lib.hid (case5L_walk s3.upL)
  have O3 := Lib.hid o3
  clear s3 o3 C2
  go_wp2_with fail
  refine C3.out.mono ?_
  rintro e w4 ⟨rfl, s4, o4⟩
  have F := Lib.hid (FN.out _ _ _ O3.out s4 o4)
  clear s4 o4 C3 O3 FN
  go_wp2_with fail
  go_end0
  exact ⟨rfl, F.out⟩
set_option maxRecDepth 100000 in
theorem case4RL_walk {w : World} {H : Hd} {c : Ctx} {i p g : Nat} {l r a u : BT} {k v bi kp vp bp kg vg bg : Int} (s0 : St rbL w H c (.node g u kg vg bg (.node p (.node i l k v bi r) kp vp bp a))) :
    Calls Tryz.prog 68 #[.pointer (some ⟨H.tb, 0, none⟩), .pointer (some ⟨i, 0, none⟩)] w fun e w' => e = .returned (.tuple #[]) ∧ St rbL w' H c (.node i (.node g u kg vg 0 l) k v 1 (.node p r kp vp bp a)) ∧ Only (allIds H c (.node g u kg vg bg (.node p (.node i l k v bi r) kp vp bp a))) w w' := by
  have i5 : w.cell? ⟨i, 5, none⟩ = some (.pointer (some ⟨p, 0, none⟩)) := (s0.downR.ht.2.1.1).cellP
  have p5 : w.cell? ⟨p, 5, none⟩ = some (.pointer (some ⟨g, 0, none⟩)) := (s0.ht.2.2.1).cellP
  have p3 := (Nd.cells_ s0.ht.2.2.1).2.2.1
  have p4 := (Nd.cells_ s0.ht.2.2.1).2.2.2
  have g3 := (Nd.cells_ s0.ht.1).2.2.1
  have g4 := (Nd.cells_ s0.ht.1).2.2.2
  have hn := s0.ndt
  simp only [BT.ids, List.nodup_cons, List.nodup_append, List.mem_append, List.mem_cons] at hn
  have hia : i ∉ a.ids := by grind
  have hpu : p ∉ u.ids := by grind
  have qa := rbPtr_root s0.downR.ht.2.1.1 s0.downR.ht.2.2 hia
  have qA := rbPtr_rootN s0.downR.ht.2.1.1 s0.downR.ht.2.2 hia
  have qu := rbPtr_root s0.ht.2.2.1 s0.ht.2.1 hpu
  have qU := rbPtr_rootN s0.ht.2.2.1 s0.ht.2.1 hpu
  have qs := rbPtr_same
  simp only [root_node, ptr, Option.map_some] at p3 p4 g3 g4 qa qA qu qU
  have C1 := Lib.hid (grandparent_walk (x := some g) i5 p5)
  have C2 := Lib.hid (fun n => rotR_walk (s0.downR.drewN n))
  have FN := Lib.hid (fun (n : Nat) (w3 w4 : World) (o3 : Only (allIds H (.rf g u kg vg bg :: c) (.node p (.node i l k v bi r) kp vp bp a)) (w.drewN n) w3) (s4 : St rbL w4 H c (.node i (.node g u kg vg 0 l) k v 1 (.node p r kp vp bp a))) (o4 : Only (allIds H c (.node g u kg vg bg (.node i l k v bi (.node p r kp vp bp a)))) w3 w4) => show St rbL w4 H c (.node i (.node g u kg vg 0 l) k v 1 (.node p r kp vp bp a)) ∧ Only (allIds H c (.node g u kg vg bg (.node p (.node i l k v bi r) kp vp bp a))) w w4 from
    ⟨s4, (((Only.refl _ w).drewN n).trans (o3.mono fun b _ hb => allIds_rf.1 hb)).trans (o4.mono fun b _ hb => by simp only [allIds, BT.ids, List.mem_cons, List.mem_append] at hb ⊢; grind)⟩)
  clear s0 hn hia hpu
  generalize Value.pointer (a.root.map (fun n => (⟨n, 0, none⟩ : Addr))) = ya at *
  generalize Value.pointer (u.root.map (fun n => (⟨n, 0, none⟩ : Addr))) = yu at *
  go_enter Tryz.func68, Tryz.ntmps68
  go_wp2_with fail
  refine C1.out.mono ?_
  rintro e w1 ⟨rfl, rfl⟩
  simp only [ptr, Option.map_some]
  clear C1
  go_wp2_with fail
  go_quiet (fail)
  go_wp2_with fail
  go_quiet (fail)
  go_wp2_with fail
  refine (C2.out _).mono ?_
  rintro e w3 ⟨rfl, s3, o3⟩
  have i3 : w3.cell? ⟨i, 4, none⟩ = some (.pointer (some ⟨p, 0, none⟩)) := (Nd.cells_ s3.ht.1).2.2.2
  have C3 := Lib.hid (case5R_walk s3.upR)
  have O3 := Lib.hid o3
  clear s3 o3 C2
  go_wp2_with fail
  refine C3.out.mono ?_
  rintro e w4 ⟨rfl, s4, o4⟩
  have F := Lib.hid (FN.out _ _ _ O3.out s4 o4)
  clear s4 o4 C3 O3 FN
  go_wp2_with fail
  go_end0
  exact ⟨rfl, F.out⟩
set_option maxRecDepth 100000 in
theorem case4RR_walk {w : World} {H : Hd} {c : Ctx} {i p g : Nat} {l r a u : BT} {k v bi kp vp bp kg vg bg : Int} (s0 : St rbL w H c (.node g u kg vg bg (.node p a kp vp bp (.node i l k v bi r)))) :
    Calls Tryz.prog 68 #[.pointer (some ⟨H.tb, 0, none⟩), .pointer (some ⟨i, 0, none⟩)] w fun e w' => e = .returned (.tuple #[]) ∧ St rbL w' H c (.node p (.node g u kg vg 0 a) kp vp 1 (.node i l k v bi r)) ∧ Only (allIds H c (.node g u kg vg bg (.node p a kp vp bp (.node i l k v bi r)))) w w' := by
  have i5 : w.cell? ⟨i, 5, none⟩ = some (.pointer (some ⟨p, 0, none⟩)) := (s0.downR.ht.2.2.1).cellP
  have p5 : w.cell? ⟨p, 5, none⟩ = some (.pointer (some ⟨g, 0, none⟩)) := (s0.ht.2.2.1).cellP
  have p3 := (Nd.cells_ s0.ht.2.2.1).2.2.1
  have p4 := (Nd.cells_ s0.ht.2.2.1).2.2.2
  have g3 := (Nd.cells_ s0.ht.1).2.2.1
  have g4 := (Nd.cells_ s0.ht.1).2.2.2
  have hn := s0.ndt
  simp only [BT.ids, List.nodup_cons, List.nodup_append, List.mem_append, List.mem_cons] at hn
  have hia : i ∉ a.ids := by grind
  have hpu : p ∉ u.ids := by grind
  have qa := rbPtr_root s0.downR.ht.2.2.1 s0.downR.ht.2.1 hia
  have qA := rbPtr_rootN s0.downR.ht.2.2.1 s0.downR.ht.2.1 hia
  have qu := rbPtr_root s0.ht.2.2.1 s0.ht.2.1 hpu
  have qU := rbPtr_rootN s0.ht.2.2.1 s0.ht.2.1 hpu
  have qs := rbPtr_same
  simp only [root_node, ptr, Option.map_some] at p3 p4 g3 g4 qa qA qu qU
  have C1 := Lib.hid (grandparent_walk (x := some g) i5 p5)
  have C2 := Lib.hid (fun n => case5R_walk (s0.drewN n))
  have FN := Lib.hid (fun (n : Nat) (w3 : World) (s3 : St rbL w3 H c (.node p (.node g u kg vg 0 a) kp vp 1 (.node i l k v bi r))) (o3 : Only (allIds H c (.node g u kg vg bg (.node p a kp vp bp (.node i l k v bi r)))) (w.drewN n) w3) => show St rbL w3 H c (.node p (.node g u kg vg 0 a) kp vp 1 (.node i l k v bi r)) ∧ Only (allIds H c (.node g u kg vg bg (.node p a kp vp bp (.node i l k v bi r)))) w w3 from ⟨s3, ((Only.refl _ w).drewN n).trans o3⟩)
  clear s0 hn hia hpu
  generalize Value.pointer (a.root.map (fun n => (⟨n, 0, none⟩ : Addr))) = ya at *
  generalize Value.pointer (u.root.map (fun n => (⟨n, 0, none⟩ : Addr))) = yu at *
  go_enter Tryz.func68, Tryz.ntmps68
  go_wp2_with fail
  refine C1.out.mono ?_
  rintro e w1 ⟨rfl, rfl⟩
  simp only [ptr, Option.map_some]
  clear C1
  go_wp2_with fail
  go_quiet (fail)
  go_wp2_with fail
  go_quiet (fail)
  go_wp2_with fail
  refine (C2.out _).mono ?_
  rintro e w3 ⟨rfl, s3, o3⟩
  have F := Lib.hid (FN.out _ _ s3 o3)
  clear s3 o3 C2 FN
  go_wp2_with fail
  go_end0
  exact ⟨rfl, F.out⟩
end Go.Proofs.YtbdcepkahdecjaaGreat.Rb

namespace Go.Proofs.YtbdcepkahdecjaaGreat.Rb
open Go.RowKit Go.Proofs.YtbdcepkahdecjaaGreat
theorem sib_l {w : World} {i p : Nat} {x : Option Nat} (h5 : w.cell? ⟨i, 5, none⟩ = some (.pointer (some ⟨p, 0, none⟩))) (h3 : w.cell? ⟨p, 3, none⟩ = some (.pointer (some ⟨i, 0, none⟩))) (h4 : w.cell? ⟨p, 4, none⟩ = some (ptr x)) :
    Calls Tryz.prog 62 #[.pointer (some ⟨i, 0, none⟩)] w fun e w' => e = .returned (ptr x) ∧ w = w' := by
  have qs := rbPtr_same
  simp only [ptr] at h4 ⊢
  generalize x.map (fun n => (⟨n, 0, none⟩ : Addr)) = y at *
  go_enter Tryz.func62, Tryz.ntmps62
  go_wp2_with fail
  go_ret
  exact ⟨rfl, rfl⟩
theorem sib_r {w : World} {i p : Nat} {x : Option Nat} (h5 : w.cell? ⟨i, 5, none⟩ = some (.pointer (some ⟨p, 0, none⟩))) (h3 : w.cell? ⟨p, 3, none⟩ = some (ptr x)) (q : (binOp .eql 57 (.pointer (some ⟨i, 0, none⟩)) (ptr x)).run Tryz.prog w = .ok (.bool false) w) :
    Calls Tryz.prog 62 #[.pointer (some ⟨i, 0, none⟩)] w fun e w' => e = .returned (ptr x) ∧ w = w' := by
  generalize ptr x = y at *
  go_enter Tryz.func62, Tryz.ntmps62
  go_wp2_with fail
  go_ret
  exact ⟨rfl, rfl⟩
theorem uncle_walk {w : World} {i p g : Nat} {x : Option Nat} (h5 : w.cell? ⟨i, 5, none⟩ = some (.pointer (some ⟨p, 0, none⟩))) (p5 : w.cell? ⟨p, 5, none⟩ = some (.pointer (some ⟨g, 0, none⟩)))
    (h : Calls Tryz.prog 62 #[.pointer (some ⟨p, 0, none⟩)] w fun e w' => e = .returned (ptr x) ∧ w = w') :
    Calls Tryz.prog 66 #[.pointer (some ⟨i, 0, none⟩)] w fun e w' => e = .returned (ptr x) ∧ ∃ n, w' = w.drewN n := by
  have Hc := Lib.hid h
  clear h
  generalize ptr x = y at *
  go_enter Tryz.func66, Tryz.ntmps66
  go_wp2_with fail
  try go_quiet (fail)
  go_wp2_with fail
  refine Hc.out.mono ?_
  rintro e w1 ⟨rfl, rfl⟩
  clear Hc
  go_wp2_with fail
  go_ret
  exact ⟨rfl, 0, rfl⟩
def InsPost (H : Hd) (S : List Nat) (T : BT) (w : World) (e : Ending) (w' : World) : Prop := e = .returned (.tuple #[]) ∧ St rbL w' H [] T ∧ Only S w w'
theorem case1_nil {w : World} {H : Hd} {S : List Nat} {i : Nat} {l r : BT} {k v b : Int} (s0 : St rbL w H [] (.node i l k v b r)) (hS : ∀ x, x ∈ allIds H [] (.node i l k v b r) → x ∈ S) :
    Calls Tryz.prog 51 #[.pointer (some ⟨H.tb, 0, none⟩), .pointer (some ⟨i, 0, none⟩)] w (InsPost H S (.node i l k v 1 r) w) := by
  have f := stBlack s0
  have i5 : w.cell? ⟨i, 5, none⟩ = some (.pointer none) := s0.ht.1.cellP
  have ic : w.cell? ⟨i, 2, none⟩ = some (.bool (b == 1)) := s0.ht.1.cellC
  have fi := s0.ht.1.frozen 2
  have F := Lib.hid (show InsPost H S (.node i l k v 1 r) w (.returned (.tuple #[])) (w.setCell ⟨i, 2, none⟩ (.bool true)) from ⟨rfl, f.1, f.2.mono fun b _ hb => hS b hb⟩)
  clear s0 f hS
  go_enter Tryz.func51, Tryz.ntmps51
  go_wp2_with fail
  go_end0
  exact F.out
theorem case1_up {w : World} {H : Hd} {S : List Nat} {T : BT} {i p : Nat} (i5 : w.cell? ⟨i, 5, none⟩ = some (.pointer (some ⟨p, 0, none⟩)))
    (h : Calls Tryz.prog 59 #[.pointer (some ⟨H.tb, 0, none⟩), .pointer (some ⟨i, 0, none⟩)] w (InsPost H S T w)) :
    Calls Tryz.prog 51 #[.pointer (some ⟨H.tb, 0, none⟩), .pointer (some ⟨i, 0, none⟩)] w (InsPost H S T w) := by
  have Hc := Lib.hid h
  clear h
  go_enter Tryz.func51, Tryz.ntmps51
  go_wp2_with fail
  refine Hc.out.mono ?_
  rintro e w1 ⟨rfl, h1, h2⟩
  have F := Lib.hid (show InsPost H S T w (.returned (.tuple #[])) w1 from ⟨rfl, h1, h2⟩)
  clear h1 h2 Hc
  go_wp2_with fail
  go_end0
  exact F.out
theorem case2_black {w : World} {H : Hd} {S : List Nat} {T : BT} {i p : Nat} {k v : Int} {q l r : Option Nat} (i5 : w.cell? ⟨i, 5, none⟩ = some (.pointer (some ⟨p, 0, none⟩))) (hp : Nd rbL w p k v 1 q l r) (h : St rbL w H [] T) :
    Calls Tryz.prog 59 #[.pointer (some ⟨H.tb, 0, none⟩), .pointer (some ⟨i, 0, none⟩)] w (InsPost H S T w) := by
  have C := Lib.hid (nodeColor_node hp)
  have F := Lib.hid (show InsPost H S T w (.returned (.tuple #[])) w from ⟨rfl, h, Only.refl _ _⟩)
  clear h hp
  go_enter Tryz.func59, Tryz.ntmps59
  go_wp2_with fail
  refine C.out.mono ?_
  rintro e w1 ⟨rfl, rfl⟩
  clear C
  go_wp2_with fail
  go_end0
  exact F.out
theorem case2_red {w : World} {H : Hd} {S : List Nat} {T : BT} {i p : Nat} {k v : Int} {q l r : Option Nat} (i5 : w.cell? ⟨i, 5, none⟩ = some (.pointer (some ⟨p, 0, none⟩))) (hp : Nd rbL w p k v 0 q l r)
    (h : Calls Tryz.prog 61 #[.pointer (some ⟨H.tb, 0, none⟩), .pointer (some ⟨i, 0, none⟩)] w (InsPost H S T w)) :
    Calls Tryz.prog 59 #[.pointer (some ⟨H.tb, 0, none⟩), .pointer (some ⟨i, 0, none⟩)] w (InsPost H S T w) := by
  have C := Lib.hid (nodeColor_node hp)
  have Hc := Lib.hid h
  clear h hp
  go_enter Tryz.func59, Tryz.ntmps59
  go_wp2_with fail
  refine C.out.mono ?_
  rintro e w1 ⟨rfl, rfl⟩
  clear C
  go_wp2_with fail
  refine Hc.out.mono ?_
  rintro e w1 ⟨rfl, h1, h2⟩
  have F := Lib.hid (show InsPost H S T w (.returned (.tuple #[])) w1 from ⟨rfl, h1, h2⟩)
  clear h1 h2 Hc
  go_wp2_with fail
  go_end0
  exact F.out
theorem InsPost.drewN {H : Hd} {S : List Nat} {T : BT} {w : World} {n : Nat} {e : Ending} {w' : World} (h : InsPost H S T (w.drewN n) e w') : InsPost H S T w e w' := ⟨h.1, h.2.1, ((Only.refl _ w).drewN n).trans h.2.2⟩
set_option maxRecDepth 100000 in
theorem case3LL_black {w : World} {H : Hd} {S : List Nat} {x : Ctx} {i p g : Nat} {l r a u : BT} {k v bi kp vp bp kg vg bg : Int} (s0 : St rbL w H (.lf p kp vp bp a :: .lf g kg vg bg u :: x) (.node i l k v bi r)) (hu : col u = 1) (hS : ∀ b, b ∈ allIds H (.lf p kp vp bp a :: .lf g kg vg bg u :: x) (.node i l k v bi r) → b ∈ S) :
    Calls Tryz.prog 61 #[.pointer (some ⟨H.tb, 0, none⟩), .pointer (some ⟨i, 0, none⟩)] w (InsPost H S (Ctx.plug x (.node p (.node i l k v bi r) kp vp 1 (.node g a kg vg 0 u))) w) := by
  have sg := s0.upL.upL
  have hmem : ∀ b, b ∈ allIds H x (.node g (.node p (.node i l k v bi r) kp vp bp a) kg vg bg u) → b ∈ S := fun b hb => hS b (allIds_lf.2 (allIds_lf.2 hb))
  have i5 : w.cell? ⟨i, 5, none⟩ = some (.pointer (some ⟨p, 0, none⟩)) := s0.ht.1.cellP
  have p5 : w.cell? ⟨p, 5, none⟩ = some (.pointer (some ⟨g, 0, none⟩)) := s0.upL.ht.1.cellP
  have g3 := (Nd.cells_ sg.ht.1).2.2.1
  have g4 := (Nd.cells_ sg.ht.1).2.2.2
  have hn := sg.ndt
  simp only [BT.ids, List.nodup_cons, List.nodup_append, List.mem_append, List.mem_cons] at hn
  have hpu : p ∉ u.ids := by grind
  have C1 := Lib.hid (uncle_walk (x := u.root) i5 p5 (sib_l p5 g3 g4))
  have c2 := fun n => nodeColor_walk (w := w.drewN n) (t := u) (p := some g) (sg.ht.2.2.same fun _ _ => rfl)
  rw [hu] at c2
  have C2 := Lib.hid c2
  have C3 := Lib.hid (fun n => case4LL_walk (sg.drewN n))
  have FN := Lib.hid (fun (n : Nat) (w3 : World) (s3 : St rbL w3 H x (.node p (.node i l k v bi r) kp vp 1 (.node g a kg vg 0 u))) (o3 : Only (allIds H x (.node g (.node p (.node i l k v bi r) kp vp bp a) kg vg bg u)) (w.drewN n) w3) => show InsPost H S (Ctx.plug x (.node p (.node i l k v bi r) kp vp 1 (.node g a kg vg 0 u))) w (.returned (.tuple #[])) w3 from ⟨rfl, s3.plug, ((Only.refl _ w).drewN n).trans (o3.mono fun b _ hb => hmem b hb)⟩)
  clear s0 sg hmem g3 g4 hn hpu c2 hu hS
  generalize ptr u.root = yu at *
  go_enter Tryz.func61, Tryz.ntmps61
  go_wp2_with fail
  refine C1.out.mono ?_
  rintro e w1 ⟨rfl, n, rfl⟩
  clear C1
  go_wp2_with fail
  refine (C2.out n).mono ?_
  rintro e w1 ⟨rfl, rfl⟩
  clear C2
  go_wp2_with fail
  refine (C3.out n).mono ?_
  rintro e w3 ⟨rfl, s3, o3⟩
  have F := Lib.hid (FN.out _ _ s3 o3)
  clear s3 o3 C3 FN
  go_wp2_with fail
  go_end0
  exact F.out
set_option maxRecDepth 100000 in
theorem case3LL_red {w : World} {H : Hd} {S : List Nat} {T : BT} {x : Ctx} {i p g ui : Nat} {l r a ul ur : BT} {k v bi kp vp bp kg vg bg ku vu : Int} (s0 : St rbL w H (.lf p kp vp bp a :: .lf g kg vg bg (.node ui ul ku vu 0 ur) :: x) (.node i l k v bi r)) (hS : ∀ b, b ∈ allIds H (.lf p kp vp bp a :: .lf g kg vg bg (.node ui ul ku vu 0 ur) :: x) (.node i l k v bi r) → b ∈ S)
    (hrec : ∀ w', St rbL w' H x (.node g (.node p (.node i l k v bi r) kp vp 1 a) kg vg 0 (.node ui ul ku vu 1 ur)) → Calls Tryz.prog 51 #[.pointer (some ⟨H.tb, 0, none⟩), .pointer (some ⟨g, 0, none⟩)] w' (InsPost H S T w')) :
    Calls Tryz.prog 61 #[.pointer (some ⟨H.tb, 0, none⟩), .pointer (some ⟨i, 0, none⟩)] w (InsPost H S T w) := by
  have sg := s0.upL.upL
  have hmem : ∀ b, b ∈ allIds H x (.node g (.node p (.node i l k v bi r) kp vp bp a) kg vg bg (.node ui ul ku vu 0 ur)) → b ∈ S := fun b hb => hS b (allIds_lf.2 (allIds_lf.2 hb))
  have i5 : w.cell? ⟨i, 5, none⟩ = some (.pointer (some ⟨p, 0, none⟩)) := s0.ht.1.cellP
  have p5 : w.cell? ⟨p, 5, none⟩ = some (.pointer (some ⟨g, 0, none⟩)) := s0.upL.ht.1.cellP
  have g3 := (Nd.cells_ sg.ht.1).2.2.1
  have g4 := (Nd.cells_ sg.ht.1).2.2.2
  have hn := sg.ndt
  simp only [BT.ids, List.nodup_cons, List.nodup_append, List.mem_append, List.mem_cons] at hn
  have hpu : p ∉ BT.ids (.node ui ul ku vu 0 ur) := by simp only [BT.ids, List.mem_cons, List.mem_append, not_or]; grind
  have C1 := Lib.hid (uncle_walk (x := some ui) i5 p5 (sib_l p5 g3 g4))
  have c1 := C1.out
  simp only [ptr, Option.map_some] at c1
  replace C1 := Lib.hid c1
  clear c1
  have C2 := Lib.hid (fun n => nodeColor_node (w := w.drewN n) sg.ht.2.2.1)
  have all : ∀ n, ∃ (_ : St rbL ((w.drewN n).setCell ⟨p, 2, none⟩ (.bool true)) H x (.node g (.node p (.node i l k v bi r) kp vp 1 a) kg vg bg (.node ui ul ku vu 0 ur))) (_ : St rbL (((w.drewN n).setCell ⟨p, 2, none⟩ (.bool true)).setCell ⟨ui, 2, none⟩ (.bool true)) H x (.node g (.node p (.node i l k v bi r) kp vp 1 a) kg vg bg (.node ui ul ku vu 1 ur))) (_ : St rbL ((((w.drewN n).setCell ⟨p, 2, none⟩ (.bool true)).setCell ⟨ui, 2, none⟩ (.bool true)).setCell ⟨g, 2, none⟩ (.bool false)) H x (.node g (.node p (.node i l k v bi r) kp vp 1 a) kg vg 0 (.node ui ul ku vu 1 ur))), Only S w ((((w.drewN n).setCell ⟨p, 2, none⟩ (.bool true)).setCell ⟨ui, 2, none⟩ (.bool true)).setCell ⟨g, 2, none⟩ (.bool false)) := fun n => by
    have s1 := stBlack (s0.upL.drewN n)
    have t1 := s1.1.upL
    have s2 := stBlack t1.downR
    have t2 := s2.1.upR
    have s3 := stRed t2
    refine ⟨t1, t2, s3.1, ((((Only.refl _ w).drewN n).trans (s1.2.mono fun b _ hb => hmem b (allIds_lf.1 hb))).trans (s2.2.mono fun b _ hb => hmem b ?_)).trans (s3.2.mono fun b _ hb => hmem b ?_)⟩
    · simp only [allIds, Ctx.ids, Fr.ids, BT.ids, List.mem_cons, List.mem_append] at hb ⊢; grind
    · simp only [allIds, BT.ids, List.mem_cons, List.mem_append] at hb ⊢; grind
  have pc : w.cell? ⟨p, 2, none⟩ = some (.bool (bp == 1)) := s0.upL.ht.1.cellC
  have pf : w.frozen? ⟨p, 2, none⟩ = false := s0.upL.ht.1.frozen 2
  have ALL := Lib.hid all
  have HR := Lib.hid hrec
  clear s0 sg hmem g3 g4 hn hpu hS all hrec
  go_enter Tryz.func61, Tryz.ntmps61
  go_wp2_with fail
  refine C1.out.mono ?_
  rintro e w1 ⟨rfl, n, rfl⟩
  clear C1
  go_wp2_with fail
  refine (C2.out n).mono ?_
  rintro e w1 ⟨rfl, rfl⟩
  clear C2
  obtain ⟨t1, t2, t3, o3⟩ := ALL.out n
  have uc : ((w.drewN n).setCell ⟨p, 2, none⟩ (.bool true)).cell? ⟨ui, 2, none⟩ = some (.bool false) := t1.ht.2.2.1.cellC
  have uf : ((w.drewN n).setCell ⟨p, 2, none⟩ (.bool true)).frozen? ⟨ui, 2, none⟩ = false := t1.ht.2.2.1.frozen 2
  have gc : (((w.drewN n).setCell ⟨p, 2, none⟩ (.bool true)).setCell ⟨ui, 2, none⟩ (.bool true)).cell? ⟨g, 2, none⟩ = some (.bool (bg == 1)) := t2.ht.1.cellC
  have gf : (((w.drewN n).setCell ⟨p, 2, none⟩ (.bool true)).setCell ⟨ui, 2, none⟩ (.bool true)).frozen? ⟨g, 2, none⟩ = false := t2.ht.1.frozen 2
  have GP2 := Lib.hid (grandparent_walk (w := ((w.drewN n).setCell ⟨p, 2, none⟩ (.bool true)).setCell ⟨ui, 2, none⟩ (.bool true)) (x := some g) ((t2.downL.ht.2.1.1).cellP) (t2.downL.ht.1.cellP))
  have GP3 := Lib.hid (grandparent_walk (w := (((w.drewN n).setCell ⟨p, 2, none⟩ (.bool true)).setCell ⟨ui, 2, none⟩ (.bool true)).setCell ⟨g, 2, none⟩ (.bool false)) (x := some g) ((t3.downL.ht.2.1.1).cellP) (t3.downL.ht.1.cellP))
  have gp2 := GP2.out
  have gp3 := GP3.out
  simp only [ptr, Option.map_some] at gp2 gp3
  replace GP2 := Lib.hid gp2
  replace GP3 := Lib.hid gp3
  clear gp2 gp3
  have R := Lib.hid (HR.out _ t3)
  have O3 := Lib.hid o3
  clear t1 t2 t3 o3 ALL HR
  go_wp2_with fail
  refine GP2.out.mono ?_
  rintro e w4 ⟨rfl, rfl⟩
  clear GP2
  go_wp2_with fail
  refine GP3.out.mono ?_
  rintro e w4 ⟨rfl, rfl⟩
  clear GP3
  go_wp2_with fail
  refine R.out.mono ?_
  rintro e w5 ⟨rfl, s5, o5⟩
  have F := Lib.hid (show InsPost H S T w (.returned (.tuple #[])) w5 from ⟨rfl, s5, O3.out.trans o5⟩)
  clear s5 o5 R O3
  go_wp2_with fail
  go_end0
  exact F.out
set_option maxRecDepth 100000 in
theorem case3LR_black {w : World} {H : Hd} {S : List Nat} {x : Ctx} {i p g : Nat} {l r a u : BT} {k v bi kp vp bp kg vg bg : Int} (s0 : St rbL w H (.rf p a kp vp bp :: .lf g kg vg bg u :: x) (.node i l k v bi r)) (hu : col u = 1) (hS : ∀ b, b ∈ allIds H (.rf p a kp vp bp :: .lf g kg vg bg u :: x) (.node i l k v bi r) → b ∈ S) :
    Calls Tryz.prog 61 #[.pointer (some ⟨H.tb, 0, none⟩), .pointer (some ⟨i, 0, none⟩)] w (InsPost H S (Ctx.plug x (.node i (.node p a kp vp bp l) k v 1 (.node g r kg vg 0 u))) w) := by
  have sg := s0.upR.upL
  have hmem : ∀ b, b ∈ allIds H x (.node g (.node p a kp vp bp (.node i l k v bi r)) kg vg bg u) → b ∈ S := fun b hb => hS b (allIds_rf.2 (allIds_lf.2 hb))
  have i5 : w.cell? ⟨i, 5, none⟩ = some (.pointer (some ⟨p, 0, none⟩)) := s0.ht.1.cellP
  have p5 : w.cell? ⟨p, 5, none⟩ = some (.pointer (some ⟨g, 0, none⟩)) := s0.upR.ht.1.cellP
  have g3 := (Nd.cells_ sg.ht.1).2.2.1
  have g4 := (Nd.cells_ sg.ht.1).2.2.2
  have hn := sg.ndt
  simp only [BT.ids, List.nodup_cons, List.nodup_append, List.mem_append, List.mem_cons] at hn
  have hpu : p ∉ u.ids := by grind
  have C1 := Lib.hid (uncle_walk (x := u.root) i5 p5 (sib_l p5 g3 g4))
  have c2 := fun n => nodeColor_walk (w := w.drewN n) (t := u) (p := some g) (sg.ht.2.2.same fun _ _ => rfl)
  rw [hu] at c2
  have C2 := Lib.hid c2
  have C3 := Lib.hid (fun n => case4LR_walk (sg.drewN n))
  have FN := Lib.hid (fun (n : Nat) (w3 : World) (s3 : St rbL w3 H x (.node i (.node p a kp vp bp l) k v 1 (.node g r kg vg 0 u))) (o3 : Only (allIds H x (.node g (.node p a kp vp bp (.node i l k v bi r)) kg vg bg u)) (w.drewN n) w3) => show InsPost H S (Ctx.plug x (.node i (.node p a kp vp bp l) k v 1 (.node g r kg vg 0 u))) w (.returned (.tuple #[])) w3 from ⟨rfl, s3.plug, ((Only.refl _ w).drewN n).trans (o3.mono fun b _ hb => hmem b hb)⟩)
  clear s0 sg hmem g3 g4 hn hpu c2 hu hS
  generalize ptr u.root = yu at *
  go_enter Tryz.func61, Tryz.ntmps61
  go_wp2_with fail
  refine C1.out.mono ?_
  rintro e w1 ⟨rfl, n, rfl⟩
  clear C1
  go_wp2_with fail
  refine (C2.out n).mono ?_
  rintro e w1 ⟨rfl, rfl⟩
  clear C2
  go_wp2_with fail
  refine (C3.out n).mono ?_
  rintro e w3 ⟨rfl, s3, o3⟩
  have F := Lib.hid (FN.out _ _ s3 o3)
  clear s3 o3 C3 FN
  go_wp2_with fail
  go_end0
  exact F.out
set_option maxRecDepth 100000 in
theorem case3LR_red {w : World} {H : Hd} {S : List Nat} {T : BT} {x : Ctx} {i p g ui : Nat} {l r a ul ur : BT} {k v bi kp vp bp kg vg bg ku vu : Int} (s0 : St rbL w H (.rf p a kp vp bp :: .lf g kg vg bg (.node ui ul ku vu 0 ur) :: x) (.node i l k v bi r)) (hS : ∀ b, b ∈ allIds H (.rf p a kp vp bp :: .lf g kg vg bg (.node ui ul ku vu 0 ur) :: x) (.node i l k v bi r) → b ∈ S)
    (hrec : ∀ w', St rbL w' H x (.node g (.node p a kp vp 1 (.node i l k v bi r)) kg vg 0 (.node ui ul ku vu 1 ur)) → Calls Tryz.prog 51 #[.pointer (some ⟨H.tb, 0, none⟩), .pointer (some ⟨g, 0, none⟩)] w' (InsPost H S T w')) :
    Calls Tryz.prog 61 #[.pointer (some ⟨H.tb, 0, none⟩), .pointer (some ⟨i, 0, none⟩)] w (InsPost H S T w) := by
  have sg := s0.upR.upL
  have hmem : ∀ b, b ∈ allIds H x (.node g (.node p a kp vp bp (.node i l k v bi r)) kg vg bg (.node ui ul ku vu 0 ur)) → b ∈ S := fun b hb => hS b (allIds_rf.2 (allIds_lf.2 hb))
  have i5 : w.cell? ⟨i, 5, none⟩ = some (.pointer (some ⟨p, 0, none⟩)) := s0.ht.1.cellP
  have p5 : w.cell? ⟨p, 5, none⟩ = some (.pointer (some ⟨g, 0, none⟩)) := s0.upR.ht.1.cellP
  have g3 := (Nd.cells_ sg.ht.1).2.2.1
  have g4 := (Nd.cells_ sg.ht.1).2.2.2
  have hn := sg.ndt
  simp only [BT.ids, List.nodup_cons, List.nodup_append, List.mem_append, List.mem_cons] at hn
  have hpu : p ∉ BT.ids (.node ui ul ku vu 0 ur) := by simp only [BT.ids, List.mem_cons, List.mem_append, not_or]; grind
  have C1 := Lib.hid (uncle_walk (x := some ui) i5 p5 (sib_l p5 g3 g4))
  have c1 := C1.out
  simp only [ptr, Option.map_some] at c1
  replace C1 := Lib.hid c1
  clear c1
  have C2 := Lib.hid (fun n => nodeColor_node (w := w.drewN n) sg.ht.2.2.1)
  have all : ∀ n, ∃ (_ : St rbL ((w.drewN n).setCell ⟨p, 2, none⟩ (.bool true)) H x (.node g (.node p a kp vp 1 (.node i l k v bi r)) kg vg bg (.node ui ul ku vu 0 ur))) (_ : St rbL (((w.drewN n).setCell ⟨p, 2, none⟩ (.bool true)).setCell ⟨ui, 2, none⟩ (.bool true)) H x (.node g (.node p a kp vp 1 (.node i l k v bi r)) kg vg bg (.node ui ul ku vu 1 ur))) (_ : St rbL ((((w.drewN n).setCell ⟨p, 2, none⟩ (.bool true)).setCell ⟨ui, 2, none⟩ (.bool true)).setCell ⟨g, 2, none⟩ (.bool false)) H x (.node g (.node p a kp vp 1 (.node i l k v bi r)) kg vg 0 (.node ui ul ku vu 1 ur))), Only S w ((((w.drewN n).setCell ⟨p, 2, none⟩ (.bool true)).setCell ⟨ui, 2, none⟩ (.bool true)).setCell ⟨g, 2, none⟩ (.bool false)) := fun n => by
    have s1 := stBlack (s0.upR.drewN n)
    have t1 := s1.1.upL
    have s2 := stBlack t1.downR
    have t2 := s2.1.upR
    have s3 := stRed t2
    refine ⟨t1, t2, s3.1, ((((Only.refl _ w).drewN n).trans (s1.2.mono fun b _ hb => hmem b (allIds_lf.1 hb))).trans (s2.2.mono fun b _ hb => hmem b ?_)).trans (s3.2.mono fun b _ hb => hmem b ?_)⟩
    · simp only [allIds, Ctx.ids, Fr.ids, BT.ids, List.mem_cons, List.mem_append] at hb ⊢; grind
    · simp only [allIds, BT.ids, List.mem_cons, List.mem_append] at hb ⊢; grind
  have pc : w.cell? ⟨p, 2, none⟩ = some (.bool (bp == 1)) := s0.upR.ht.1.cellC
  have pf : w.frozen? ⟨p, 2, none⟩ = false := s0.upR.ht.1.frozen 2
  have ALL := Lib.hid all
  have HR := Lib.hid hrec
  clear s0 sg hmem g3 g4 hn hpu hS all hrec
  go_enter Tryz.func61, Tryz.ntmps61
  go_wp2_with fail
  refine C1.out.mono ?_
  rintro e w1 ⟨rfl, n, rfl⟩
  clear C1
  go_wp2_with fail
  refine (C2.out n).mono ?_
  rintro e w1 ⟨rfl, rfl⟩
  clear C2
  obtain ⟨t1, t2, t3, o3⟩ := ALL.out n
  have uc : ((w.drewN n).setCell ⟨p, 2, none⟩ (.bool true)).cell? ⟨ui, 2, none⟩ = some (.bool false) := t1.ht.2.2.1.cellC
  have uf : ((w.drewN n).setCell ⟨p, 2, none⟩ (.bool true)).frozen? ⟨ui, 2, none⟩ = false := t1.ht.2.2.1.frozen 2
  have gc : (((w.drewN n).setCell ⟨p, 2, none⟩ (.bool true)).setCell ⟨ui, 2, none⟩ (.bool true)).cell? ⟨g, 2, none⟩ = some (.bool (bg == 1)) := t2.ht.1.cellC
  have gf : (((w.drewN n).setCell ⟨p, 2, none⟩ (.bool true)).setCell ⟨ui, 2, none⟩ (.bool true)).frozen? ⟨g, 2, none⟩ = false := t2.ht.1.frozen 2
  have GP2 := Lib.hid (grandparent_walk (w := ((w.drewN n).setCell ⟨p, 2, none⟩ (.bool true)).setCell ⟨ui, 2, none⟩ (.bool true)) (x := some g) ((t2.downL.ht.2.2.1).cellP) (t2.downL.ht.1.cellP))
  have GP3 := Lib.hid (grandparent_walk (w := (((w.drewN n).setCell ⟨p, 2, none⟩ (.bool true)).setCell ⟨ui, 2, none⟩ (.bool true)).setCell ⟨g, 2, none⟩ (.bool false)) (x := some g) ((t3.downL.ht.2.2.1).cellP) (t3.downL.ht.1.cellP))
  have gp2 := GP2.out
  have gp3 := GP3.out
  simp only [ptr, Option.map_some] at gp2 gp3
  replace GP2 := Lib.hid gp2
  replace GP3 := Lib.hid gp3
  clear gp2 gp3
  have R := Lib.hid (HR.out _ t3)
  have O3 := Lib.hid o3
  clear t1 t2 t3 o3 ALL HR
  go_wp2_with fail
  refine GP2.out.mono ?_
  rintro e w4 ⟨rfl, rfl⟩
  clear GP2
  go_wp2_with fail
  refine GP3.out.mono ?_
  rintro e w4 ⟨rfl, rfl⟩
  clear GP3
  go_wp2_with fail
  refine R.out.mono ?_
  rintro e w5 ⟨rfl, s5, o5⟩
  have F := Lib.hid (show InsPost H S T w (.returned (.tuple #[])) w5 from ⟨rfl, s5, O3.out.trans o5⟩)
  clear s5 o5 R O3
  go_wp2_with fail
  go_end0
  exact F.out
set_option maxRecDepth 100000 in
theorem case3RL_black {w : World} {H : Hd} {S : List Nat} {x : Ctx} {i p g : Nat} {l r a u : BT} {k v bi kp vp bp kg vg bg : Int} (s0 : St rbL w H (.lf p kp vp bp a :: .rf g u kg vg bg :: x) (.node i l k v bi r)) (hu : col u = 1) (hS : ∀ b, b ∈ allIds H (.lf p kp vp bp a :: .rf g u kg vg bg :: x) (.node i l k v bi r) → b ∈ S) :
    Calls Tryz.prog 61 #[.pointer (some ⟨H.tb, 0, none⟩), .pointer (some ⟨i, 0, none⟩)] w (InsPost H S (Ctx.plug x (.node i (.node g u kg vg 0 l) k v 1 (.node p r kp vp bp a))) w) := by
  have sg := s0.upL.upR
  have hmem : ∀ b, b ∈ allIds H x (.node g u kg vg bg (.node p (.node i l k v bi r) kp vp bp a)) → b ∈ S := fun b hb => hS b (allIds_lf.2 (allIds_rf.2 hb))
  have i5 : w.cell? ⟨i, 5, none⟩ = some (.pointer (some ⟨p, 0, none⟩)) := s0.ht.1.cellP
  have p5 : w.cell? ⟨p, 5, none⟩ = some (.pointer (some ⟨g, 0, none⟩)) := s0.upL.ht.1.cellP
  have g3 := (Nd.cells_ sg.ht.1).2.2.1
  have g4 := (Nd.cells_ sg.ht.1).2.2.2
  have hn := sg.ndt
  simp only [BT.ids, List.nodup_cons, List.nodup_append, List.mem_append, List.mem_cons] at hn
  have hpu : p ∉ u.ids := by grind
  have C1 := Lib.hid (uncle_walk (x := u.root) i5 p5 (sib_r p5 g3 (rbPtr_root sg.ht.2.2.1 sg.ht.2.1 hpu)))
  have c2 := fun n => nodeColor_walk (w := w.drewN n) (t := u) (p := some g) (sg.ht.2.1.same fun _ _ => rfl)
  rw [hu] at c2
  have C2 := Lib.hid c2
  have C3 := Lib.hid (fun n => case4RL_walk (sg.drewN n))
  have FN := Lib.hid (fun (n : Nat) (w3 : World) (s3 : St rbL w3 H x (.node i (.node g u kg vg 0 l) k v 1 (.node p r kp vp bp a))) (o3 : Only (allIds H x (.node g u kg vg bg (.node p (.node i l k v bi r) kp vp bp a))) (w.drewN n) w3) => show InsPost H S (Ctx.plug x (.node i (.node g u kg vg 0 l) k v 1 (.node p r kp vp bp a))) w (.returned (.tuple #[])) w3 from ⟨rfl, s3.plug, ((Only.refl _ w).drewN n).trans (o3.mono fun b _ hb => hmem b hb)⟩)
  clear s0 sg hmem g3 g4 hn hpu c2 hu hS
  generalize ptr u.root = yu at *
  go_enter Tryz.func61, Tryz.ntmps61
  go_wp2_with fail
  refine C1.out.mono ?_
  rintro e w1 ⟨rfl, n, rfl⟩
  clear C1
  go_wp2_with fail
  refine (C2.out n).mono ?_
  rintro e w1 ⟨rfl, rfl⟩
  clear C2
  go_wp2_with fail
  refine (C3.out n).mono ?_
  rintro e w3 ⟨rfl, s3, o3⟩
  have F := Lib.hid (FN.out _ _ s3 o3)
  clear s3 o3 C3 FN
  go_wp2_with fail
  go_end0
  exact F.out
set_option maxRecDepth 100000 in
theorem case3RL_red {w : World} {H : Hd} {S : List Nat} {T : BT} {x : Ctx} {i p g ui : Nat} {l r a ul ur : BT} {k v bi kp vp bp kg vg bg ku vu : Int} (s0 : St rbL w H (.lf p kp vp bp a :: .rf g (.node ui ul ku vu 0 ur) kg vg bg :: x) (.node i l k v bi r)) (hS : ∀ b, b ∈ allIds H (.lf p kp vp bp a :: .rf g (.node ui ul ku vu 0 ur) kg vg bg :: x) (.node i l k v bi r) → b ∈ S)
    (hrec : ∀ w', St rbL w' H x (.node g (.node ui ul ku vu 1 ur) kg vg 0 (.node p (.node i l k v bi r) kp vp 1 a)) → Calls Tryz.prog 51 #[.pointer (some ⟨H.tb, 0, none⟩), .pointer (some ⟨g, 0, none⟩)] w' (InsPost H S T w')) :
    Calls Tryz.prog 61 #[.pointer (some ⟨H.tb, 0, none⟩), .pointer (some ⟨i, 0, none⟩)] w (InsPost H S T w) := by
  have sg := s0.upL.upR
  have hmem : ∀ b, b ∈ allIds H x (.node g (.node ui ul ku vu 0 ur) kg vg bg (.node p (.node i l k v bi r) kp vp bp a)) → b ∈ S := fun b hb => hS b (allIds_lf.2 (allIds_rf.2 hb))
  have i5 : w.cell? ⟨i, 5, none⟩ = some (.pointer (some ⟨p, 0, none⟩)) := s0.ht.1.cellP
  have p5 : w.cell? ⟨p, 5, none⟩ = some (.pointer (some ⟨g, 0, none⟩)) := s0.upL.ht.1.cellP
  have g3 := (Nd.cells_ sg.ht.1).2.2.1
  have g4 := (Nd.cells_ sg.ht.1).2.2.2
  have hn := sg.ndt
  simp only [BT.ids, List.nodup_cons, List.nodup_append, List.mem_append, List.mem_cons] at hn
  have hpu : p ∉ BT.ids (.node ui ul ku vu 0 ur) := by simp only [BT.ids, List.mem_cons, List.mem_append, not_or]; grind
  have C1 := Lib.hid (uncle_walk (x := some ui) i5 p5 (sib_r p5 g3 (rbPtr_root sg.ht.2.2.1 sg.ht.2.1 hpu)))
  have c1 := C1.out
  simp only [ptr, Option.map_some] at c1
  replace C1 := Lib.hid c1
  clear c1
  have C2 := Lib.hid (fun n => nodeColor_node (w := w.drewN n) sg.ht.2.1.1)
  have all : ∀ n, ∃ (_ : St rbL ((w.drewN n).setCell ⟨p, 2, none⟩ (.bool true)) H x (.node g (.node ui ul ku vu 0 ur) kg vg bg (.node p (.node i l k v bi r) kp vp 1 a))) (_ : St rbL (((w.drewN n).setCell ⟨p, 2, none⟩ (.bool true)).setCell ⟨ui, 2, none⟩ (.bool true)) H x (.node g (.node ui ul ku vu 1 ur) kg vg bg (.node p (.node i l k v bi r) kp vp 1 a))) (_ : St rbL ((((w.drewN n).setCell ⟨p, 2, none⟩ (.bool true)).setCell ⟨ui, 2, none⟩ (.bool true)).setCell ⟨g, 2, none⟩ (.bool false)) H x (.node g (.node ui ul ku vu 1 ur) kg vg 0 (.node p (.node i l k v bi r) kp vp 1 a))), Only S w ((((w.drewN n).setCell ⟨p, 2, none⟩ (.bool true)).setCell ⟨ui, 2, none⟩ (.bool true)).setCell ⟨g, 2, none⟩ (.bool false)) := fun n => by
    have s1 := stBlack (s0.upL.drewN n)
    have t1 := s1.1.upR
    have s2 := stBlack t1.downL
    have t2 := s2.1.upL
    have s3 := stRed t2
    refine ⟨t1, t2, s3.1, ((((Only.refl _ w).drewN n).trans (s1.2.mono fun b _ hb => hmem b (allIds_rf.1 hb))).trans (s2.2.mono fun b _ hb => hmem b ?_)).trans (s3.2.mono fun b _ hb => hmem b ?_)⟩
    · simp only [allIds, Ctx.ids, Fr.ids, BT.ids, List.mem_cons, List.mem_append] at hb ⊢; grind
    · simp only [allIds, BT.ids, List.mem_cons, List.mem_append] at hb ⊢; grind
  have pc : w.cell? ⟨p, 2, none⟩ = some (.bool (bp == 1)) := s0.upL.ht.1.cellC
  have pf : w.frozen? ⟨p, 2, none⟩ = false := s0.upL.ht.1.frozen 2
  have ALL := Lib.hid all
  have HR := Lib.hid hrec
  clear s0 sg hmem g3 g4 hn hpu hS all hrec
  go_enter Tryz.func61, Tryz.ntmps61
  go_wp2_with fail
  refine C1.out.mono ?_
  rintro e w1 ⟨rfl, n, rfl⟩
  clear C1
  go_wp2_with fail
  refine (C2.out n).mono ?_
  rintro e w1 ⟨rfl, rfl⟩
  clear C2
  obtain ⟨t1, t2, t3, o3⟩ := ALL.out n
  have uc : ((w.drewN n).setCell ⟨p, 2, none⟩ (.bool true)).cell? ⟨ui, 2, none⟩ = some (.bool false) := t1.ht.2.1.1.cellC
  have uf : ((w.drewN n).setCell ⟨p, 2, none⟩ (.bool true)).frozen? ⟨ui, 2, none⟩ = false := t1.ht.2.1.1.frozen 2
  have gc : (((w.drewN n).setCell ⟨p, 2, none⟩ (.bool true)).setCell ⟨ui, 2, none⟩ (.bool true)).cell? ⟨g, 2, none⟩ = some (.bool (bg == 1)) := t2.ht.1.cellC
  have gf : (((w.drewN n).setCell ⟨p, 2, none⟩ (.bool true)).setCell ⟨ui, 2, none⟩ (.bool true)).frozen? ⟨g, 2, none⟩ = false := t2.ht.1.frozen 2
  have GP2 := Lib.hid (grandparent_walk (w := ((w.drewN n).setCell ⟨p, 2, none⟩ (.bool true)).setCell ⟨ui, 2, none⟩ (.bool true)) (x := some g) ((t2.downR.ht.2.1.1).cellP) (t2.downR.ht.1.cellP))
  have GP3 := Lib.hid (grandparent_walk (w := (((w.drewN n).setCell ⟨p, 2, none⟩ (.bool true)).setCell ⟨ui, 2, none⟩ (.bool true)).setCell ⟨g, 2, none⟩ (.bool false)) (x := some g) ((t3.downR.ht.2.1.1).cellP) (t3.downR.ht.1.cellP))
  have gp2 := GP2.out
  have gp3 := GP3.out
  simp only [ptr, Option.map_some] at gp2 gp3
  replace GP2 := Lib.hid gp2
  replace GP3 := Lib.hid gp3
  clear gp2 gp3
  have R := Lib.hid (HR.out _ t3)
  have O3 := Lib.hid o3
  clear t1 t2 t3 o3 ALL HR
  go_wp2_with fail
  refine GP2.out.mono ?_
  rintro e w4 ⟨rfl, rfl⟩
  clear GP2
  go_wp2_with fail
  refine GP3.out.mono ?_
  rintro e w4 ⟨rfl, rfl⟩
  clear GP3
  go_wp2_with fail
  refine R.out.mono ?_
  rintro e w5 ⟨rfl, s5, o5⟩
  have F := Lib.hid (show InsPost H S T w (.returned (.tuple #[])) w5 from ⟨rfl, s5, O3.out.trans o5⟩)
  clear s5 o5 R O3
  go_wp2_with fail
  go_end0
  exact F.out
set_option maxRecDepth 100000 in
theorem case3RR_black {w : World} {H : Hd} {S : List Nat} {x : Ctx} {i p g : Nat} {l r a u : BT} {k v bi kp vp bp kg vg bg : Int} (s0 : St rbL w H (.rf p a kp vp bp :: .rf g u kg vg bg :: x) (.node i l k v bi r)) (hu : col u = 1) (hS : ∀ b, b ∈ allIds H (.rf p a kp vp bp :: .rf g u kg vg bg :: x) (.node i l k v bi r) → b ∈ S) :
    Calls Tryz.prog 61 #[.pointer (some ⟨H.tb, 0, none⟩), .pointer (some ⟨i, 0, none⟩)] w (InsPost H S (Ctx.plug x (.node p (.node g u kg vg 0 a) kp vp 1 (.node i l k v bi r))) w) := by
  have sg := s0.upR.upR
  have hmem : ∀ b, b ∈ allIds H x (.node g u kg vg bg (.node p a kp vp bp (.node i l k v bi r))) → b ∈ S := fun b hb => hS b (allIds_rf.2 (allIds_rf.2 hb))
  have i5 : w.cell? ⟨i, 5, none⟩ = some (.pointer (some ⟨p, 0, none⟩)) := s0.ht.1.cellP
  have p5 : w.cell? ⟨p, 5, none⟩ = some (.pointer (some ⟨g, 0, none⟩)) := s0.upR.ht.1.cellP
  have g3 := (Nd.cells_ sg.ht.1).2.2.1
  have g4 := (Nd.cells_ sg.ht.1).2.2.2
  have hn := sg.ndt
  simp only [BT.ids, List.nodup_cons, List.nodup_append, List.mem_append, List.mem_cons] at hn
  have hpu : p ∉ u.ids := by grind
  have C1 := Lib.hid (uncle_walk (x := u.root) i5 p5 (sib_r p5 g3 (rbPtr_root sg.ht.2.2.1 sg.ht.2.1 hpu)))
  have c2 := fun n => nodeColor_walk (w := w.drewN n) (t := u) (p := some g) (sg.ht.2.1.same fun _ _ => rfl)
  rw [hu] at c2
  have C2 := Lib.hid c2
  have C3 := Lib.hid (fun n => case4RR_walk (sg.drewN n))
  have FN := Lib.hid (fun (n : Nat) (w3 : World) (s3 : St rbL w3 H x (.node p (.node g u kg vg 0 a) kp vp 1 (.node i l k v bi r))) (o3 : Only (allIds H x (.node g u kg vg bg (.node p a kp vp bp (.node i l k v bi r)))) (w.drewN n) w3) => show InsPost H S (Ctx.plug x (.node p (.node g u kg vg 0 a) kp vp 1 (.node i l k v bi r))) w (.returned (.tuple #[])) w3 from ⟨rfl, s3.plug, ((Only.refl _ w).drewN n).trans (o3.mono fun b _ hb => hmem b hb)⟩)
  clear s0 sg hmem g3 g4 hn hpu c2 hu hS
  generalize ptr u.root = yu at *
  go_enter Tryz.func61, Tryz.ntmps61
  go_wp2_with fail
  refine C1.out.mono ?_
  rintro e w1 ⟨rfl, n, rfl⟩
  clear C1
  go_wp2_with fail
  refine (C2.out n).mono ?_
  rintro e w1 ⟨rfl, rfl⟩
  clear C2
  go_wp2_with fail
  refine (C3.out n).mono ?_
  rintro e w3 ⟨rfl, s3, o3⟩
  have F := Lib.hid (FN.out _ _ s3 o3)
  clear s3 o3 C3 FN
  go_wp2_with fail
  go_end0
  exact F.out
set_option maxRecDepth 100000 in
theorem case3RR_red {w : World} {H : Hd} {S : List Nat} {T : BT} {x : Ctx} {i p g ui : Nat} {l r a ul ur : BT} {k v bi kp vp bp kg vg bg ku vu : Int} (s0 : St rbL w H (.rf p a kp vp bp :: .rf g (.node ui ul ku vu 0 ur) kg vg bg :: x) (.node i l k v bi r)) (hS : ∀ b, b ∈ allIds H (.rf p a kp vp bp :: .rf g (.node ui ul ku vu 0 ur) kg vg bg :: x) (.node i l k v bi r) → b ∈ S)
    (hrec : ∀ w', St rbL w' H x (.node g (.node ui ul ku vu 1 ur) kg vg 0 (.node p a kp vp 1 (.node i l k v bi r))) → Calls Tryz.prog 51 #[.pointer (some ⟨H.tb, 0, none⟩), .pointer (some ⟨g, 0, none⟩)] w' (InsPost H S T w')) :
    Calls Tryz.prog 61 #[.pointer (some ⟨H.tb, 0, none⟩), .pointer (some ⟨i, 0, none⟩)] w (InsPost H S T w) := by
  have sg := s0.upR.upR
  have hmem : ∀ b, b ∈ allIds H x (.node g (.node ui ul ku vu 0 ur) kg vg bg (.node p a kp vp bp (.node i l k v bi r))) → b ∈ S := fun b hb => hS b (allIds_rf.2 (allIds_rf.2 hb))
  have i5 : w.cell? ⟨i, 5, none⟩ = some (.pointer (some ⟨p, 0, none⟩)) := s0.ht.1.cellP
  have p5 : w.cell? ⟨p, 5, none⟩ = some (.pointer (some ⟨g, 0, none⟩)) := s0.upR.ht.1.cellP
  have g3 := (Nd.cells_ sg.ht.1).2.2.1
  have g4 := (Nd.cells_ sg.ht.1).2.2.2
  have hn := sg.ndt
  simp only [BT.ids, List.nodup_cons, List.nodup_append, List.mem_append, List.mem_cons] at hn
  have hpu : p ∉ BT.ids (.node ui ul ku vu 0 ur) := by simp only [BT.ids, List.mem_cons, List.mem_append, not_or]; grind
  have C1 := Lib.hid (uncle_walk (x := some ui) i5 p5 (sib_r p5 g3 (rbPtr_root sg.ht.2.2.1 sg.ht.2.1 hpu)))
  have c1 := C1.out
  simp only [ptr, Option.map_some] at c1
  replace C1 := Lib.hid c1
  clear c1
  have C2 := Lib.hid (fun n => nodeColor_node (w := w.drewN n) sg.ht.2.1.1)
  have all : ∀ n, ∃ (_ : St rbL ((w.drewN n).setCell ⟨p, 2, none⟩ (.bool true)) H x (.node g (.node ui ul ku vu 0 ur) kg vg bg (.node p a kp vp 1 (.node i l k v bi r)))) (_ : St rbL (((w.drewN n).setCell ⟨p, 2, none⟩ (.bool true)).setCell ⟨ui, 2, none⟩ (.bool true)) H x (.node g (.node ui ul ku vu 1 ur) kg vg bg (.node p a kp vp 1 (.node i l k v bi r)))) (_ : St rbL ((((w.drewN n).setCell ⟨p, 2, none⟩ (.bool true)).setCell ⟨ui, 2, none⟩ (.bool true)).setCell ⟨g, 2, none⟩ (.bool false)) H x (.node g (.node ui ul ku vu 1 ur) kg vg 0 (.node p a kp vp 1 (.node i l k v bi r)))), Only S w ((((w.drewN n).setCell ⟨p, 2, none⟩ (.bool true)).setCell ⟨ui, 2, none⟩ (.bool true)).setCell ⟨g, 2, none⟩ (.bool false)) := fun n => by
    have s1 := stBlack (s0.upR.drewN n)
    have t1 := s1.1.upR
    have s2 := stBlack t1.downL
    have t2 := s2.1.upL
    have s3 := stRed t2
    refine ⟨t1, t2, s3.1, ((((Only.refl _ w).drewN n).trans (s1.2.mono fun b _ hb => hmem b (allIds_rf.1 hb))).trans (s2.2.mono fun b _ hb => hmem b ?_)).trans (s3.2.mono fun b _ hb => hmem b ?_)⟩
    · simp only [allIds, Ctx.ids, Fr.ids, BT.ids, List.mem_cons, List.mem_append] at hb ⊢; grind
    · simp only [allIds, BT.ids, List.mem_cons, List.mem_append] at hb ⊢; grind
  have pc : w.cell? ⟨p, 2, none⟩ = some (.bool (bp == 1)) := s0.upR.ht.1.cellC
  have pf : w.frozen? ⟨p, 2, none⟩ = false := s0.upR.ht.1.frozen 2
  have ALL := Lib.hid all
  have HR := Lib.hid hrec
  clear s0 sg hmem g3 g4 hn hpu hS all hrec
  go_enter Tryz.func61, Tryz.ntmps61
  go_wp2_with fail
  refine C1.out.mono ?_
  rintro e w1 ⟨rfl, n, rfl⟩
  clear C1
  go_wp2_with fail
  refine (C2.out n).mono ?_
  rintro e w1 ⟨rfl, rfl⟩
  clear C2
  obtain ⟨t1, t2, t3, o3⟩ := ALL.out n
  have uc : ((w.drewN n).setCell ⟨p, 2, none⟩ (.bool true)).cell? ⟨ui, 2, none⟩ = some (.bool false) := t1.ht.2.1.1.cellC
  have uf : ((w.drewN n).setCell ⟨p, 2, none⟩ (.bool true)).frozen? ⟨ui, 2, none⟩ = false := t1.ht.2.1.1.frozen 2
  have gc : (((w.drewN n).setCell ⟨p, 2, none⟩ (.bool true)).setCell ⟨ui, 2, none⟩ (.bool true)).cell? ⟨g, 2, none⟩ = some (.bool (bg == 1)) := t2.ht.1.cellC
  have gf : (((w.drewN n).setCell ⟨p, 2, none⟩ (.bool true)).setCell ⟨ui, 2, none⟩ (.bool true)).frozen? ⟨g, 2, none⟩ = false := t2.ht.1.frozen 2
  have GP2 := Lib.hid (grandparent_walk (w := ((w.drewN n).setCell ⟨p, 2, none⟩ (.bool true)).setCell ⟨ui, 2, none⟩ (.bool true)) (x := some g) ((t2.downR.ht.2.2.1).cellP) (t2.downR.ht.1.cellP))
  have GP3 := Lib.hid (grandparent_walk (w := (((w.drewN n).setCell ⟨p, 2, none⟩ (.bool true)).setCell ⟨ui, 2, none⟩ (.bool true)).setCell ⟨g, 2, none⟩ (.bool false)) (x := some g) ((t3.downR.ht.2.2.1).cellP) (t3.downR.ht.1.cellP))
  have gp2 := GP2.out
  have gp3 := GP3.out
  simp only [ptr, Option.map_some] at gp2 gp3
  replace GP2 := Lib.hid gp2
  replace GP3 := Lib.hid gp3
  clear gp2 gp3
  have R := Lib.hid (HR.out _ t3)
  have O3 := Lib.hid o3
  clear t1 t2 t3 o3 ALL HR
  go_wp2_with fail
  refine GP2.out.mono ?_
  rintro e w4 ⟨rfl, rfl⟩
  clear GP2
  go_wp2_with fail
  refine GP3.out.mono ?_
  rintro e w4 ⟨rfl, rfl⟩
  clear GP3
  go_wp2_with fail
  refine R.out.mono ?_
  rintro e w5 ⟨rfl, s5, o5⟩
  have F := Lib.hid (show InsPost H S T w (.returned (.tuple #[])) w5 from ⟨rfl, s5, O3.out.trans o5⟩)
  clear s5 o5 R O3
  go_wp2_with fail
  go_end0
  exact F.out
end Go.Proofs.YtbdcepkahdecjaaGreat.Rb

namespace Go.Proofs.YtbdcepkahdecjaaGreat.Rb
open Go.RowKit Go.Proofs.YtbdcepkahdecjaaGreat
theorem stCol {w : World} {H : Hd} {c : Ctx} {i : Nat} {l r : BT} {k v b : Int} (s : St rbL w H c (.node i l k v b r)) (x : Int) :
    St rbL (w.setCell ⟨i, 2, none⟩ (.bool (x == 1))) H c (.node i l k v x r) ∧ Only (allIds H c (.node i l k v b r)) w (w.setCell ⟨i, 2, none⟩ (.bool (x == 1))) :=
  St.root_set s (Nd.setC (L := rbL) s.ht.1 x)
structure View (w : World) (i p si : Nat) (kp vp cp ks vs cs : Int) (sl sr : BT) : Prop where
  i5 : w.cell? ⟨i, 5, none⟩ = some (.pointer (some ⟨p, 0, none⟩))
  sib : Calls Tryz.prog 62 #[.pointer (some ⟨i, 0, none⟩)] w fun e w' => e = .returned (.pointer (some ⟨si, 0, none⟩)) ∧ w = w'
  np : ∃ q l r, Nd rbL w p kp vp cp q l r
  ns : ∃ q, Nd rbL w si ks vs cs q sl.root sr.root
  tl : IsT rbL w sl (some si)
  tr : IsT rbL w sr (some si)
theorem viewL {w : World} {H : Hd} {x : Ctx} {i p si : Nat} {l r sl sr : BT} {k v b kp vp cp ks vs cs : Int} (s0 : St rbL w H (.lf p kp vp cp (.node si sl ks vs cs sr) :: x) (.node i l k v b r)) : View w i p si kp vp cp ks vs cs sl sr := by
  have sp := s0.upL
  refine ⟨s0.ht.1.cellP, ?_, ⟨_, _, _, sp.ht.1⟩, ⟨_, sp.ht.2.2.1⟩, sp.ht.2.2.2.1, sp.ht.2.2.2.2⟩
  exact sib_l (x := some si) s0.ht.1.cellP (Nd.cells_ sp.ht.1).2.2.1 (Nd.cells_ sp.ht.1).2.2.2
theorem viewR {w : World} {H : Hd} {x : Ctx} {i p si : Nat} {l r sl sr : BT} {k v b kp vp cp ks vs cs : Int} (s0 : St rbL w H (.rf p (.node si sl ks vs cs sr) kp vp cp :: x) (.node i l k v b r)) : View w i p si kp vp cp ks vs cs sl sr := by
  have sp := s0.upR
  have hn := sp.ndt
  simp only [BT.ids, List.nodup_cons, List.nodup_append, List.mem_append, List.mem_cons] at hn
  refine ⟨s0.ht.1.cellP, ?_, ⟨_, _, _, sp.ht.1⟩, ⟨_, sp.ht.2.1.1⟩, sp.ht.2.1.2.1, sp.ht.2.1.2.2⟩
  exact sib_r (x := some si) s0.ht.1.cellP (Nd.cells_ sp.ht.1).2.2.1 (rbPtr_other w (by grind) s0.ht.1 sp.ht.2.1.1)
abbrev Ret (R : World → Prop) (e : Ending) (w' : World) : Prop := e = .returned (.tuple #[]) ∧ R w'
set_option maxRecDepth 100000 in
theorem deleteCase3_next {w : World} {R : World → Prop} {tb i p si : Nat} {kp vp cp ks vs : Int} {sl sr : BT} (hv : View w i p si kp vp cp ks vs 1 sl sr) (hc : cp = 0 ∨ (cp = 1 ∧ (col sl = 0 ∨ (col sl = 1 ∧ col sr = 0))))
    (h : Calls Tryz.prog 69 #[.pointer (some ⟨tb, 0, none⟩), .pointer (some ⟨i, 0, none⟩)] w (Ret R)) :
    Calls Tryz.prog 65 #[.pointer (some ⟨tb, 0, none⟩), .pointer (some ⟨i, 0, none⟩)] w (Ret R) := by
  obtain ⟨i5, sib, ⟨qp, lp, rp, np⟩, ⟨qs, ns⟩, tl, tr⟩ := hv
  have s3 := (Nd.cells_ ns).2.2.1
  have s4 := (Nd.cells_ ns).2.2.2
  have Cp := Lib.hid (nodeColor_node np)
  have Cs := Lib.hid (nodeColor_node ns)
  have cl := nodeColor_walk tl
  have cr := nodeColor_walk tr
  have Sib := Lib.hid sib
  have Hc := Lib.hid h
  clear sib h np ns tl tr
  rcases hc with rfl | ⟨rfl, hl | ⟨hl, hr⟩⟩
  · generalize ptr sl.root = yl at *
    generalize ptr sr.root = yr at *
    clear cl cr Cs
    go_enter Tryz.func65, Tryz.ntmps65
    go_wp2_with fail
    refine Sib.out.mono ?_
    rintro e w1 ⟨rfl, rfl⟩
    go_wp2_with fail
    refine Cp.out.mono ?_
    rintro e w1 ⟨rfl, rfl⟩
    go_wp2_with fail
    refine Hc.out.mono ?_
    rintro e w1 ⟨rfl, hr1⟩
    have F := Lib.hid hr1
    clear hr1 Hc
    go_wp2_with fail
    go_end0
    exact ⟨rfl, F.out⟩
  · rw [hl] at cl
    have Cl := Lib.hid cl
    clear cl cr hl
    generalize ptr sl.root = yl at *
    generalize ptr sr.root = yr at *
    go_enter Tryz.func65, Tryz.ntmps65
    go_wp2_with fail
    refine Sib.out.mono ?_
    rintro e w1 ⟨rfl, rfl⟩
    go_wp2_with fail
    refine Cp.out.mono ?_
    rintro e w1 ⟨rfl, rfl⟩
    go_wp2_with fail
    refine Cs.out.mono ?_
    rintro e w1 ⟨rfl, rfl⟩
    go_wp2_with fail
    refine Cl.out.mono ?_
    rintro e w1 ⟨rfl, rfl⟩
    go_wp2_with fail
    refine Hc.out.mono ?_
    rintro e w1 ⟨rfl, hr1⟩
    have F := Lib.hid hr1
    clear hr1 Hc
    go_wp2_with fail
    go_end0
    exact ⟨rfl, F.out⟩
  · rw [hl] at cl
    rw [hr] at cr
    have Cl := Lib.hid cl
    have Cr := Lib.hid cr
    clear cl cr hl hr
    generalize ptr sl.root = yl at *
    generalize ptr sr.root = yr at *
    go_enter Tryz.func65, Tryz.ntmps65
    go_wp2_with fail
    refine Sib.out.mono ?_
    rintro e w1 ⟨rfl, rfl⟩
    go_wp2_with fail
    refine Cp.out.mono ?_
    rintro e w1 ⟨rfl, rfl⟩
    go_wp2_with fail
    refine Cs.out.mono ?_
    rintro e w1 ⟨rfl, rfl⟩
    go_wp2_with fail
    refine Cl.out.mono ?_
    rintro e w1 ⟨rfl, rfl⟩
    go_wp2_with fail
    refine Cr.out.mono ?_
    rintro e w1 ⟨rfl, rfl⟩
    go_wp2_with fail
    refine Hc.out.mono ?_
    rintro e w1 ⟨rfl, hr1⟩
    have F := Lib.hid hr1
    clear hr1 Hc
    go_wp2_with fail
    go_end0
    exact ⟨rfl, F.out⟩
set_option maxRecDepth 100000 in
theorem deleteCase4_next {w : World} {R : World → Prop} {tb i p si : Nat} {kp vp cp ks vs : Int} {sl sr : BT} (hv : View w i p si kp vp cp ks vs 1 sl sr) (hc : cp = 1 ∨ (cp = 0 ∧ (col sl = 0 ∨ (col sl = 1 ∧ col sr = 0))))
    (h : Calls Tryz.prog 71 #[.pointer (some ⟨tb, 0, none⟩), .pointer (some ⟨i, 0, none⟩)] w (Ret R)) :
    Calls Tryz.prog 69 #[.pointer (some ⟨tb, 0, none⟩), .pointer (some ⟨i, 0, none⟩)] w (Ret R) := by
  obtain ⟨i5, sib, ⟨qp, lp, rp, np⟩, ⟨qs, ns⟩, tl, tr⟩ := hv
  have s3 := (Nd.cells_ ns).2.2.1
  have s4 := (Nd.cells_ ns).2.2.2
  have Cp := Lib.hid (nodeColor_node np)
  have Cs := Lib.hid (nodeColor_node ns)
  have cl := nodeColor_walk tl
  have cr := nodeColor_walk tr
  have Sib := Lib.hid sib
  have Hc := Lib.hid h
  clear sib h np ns tl tr
  rcases hc with rfl | ⟨rfl, hl | ⟨hl, hr⟩⟩
  · generalize ptr sl.root = yl at *
    generalize ptr sr.root = yr at *
    clear cl cr Cs
    go_enter Tryz.func69, Tryz.ntmps69
    go_wp2_with fail
    refine Sib.out.mono ?_
    rintro e w1 ⟨rfl, rfl⟩
    go_wp2_with fail
    refine Cp.out.mono ?_
    rintro e w1 ⟨rfl, rfl⟩
    go_wp2_with fail
    refine Hc.out.mono ?_
    rintro e w1 ⟨rfl, hr1⟩
    have F := Lib.hid hr1
    clear hr1 Hc
    go_wp2_with fail
    go_end0
    exact ⟨rfl, F.out⟩
  · rw [hl] at cl
    have Cl := Lib.hid cl
    clear cl cr hl
    generalize ptr sl.root = yl at *
    generalize ptr sr.root = yr at *
    go_enter Tryz.func69, Tryz.ntmps69
    go_wp2_with fail
    refine Sib.out.mono ?_
    rintro e w1 ⟨rfl, rfl⟩
    go_wp2_with fail
    refine Cp.out.mono ?_
    rintro e w1 ⟨rfl, rfl⟩
    go_wp2_with fail
    refine Cs.out.mono ?_
    rintro e w1 ⟨rfl, rfl⟩
    go_wp2_with fail
    refine Cl.out.mono ?_
    rintro e w1 ⟨rfl, rfl⟩
    go_wp2_with fail
    refine Hc.out.mono ?_
    rintro e w1 ⟨rfl, hr1⟩
    have F := Lib.hid hr1
    clear hr1 Hc
    go_wp2_with fail
    go_end0
    exact ⟨rfl, F.out⟩
  · rw [hl] at cl
    rw [hr] at cr
    have Cl := Lib.hid cl
    have Cr := Lib.hid cr
    clear cl cr hl hr
    generalize ptr sl.root = yl at *
    generalize ptr sr.root = yr at *
    go_enter Tryz.func69, Tryz.ntmps69
    go_wp2_with fail
    refine Sib.out.mono ?_
    rintro e w1 ⟨rfl, rfl⟩
    go_wp2_with fail
    refine Cp.out.mono ?_
    rintro e w1 ⟨rfl, rfl⟩
    go_wp2_with fail
    refine Cs.out.mono ?_
    rintro e w1 ⟨rfl, rfl⟩
    go_wp2_with fail
    refine Cl.out.mono ?_
    rintro e w1 ⟨rfl, rfl⟩
    go_wp2_with fail
    refine Cr.out.mono ?_
    rintro e w1 ⟨rfl, rfl⟩
    go_wp2_with fail
    refine Hc.out.mono ?_
    rintro e w1 ⟨rfl, hr1⟩
    have F := Lib.hid hr1
    clear hr1 Hc
    go_wp2_with fail
    go_end0
    exact ⟨rfl, F.out⟩
set_option maxRecDepth 100000 in
theorem deleteCase3_all {w : World} {R : World → Prop} {tb i p si : Nat} {kp vp ks vs : Int} {sl sr : BT} (hv : View w i p si kp vp 1 ks vs 1 sl sr) (hl : col sl = 1) (hr : col sr = 1) (hsi : ¬ si = i)
    (h : Calls Tryz.prog 55 #[.pointer (some ⟨tb, 0, none⟩), .pointer (some ⟨p, 0, none⟩)] (w.setCell ⟨si, 2, none⟩ (.bool false)) (Ret R)) :
    Calls Tryz.prog 65 #[.pointer (some ⟨tb, 0, none⟩), .pointer (some ⟨i, 0, none⟩)] w (Ret R) := by
  obtain ⟨i5, sib, ⟨qp, lp, rp, np⟩, ⟨qs, ns⟩, tl, tr⟩ := hv
  have s3 := (Nd.cells_ ns).2.2.1
  have s4 := (Nd.cells_ ns).2.2.2
  have Cp := Lib.hid (nodeColor_node np)
  have Cs := Lib.hid (nodeColor_node ns)
  have cl := nodeColor_walk tl
  have cr := nodeColor_walk tr
  rw [hl] at cl
  rw [hr] at cr
  have sc : w.cell? ⟨si, 2, none⟩ = some (.bool true) := ns.cellC
  have sf := ns.frozen 2
  have Cl := Lib.hid cl
  have Cr := Lib.hid cr
  have Sib := Lib.hid sib
  have Hc := Lib.hid h
  have his : ¬ i = si := fun e => hsi e.symm
  clear sib h np ns tl tr cl cr hl hr
  generalize ptr sl.root = yl at *
  generalize ptr sr.root = yr at *
  go_enter Tryz.func65, Tryz.ntmps65
  go_wp2_with fail
  refine Sib.out.mono ?_
  rintro e w1 ⟨rfl, rfl⟩
  go_wp2_with fail
  refine Cp.out.mono ?_
  rintro e w1 ⟨rfl, rfl⟩
  go_wp2_with fail
  refine Cs.out.mono ?_
  rintro e w1 ⟨rfl, rfl⟩
  go_wp2_with fail
  refine Cl.out.mono ?_
  rintro e w1 ⟨rfl, rfl⟩
  go_wp2_with fail
  refine Cr.out.mono ?_
  rintro e w1 ⟨rfl, rfl⟩
  go_wp2_with fail
  refine Hc.out.mono ?_
  rintro e w1 ⟨rfl, hr1⟩
  have F := Lib.hid hr1
  clear hr1 Hc
  go_wp2_with fail
  go_end0
  exact ⟨rfl, F.out⟩
set_option maxRecDepth 100000 in
theorem deleteCase4_all {w : World} {R : World → Prop} {tb i p si : Nat} {kp vp ks vs : Int} {sl sr : BT} (hv : View w i p si kp vp 0 ks vs 1 sl sr) (hl : col sl = 1) (hr : col sr = 1) (hsi : ¬ si = i) (hsp : ¬ si = p)
    (h : R ((w.setCell ⟨si, 2, none⟩ (.bool false)).setCell ⟨p, 2, none⟩ (.bool true))) :
    Calls Tryz.prog 69 #[.pointer (some ⟨tb, 0, none⟩), .pointer (some ⟨i, 0, none⟩)] w (Ret R) := by
  obtain ⟨i5, sib, ⟨qp, lp, rp, np⟩, ⟨qs, ns⟩, tl, tr⟩ := hv
  have s3 := (Nd.cells_ ns).2.2.1
  have s4 := (Nd.cells_ ns).2.2.2
  have Cp := Lib.hid (nodeColor_node np)
  have Cs := Lib.hid (nodeColor_node ns)
  have cl := nodeColor_walk tl
  have cr := nodeColor_walk tr
  rw [hl] at cl
  rw [hr] at cr
  have sc : w.cell? ⟨si, 2, none⟩ = some (.bool true) := ns.cellC
  have sf := ns.frozen 2
  have Cl := Lib.hid cl
  have Cr := Lib.hid cr
  have Sib := Lib.hid sib
  have pc : w.cell? ⟨p, 2, none⟩ = some (.bool false) := np.cellC
  have pf := np.frozen 2
  have F := Lib.hid h
  have his : ¬ i = si := fun e => hsi e.symm
  have hps : ¬ p = si := fun e => hsp e.symm
  clear sib h np ns tl tr cl cr hl hr
  generalize ptr sl.root = yl at *
  generalize ptr sr.root = yr at *
  go_enter Tryz.func69, Tryz.ntmps69
  go_wp2_with fail
  refine Sib.out.mono ?_
  rintro e w1 ⟨rfl, rfl⟩
  go_wp2_with fail
  refine Cp.out.mono ?_
  rintro e w1 ⟨rfl, rfl⟩
  go_wp2_with fail
  refine Cs.out.mono ?_
  rintro e w1 ⟨rfl, rfl⟩
  go_wp2_with fail
  refine Cl.out.mono ?_
  rintro e w1 ⟨rfl, rfl⟩
  go_wp2_with fail
  refine Cr.out.mono ?_
  rintro e w1 ⟨rfl, rfl⟩
  go_wp2_with fail
  go_end0
  exact ⟨rfl, F.out⟩
end Go.Proofs.YtbdcepkahdecjaaGreat.Rb

namespace Go.Proofs.YtbdcepkahdecjaaGreat.Rb
open Go.RowKit Go.Proofs.YtbdcepkahdecjaaGreat
set_option maxHeartbeats 1000000 in
set_option maxRecDepth 100000 in
theorem deleteCase6L_walk {w : World} {H : Hd} {x : Ctx} {i p si q : Nat} {l r sn ql qr : BT} {k v b kp vp cp ks vs cs kq vq : Int} (s0 : St rbL w H (.lf p kp vp cp (.node si sn ks vs cs (.node q ql kq vq 0 qr)) :: x) (.node i l k v b r)) :
    Calls Tryz.prog 72 #[.pointer (some ⟨H.tb, 0, none⟩), .pointer (some ⟨i, 0, none⟩)] w (Ret fun w' => St rbL w' H (.lf p kp vp 1 sn :: .lf si ks vs cp (.node q ql kq vq 1 qr) :: x) (.node i l k v b r) ∧ Only (allIds H (.lf p kp vp cp (.node si sn ks vs cs (.node q ql kq vq 0 qr)) :: x) (.node i l k v b r)) w w') := by
  obtain ⟨i5, sib, ⟨qp, lp, rp, np⟩, ⟨qs, ns⟩, _, _⟩ := viewL s0
  have sc : w.cell? ⟨si, 2, none⟩ = some (.bool (cs == 1)) := ns.cellC
  have sf := ns.frozen 2
  have Cp := Lib.hid (nodeColor_node np)
  have hm0 : ∀ y, y ∈ allIds H x (.node p (.node i l k v b r) kp vp cp (.node si sn ks vs cs (.node q ql kq vq 0 qr))) → y ∈ allIds H (.lf p kp vp cp (.node si sn ks vs cs (.node q ql kq vq 0 qr)) :: x) (.node i l k v b r) := fun y hy => allIds_lf.2 hy
  have u1 := stCol s0.upL.downR cp
  have t1 : St rbL (w.setCell ⟨si, 2, none⟩ (.bool (cp == 1))) H x (.node p (.node i l k v b r) kp vp cp (.node si sn ks vs cp (.node q ql kq vq 0 qr))) := u1.1.upR
  have u2 := stBlack t1
  have t2 : St rbL ((w.setCell ⟨si, 2, none⟩ (.bool (cp == 1))).setCell ⟨p, 2, none⟩ (.bool true)) H x (.node p (.node i l k v b r) kp vp 1 (.node si sn ks vs cp (.node q ql kq vq 0 qr))) := u2.1
  have u3 := stBlack t2.downR.downR
  have t3 : St rbL (((w.setCell ⟨si, 2, none⟩ (.bool (cp == 1))).setCell ⟨p, 2, none⟩ (.bool true)).setCell ⟨q, 2, none⟩ (.bool true)) H x (.node p (.node i l k v b r) kp vp 1 (.node si sn ks vs cp (.node q ql kq vq 1 qr))) := u3.1.upR.upR
  have o3 : Only (allIds H (.lf p kp vp cp (.node si sn ks vs cs (.node q ql kq vq 0 qr)) :: x) (.node i l k v b r)) w (((w.setCell ⟨si, 2, none⟩ (.bool (cp == 1))).setCell ⟨p, 2, none⟩ (.bool true)).setCell ⟨q, 2, none⟩ (.bool true)) := by
    refine (Only.trans (S := allIds H (.lf p kp vp cp (.node si sn ks vs cs (.node q ql kq vq 0 qr)) :: x) (.node i l k v b r)) (u1.2.mono fun y _ hy => hm0 y ?_) (u2.2.mono fun y _ hy => hm0 y ?_)).trans (u3.2.mono fun y _ hy => hm0 y ?_)
    · simp only [allIds, Ctx.ids, Fr.ids, BT.ids, List.mem_cons, List.mem_append] at hy ⊢; grind
    · simp only [allIds, BT.ids, List.mem_cons, List.mem_append] at hy ⊢; exact hy
    · simp only [allIds, Ctx.ids, Fr.ids, BT.ids, List.mem_cons, List.mem_append] at hy ⊢; grind
  have i51 : (w.setCell ⟨si, 2, none⟩ (.bool (cp == 1))).cell? ⟨i, 5, none⟩ = some (.pointer (some ⟨p, 0, none⟩)) := (t1.downL.ht.1).cellP
  have pc1 : (w.setCell ⟨si, 2, none⟩ (.bool (cp == 1))).cell? ⟨p, 2, none⟩ = some (.bool (cp == 1)) := t1.ht.1.cellC
  have pf1 : (w.setCell ⟨si, 2, none⟩ (.bool (cp == 1))).frozen? ⟨p, 2, none⟩ = false := t1.ht.1.frozen 2
  have i52 : ((w.setCell ⟨si, 2, none⟩ (.bool (cp == 1))).setCell ⟨p, 2, none⟩ (.bool true)).cell? ⟨i, 5, none⟩ = some (.pointer (some ⟨p, 0, none⟩)) := (t2.downL.ht.1).cellP
  have p32 : ((w.setCell ⟨si, 2, none⟩ (.bool (cp == 1))).setCell ⟨p, 2, none⟩ (.bool true)).cell? ⟨p, 3, none⟩ = some (.pointer (some ⟨i, 0, none⟩)) := (Nd.cells_ t2.ht.1).2.2.1
  have s42 : ((w.setCell ⟨si, 2, none⟩ (.bool (cp == 1))).setCell ⟨p, 2, none⟩ (.bool true)).cell? ⟨si, 4, none⟩ = some (.pointer (some ⟨q, 0, none⟩)) := (Nd.cells_ t2.ht.2.2.1).2.2.2
  have qc2 : ((w.setCell ⟨si, 2, none⟩ (.bool (cp == 1))).setCell ⟨p, 2, none⟩ (.bool true)).cell? ⟨q, 2, none⟩ = some (.bool false) := (t2.downR.ht.2.2.1).cellC
  have qf2 : ((w.setCell ⟨si, 2, none⟩ (.bool (cp == 1))).setCell ⟨p, 2, none⟩ (.bool true)).frozen? ⟨q, 2, none⟩ = false := (t2.downR.ht.2.2.1).frozen 2
  have i53 : (((w.setCell ⟨si, 2, none⟩ (.bool (cp == 1))).setCell ⟨p, 2, none⟩ (.bool true)).setCell ⟨q, 2, none⟩ (.bool true)).cell? ⟨i, 5, none⟩ = some (.pointer (some ⟨p, 0, none⟩)) := (t3.downL.ht.1).cellP
  have qs2 := rbPtr_same
  have hn := t2.ndt
  simp only [BT.ids, List.nodup_cons, List.nodup_append, List.mem_append, List.mem_cons] at hn
  have qo := rbPtr_other ((w.setCell ⟨si, 2, none⟩ (.bool (cp == 1))).setCell ⟨p, 2, none⟩ (.bool true)) (i := i) (j := si) (by grind) t2.downL.ht.1 t2.ht.2.2.1
  have Cq := Lib.hid (nodeColor_node (t2.downR.ht.2.2.1))
  have Ro := Lib.hid (rotL_walk t3)
  have FN := Lib.hid (fun (w4 : World) (s4 : St rbL w4 H x (.node si (.node p (.node i l k v b r) kp vp 1 sn) ks vs cp (.node q ql kq vq 1 qr))) (o4 : Only (allIds H x (.node p (.node i l k v b r) kp vp 1 (.node si sn ks vs cp (.node q ql kq vq 1 qr)))) (((w.setCell ⟨si, 2, none⟩ (.bool (cp == 1))).setCell ⟨p, 2, none⟩ (.bool true)).setCell ⟨q, 2, none⟩ (.bool true)) w4) => show St rbL w4 H (.lf p kp vp 1 sn :: .lf si ks vs cp (.node q ql kq vq 1 qr) :: x) (.node i l k v b r) ∧ Only (allIds H (.lf p kp vp cp (.node si sn ks vs cs (.node q ql kq vq 0 qr)) :: x) (.node i l k v b r)) w w4 from
    ⟨s4.downL.downL, o3.trans (o4.mono fun y _ hy => hm0 y (by simp only [allIds, BT.ids, List.mem_cons, List.mem_append] at hy ⊢; exact hy))⟩)
  have Sib := Lib.hid sib
  clear sib np ns hm0 u1 t1 u2 t2 u3 t3 o3 hn s0
  generalize (cp == 1) = bc at *
  go_enter Tryz.func72, Tryz.ntmps72
  go_wp2_with fail
  refine Sib.out.mono ?_
  rintro e w1 ⟨rfl, rfl⟩
  go_wp2_with fail
  refine Cp.out.mono ?_
  rintro e w1 ⟨rfl, rfl⟩
  go_wp2_with fail
  refine Cq.out.mono ?_
  rintro e w1 ⟨rfl, rfl⟩
  go_wp2_with fail
  refine Ro.out.mono ?_
  rintro e w4 ⟨rfl, s4, o4⟩
  have F := Lib.hid (FN.out w4 s4 o4)
  clear s4 o4 Ro FN
  go_wp2_with fail
  go_end0
  exact ⟨rfl, F.out⟩
set_option maxRecDepth 100000 in
theorem deleteCase5L_far {w : World} {R : World → Prop} {tb i p si : Nat} {kp vp cp ks vs : Int} {sl sr : BT} (hv : View w i p si kp vp cp ks vs 1 sl sr) (p3 : w.cell? ⟨p, 3, none⟩ = some (.pointer (some ⟨i, 0, none⟩))) (p4 : w.cell? ⟨p, 4, none⟩ = some (.pointer (some ⟨si, 0, none⟩))) (qo : (binOp .eql 57 (.pointer (some ⟨i, 0, none⟩)) (.pointer (some ⟨si, 0, none⟩))).run Tryz.prog w = .ok (.bool false) w)
    (hf : col sr = 0) (hn : col sl = 0 ∨ col sl = 1)
    (h : Calls Tryz.prog 72 #[.pointer (some ⟨tb, 0, none⟩), .pointer (some ⟨i, 0, none⟩)] w (Ret R)) :
    Calls Tryz.prog 71 #[.pointer (some ⟨tb, 0, none⟩), .pointer (some ⟨i, 0, none⟩)] w (Ret R) := by
  obtain ⟨i5, sib, ⟨qp, lp, rp, np⟩, ⟨qs, ns⟩, tl, tr⟩ := hv
  have s3 := (Nd.cells_ ns).2.2.1
  have s4 := (Nd.cells_ ns).2.2.2
  have Cp := Lib.hid (nodeColor_node np)
  have Cs := Lib.hid (nodeColor_node ns)
  have cl := nodeColor_walk tl
  have cr := nodeColor_walk tr
  have qs2 := rbPtr_same
  have Sib := Lib.hid sib
  have Hc := Lib.hid h
  rw [hf] at cr
  clear sib h np ns tl tr Cp
  rcases hn with hn | hn
  · rw [hn] at cl
    have Cl := Lib.hid cl
    have Cr := Lib.hid cr
    clear cl cr hn hf
    generalize ptr sl.root = yl at *
    generalize ptr sr.root = yr at *
    go_enter Tryz.func71, Tryz.ntmps71
    go_wp2_with fail
    refine Sib.out.mono ?_
    rintro e w1 ⟨rfl, rfl⟩
    go_wp2_with fail
    refine Cs.out.mono ?_
    rintro e w1 ⟨rfl, rfl⟩
    go_wp2_with fail
    refine Cl.out.mono ?_
    rintro e w1 ⟨rfl, rfl⟩
    go_wp2_with fail
    refine Cr.out.mono ?_
    rintro e w1 ⟨rfl, rfl⟩
    go_wp2_with fail
    refine Hc.out.mono ?_
    rintro e w1 ⟨rfl, hr1⟩
    have F := Lib.hid hr1
    clear hr1 Hc
    go_wp2_with fail
    go_end0
    exact ⟨rfl, F.out⟩
  · rw [hn] at cl
    have Cl := Lib.hid cl
    clear cl cr hn hf
    generalize ptr sl.root = yl at *
    generalize ptr sr.root = yr at *
    go_enter Tryz.func71, Tryz.ntmps71
    go_wp2_with fail
    refine Sib.out.mono ?_
    rintro e w1 ⟨rfl, rfl⟩
    go_wp2_with fail
    refine Cs.out.mono ?_
    rintro e w1 ⟨rfl, rfl⟩
    go_wp2_with fail
    refine Cl.out.mono ?_
    rintro e w1 ⟨rfl, rfl⟩
    go_wp2_with fail
    refine Hc.out.mono ?_
    rintro e w1 ⟨rfl, hr1⟩
    have F := Lib.hid hr1
    clear hr1 Hc
    go_wp2_with fail
    go_end0
    exact ⟨rfl, F.out⟩
set_option maxHeartbeats 1000000 in
set_option maxRecDepth 100000 in
theorem deleteCase5L_near {w : World} {H : Hd} {x : Ctx} {i p si a : Nat} {l r an af sf : BT} {k v b kp vp cp ks vs ka va : Int} (s0 : St rbL w H (.lf p kp vp cp (.node si (.node a an ka va 0 af) ks vs 1 sf) :: x) (.node i l k v b r)) (hf : col sf = 1) :
    Calls Tryz.prog 71 #[.pointer (some ⟨H.tb, 0, none⟩), .pointer (some ⟨i, 0, none⟩)] w (Ret fun w' => St rbL w' H (.lf p kp vp 1 an :: .lf a ka va cp (.node si af ks vs 1 sf) :: x) (.node i l k v b r) ∧ Only (allIds H (.lf p kp vp cp (.node si (.node a an ka va 0 af) ks vs 1 sf) :: x) (.node i l k v b r)) w w') := by
  obtain ⟨i5, sib, _, ⟨qs, ns⟩, _, _⟩ := viewL s0
  have sc : w.cell? ⟨si, 2, none⟩ = some (.bool true) := ns.cellC
  have sff := ns.frozen 2
  have tp := s0.upL
  have p3 : w.cell? ⟨p, 3, none⟩ = some (.pointer (some ⟨i, 0, none⟩)) := (Nd.cells_ tp.ht.1).2.2.1
  have p4 : w.cell? ⟨p, 4, none⟩ = some (.pointer (some ⟨si, 0, none⟩)) := (Nd.cells_ tp.ht.1).2.2.2
  have sn3 : w.cell? ⟨si, 3, none⟩ = some (.pointer (some ⟨a, 0, none⟩)) := (Nd.cells_ ns).2.2.1
  have sf4 := (Nd.cells_ ns).2.2.2
  have hn := tp.ndt
  simp only [BT.ids, List.nodup_cons, List.nodup_append, List.mem_append, List.mem_cons] at hn
  have qo := rbPtr_other w (i := i) (j := si) (by grind) tp.downL.ht.1 tp.ht.2.2.1
  have qs2 := rbPtr_same
  have hm0 : ∀ y, y ∈ allIds H x (.node p (.node i l k v b r) kp vp cp (.node si (.node a an ka va 0 af) ks vs 1 sf)) → y ∈ allIds H (.lf p kp vp cp (.node si (.node a an ka va 0 af) ks vs 1 sf) :: x) (.node i l k v b r) := fun y hy => allIds_lf.2 hy
  have u1 := stRed tp.downR
  have u2 := stBlack u1.1.downL
  have t2 := u2.1.upL
  have o2 : Only (allIds H (.lf p kp vp cp (.node si (.node a an ka va 0 af) ks vs 1 sf) :: x) (.node i l k v b r)) w ((w.setCell ⟨si, 2, none⟩ (.bool false)).setCell ⟨a, 2, none⟩ (.bool true)) := by
    refine Only.trans (S := allIds H (.lf p kp vp cp (.node si (.node a an ka va 0 af) ks vs 1 sf) :: x) (.node i l k v b r)) (u1.2.mono fun y _ hy => hm0 y ?_) (u2.2.mono fun y _ hy => hm0 y ?_)
    · simp only [allIds, Ctx.ids, Fr.ids, BT.ids, List.mem_cons, List.mem_append] at hy ⊢; grind
    · simp only [allIds, Ctx.ids, Fr.ids, BT.ids, List.mem_cons, List.mem_append] at hy ⊢; grind
  have sn31 : (w.setCell ⟨si, 2, none⟩ (.bool false)).cell? ⟨si, 3, none⟩ = some (.pointer (some ⟨a, 0, none⟩)) := (Nd.cells_ u1.1.ht.1).2.2.1
  have ac1 : (w.setCell ⟨si, 2, none⟩ (.bool false)).cell? ⟨a, 2, none⟩ = some (.bool false) := u1.1.downL.ht.1.cellC
  have af1 : (w.setCell ⟨si, 2, none⟩ (.bool false)).frozen? ⟨a, 2, none⟩ = false := u1.1.downL.ht.1.frozen 2
  have Cs := Lib.hid (nodeColor_node ns)
  have Ca := Lib.hid (nodeColor_node (tp.downR.downL.ht.1))
  have cf := nodeColor_walk (tp.downR.ht.2.2)
  rw [hf] at cf
  have Cf := Lib.hid cf
  have Ro := Lib.hid (rotR_walk t2)
  have FN := Lib.hid (fun (w3 : World) (s3 : St rbL w3 H (.rf p (.node i l k v b r) kp vp cp :: x) (.node a an ka va 1 (.node si af ks vs 0 sf))) (o3 : Only (allIds H (.rf p (.node i l k v b r) kp vp cp :: x) (.node si (.node a an ka va 1 af) ks vs 0 sf)) ((w.setCell ⟨si, 2, none⟩ (.bool false)).setCell ⟨a, 2, none⟩ (.bool true)) w3) => show St rbL w3 H (.lf p kp vp cp (.node a an ka va 1 (.node si af ks vs 0 sf)) :: x) (.node i l k v b r) ∧ Only (allIds H (.lf p kp vp cp (.node si (.node a an ka va 0 af) ks vs 1 sf) :: x) (.node i l k v b r)) w w3 from
    ⟨s3.upR.downL, o2.trans (o3.mono fun y _ hy => hm0 y (by simp only [allIds, Ctx.ids, Fr.ids, BT.ids, List.mem_cons, List.mem_append] at hy ⊢; grind))⟩)
  have GN := Lib.hid (fun (w3 w4 : World) (o3 : Only (allIds H (.lf p kp vp cp (.node si (.node a an ka va 0 af) ks vs 1 sf) :: x) (.node i l k v b r)) w w3) (s4 : St rbL w4 H (.lf p kp vp 1 an :: .lf a ka va cp (.node si af ks vs 1 sf) :: x) (.node i l k v b r)) (o4 : Only (allIds H (.lf p kp vp cp (.node a an ka va 1 (.node si af ks vs 0 sf)) :: x) (.node i l k v b r)) w3 w4) => show St rbL w4 H (.lf p kp vp 1 an :: .lf a ka va cp (.node si af ks vs 1 sf) :: x) (.node i l k v b r) ∧ Only (allIds H (.lf p kp vp cp (.node si (.node a an ka va 0 af) ks vs 1 sf) :: x) (.node i l k v b r)) w w4 from
    ⟨s4, o3.trans (o4.mono fun y _ hy => by simp only [allIds, Ctx.ids, Fr.ids, BT.ids, List.mem_cons, List.mem_append] at hy ⊢; grind)⟩)
  have Sib := Lib.hid sib
  clear sib ns hm0 u1 u2 t2 o2 hn s0 cf hf tp
  generalize ptr sf.root = ys at *
  go_enter Tryz.func71, Tryz.ntmps71
  go_wp2_with fail
  refine Sib.out.mono ?_
  rintro e w1 ⟨rfl, rfl⟩
  go_wp2_with fail
  refine Cs.out.mono ?_
  rintro e w1 ⟨rfl, rfl⟩
  go_wp2_with fail
  refine Ca.out.mono ?_
  rintro e w1 ⟨rfl, rfl⟩
  go_wp2_with fail
  refine Cf.out.mono ?_
  rintro e w1 ⟨rfl, rfl⟩
  go_wp2_with fail
  refine Ro.out.mono ?_
  rintro e w3 ⟨rfl, s3, o3⟩
  obtain ⟨s3', o3'⟩ := FN.out w3 s3 o3
  have C6 := Lib.hid (deleteCase6L_walk s3')
  have O3 := Lib.hid o3'
  clear s3 o3 s3' o3' Ro FN
  go_wp2_with fail
  refine C6.out.mono ?_
  rintro e w4 ⟨rfl, s4, o4⟩
  have F := Lib.hid (GN.out w3 w4 O3.out s4 o4)
  clear s4 o4 C6 O3 GN
  go_wp2_with fail
  go_end0
  exact ⟨rfl, F.out⟩
set_option maxHeartbeats 1000000 in
set_option maxRecDepth 100000 in
theorem deleteCase2L_red {w : World} {R : World → Prop} {H : Hd} {x : Ctx} {i p si : Nat} {l r sn sf : BT} {k v b kp vp cp ks vs : Int} (s0 : St rbL w H (.lf p kp vp cp (.node si sn ks vs 0 sf) :: x) (.node i l k v b r))
    (h : ∀ w', St rbL w' H (.lf p kp vp 0 sn :: .lf si ks vs 1 sf :: x) (.node i l k v b r) → Only (allIds H (.lf p kp vp cp (.node si sn ks vs 0 sf) :: x) (.node i l k v b r)) w w' → Calls Tryz.prog 65 #[.pointer (some ⟨H.tb, 0, none⟩), .pointer (some ⟨i, 0, none⟩)] w' (Ret R)) :
    Calls Tryz.prog 60 #[.pointer (some ⟨H.tb, 0, none⟩), .pointer (some ⟨i, 0, none⟩)] w (Ret R) := by
  obtain ⟨i5, sib, ⟨qp, lp, rp, np⟩, ⟨qs, ns⟩, _, _⟩ := viewL s0
  have pc : w.cell? ⟨p, 2, none⟩ = some (.bool (cp == 1)) := np.cellC
  have pf := np.frozen 2
  have tp := s0.upL
  have hm0 : ∀ y, y ∈ allIds H x (.node p (.node i l k v b r) kp vp cp (.node si sn ks vs 0 sf)) → y ∈ allIds H (.lf p kp vp cp (.node si sn ks vs 0 sf) :: x) (.node i l k v b r) := fun y hy => allIds_lf.2 hy
  have u1 := stRed tp
  have u2 := stBlack u1.1.downR
  have t2 := u2.1.upR
  have o2 : Only (allIds H (.lf p kp vp cp (.node si sn ks vs 0 sf) :: x) (.node i l k v b r)) w ((w.setCell ⟨p, 2, none⟩ (.bool false)).setCell ⟨si, 2, none⟩ (.bool true)) := by
    refine Only.trans (S := allIds H (.lf p kp vp cp (.node si sn ks vs 0 sf) :: x) (.node i l k v b r)) (u1.2.mono fun y _ hy => hm0 y hy) (u2.2.mono fun y _ hy => hm0 y ?_)
    simp only [allIds, Ctx.ids, Fr.ids, BT.ids, List.mem_cons, List.mem_append] at hy ⊢; grind
  have sc1 : (w.setCell ⟨p, 2, none⟩ (.bool false)).cell? ⟨si, 2, none⟩ = some (.bool false) := u1.1.downR.ht.1.cellC
  have sf1 : (w.setCell ⟨p, 2, none⟩ (.bool false)).frozen? ⟨si, 2, none⟩ = false := u1.1.downR.ht.1.frozen 2
  have i52 : ((w.setCell ⟨p, 2, none⟩ (.bool false)).setCell ⟨si, 2, none⟩ (.bool true)).cell? ⟨i, 5, none⟩ = some (.pointer (some ⟨p, 0, none⟩)) := (t2.downL.ht.1).cellP
  have p32 : ((w.setCell ⟨p, 2, none⟩ (.bool false)).setCell ⟨si, 2, none⟩ (.bool true)).cell? ⟨p, 3, none⟩ = some (.pointer (some ⟨i, 0, none⟩)) := (Nd.cells_ t2.ht.1).2.2.1
  have qs2 := rbPtr_same
  have hn := t2.ndt
  simp only [BT.ids, List.nodup_cons, List.nodup_append, List.mem_append, List.mem_cons] at hn
  have qo := rbPtr_other ((w.setCell ⟨p, 2, none⟩ (.bool false)).setCell ⟨si, 2, none⟩ (.bool true)) (i := i) (j := si) (by grind) t2.downL.ht.1 t2.ht.2.2.1
  have Cs := Lib.hid (nodeColor_node ns)
  have Ro := Lib.hid (rotL_walk t2)
  have FN := Lib.hid (fun (w3 : World) (s3 : St rbL w3 H x (.node si (.node p (.node i l k v b r) kp vp 0 sn) ks vs 1 sf)) (o3 : Only (allIds H x (.node p (.node i l k v b r) kp vp 0 (.node si sn ks vs 1 sf))) ((w.setCell ⟨p, 2, none⟩ (.bool false)).setCell ⟨si, 2, none⟩ (.bool true)) w3) =>
    h w3 s3.downL.downL (o2.trans (o3.mono fun y _ hy => hm0 y (by simp only [allIds, BT.ids, List.mem_cons, List.mem_append] at hy ⊢; exact hy))))
  have Sib := Lib.hid sib
  clear sib np ns hm0 u1 u2 t2 o2 hn s0 tp h
  go_enter Tryz.func60, Tryz.ntmps60
  go_wp2_with fail
  refine Sib.out.mono ?_
  rintro e w1 ⟨rfl, rfl⟩
  go_wp2_with fail
  refine Cs.out.mono ?_
  rintro e w1 ⟨rfl, rfl⟩
  go_wp2_with fail
  refine Ro.out.mono ?_
  rintro e w3 ⟨rfl, s3, o3⟩
  have Hc := Lib.hid (FN.out w3 s3 o3)
  clear s3 o3 Ro FN
  go_wp2_with fail
  refine Hc.out.mono ?_
  rintro e w1 ⟨rfl, hr1⟩
  have F := Lib.hid hr1
  clear hr1 Hc
  go_wp2_with fail
  go_end0
  exact ⟨rfl, F.out⟩
set_option maxHeartbeats 1000000 in
set_option maxRecDepth 100000 in
theorem deleteCase6R_walk {w : World} {H : Hd} {x : Ctx} {i p si q : Nat} {l r sn ql qr : BT} {k v b kp vp cp ks vs cs kq vq : Int} (s0 : St rbL w H (.rf p (.node si (.node q ql kq vq 0 qr) ks vs cs sn) kp vp cp :: x) (.node i l k v b r)) :
    Calls Tryz.prog 72 #[.pointer (some ⟨H.tb, 0, none⟩), .pointer (some ⟨i, 0, none⟩)] w (Ret fun w' => St rbL w' H (.rf p sn kp vp 1 :: .rf si (.node q ql kq vq 1 qr) ks vs cp :: x) (.node i l k v b r) ∧ Only (allIds H (.rf p (.node si (.node q ql kq vq 0 qr) ks vs cs sn) kp vp cp :: x) (.node i l k v b r)) w w') := by
  obtain ⟨i5, sib, ⟨qp, lp, rp, np⟩, ⟨qs, ns⟩, _, _⟩ := viewR s0
  have sc : w.cell? ⟨si, 2, none⟩ = some (.bool (cs == 1)) := ns.cellC
  have sf := ns.frozen 2
  have Cp := Lib.hid (nodeColor_node np)
  have hm0 : ∀ y, y ∈ allIds H x (.node p (.node si (.node q ql kq vq 0 qr) ks vs cs sn) kp vp cp (.node i l k v b r)) → y ∈ allIds H (.rf p (.node si (.node q ql kq vq 0 qr) ks vs cs sn) kp vp cp :: x) (.node i l k v b r) := fun y hy => allIds_rf.2 hy
  have u1 := stCol s0.upR.downL cp
  have t1 : St rbL (w.setCell ⟨si, 2, none⟩ (.bool (cp == 1))) H x (.node p (.node si (.node q ql kq vq 0 qr) ks vs cp sn) kp vp cp (.node i l k v b r)) := u1.1.upL
  have u2 := stBlack t1
  have t2 : St rbL ((w.setCell ⟨si, 2, none⟩ (.bool (cp == 1))).setCell ⟨p, 2, none⟩ (.bool true)) H x (.node p (.node si (.node q ql kq vq 0 qr) ks vs cp sn) kp vp 1 (.node i l k v b r)) := u2.1
  have u3 := stBlack t2.downL.downL
  have t3 : St rbL (((w.setCell ⟨si, 2, none⟩ (.bool (cp == 1))).setCell ⟨p, 2, none⟩ (.bool true)).setCell ⟨q, 2, none⟩ (.bool true)) H x (.node p (.node si (.node q ql kq vq 1 qr) ks vs cp sn) kp vp 1 (.node i l k v b r)) := u3.1.upL.upL
  have o3 : Only (allIds H (.rf p (.node si (.node q ql kq vq 0 qr) ks vs cs sn) kp vp cp :: x) (.node i l k v b r)) w (((w.setCell ⟨si, 2, none⟩ (.bool (cp == 1))).setCell ⟨p, 2, none⟩ (.bool true)).setCell ⟨q, 2, none⟩ (.bool true)) := by
    refine (Only.trans (S := allIds H (.rf p (.node si (.node q ql kq vq 0 qr) ks vs cs sn) kp vp cp :: x) (.node i l k v b r)) (u1.2.mono fun y _ hy => hm0 y ?_) (u2.2.mono fun y _ hy => hm0 y ?_)).trans (u3.2.mono fun y _ hy => hm0 y ?_)
    · simp only [allIds, Ctx.ids, Fr.ids, BT.ids, List.mem_cons, List.mem_append] at hy ⊢; grind
    · simp only [allIds, BT.ids, List.mem_cons, List.mem_append] at hy ⊢; exact hy
    · simp only [allIds, Ctx.ids, Fr.ids, BT.ids, List.mem_cons, List.mem_append] at hy ⊢; grind
  have i51 : (w.setCell ⟨si, 2, none⟩ (.bool (cp == 1))).cell? ⟨i, 5, none⟩ = some (.pointer (some ⟨p, 0, none⟩)) := (t1.downR.ht.1).cellP
  have pc1 : (w.setCell ⟨si, 2, none⟩ (.bool (cp == 1))).cell? ⟨p, 2, none⟩ = some (.bool (cp == 1)) := t1.ht.1.cellC
  have pf1 : (w.setCell ⟨si, 2, none⟩ (.bool (cp == 1))).frozen? ⟨p, 2, none⟩ = false := t1.ht.1.frozen 2
  have i52 : ((w.setCell ⟨si, 2, none⟩ (.bool (cp == 1))).setCell ⟨p, 2, none⟩ (.bool true)).cell? ⟨i, 5, none⟩ = some (.pointer (some ⟨p, 0, none⟩)) := (t2.downR.ht.1).cellP
  have p32 : ((w.setCell ⟨si, 2, none⟩ (.bool (cp == 1))).setCell ⟨p, 2, none⟩ (.bool true)).cell? ⟨p, 3, none⟩ = some (.pointer (some ⟨si, 0, none⟩)) := (Nd.cells_ t2.ht.1).2.2.1
  have s42 : ((w.setCell ⟨si, 2, none⟩ (.bool (cp == 1))).setCell ⟨p, 2, none⟩ (.bool true)).cell? ⟨si, 3, none⟩ = some (.pointer (some ⟨q, 0, none⟩)) := (Nd.cells_ t2.ht.2.1.1).2.2.1
  have qc2 : ((w.setCell ⟨si, 2, none⟩ (.bool (cp == 1))).setCell ⟨p, 2, none⟩ (.bool true)).cell? ⟨q, 2, none⟩ = some (.bool false) := (t2.downL.ht.2.1.1).cellC
  have qf2 : ((w.setCell ⟨si, 2, none⟩ (.bool (cp == 1))).setCell ⟨p, 2, none⟩ (.bool true)).frozen? ⟨q, 2, none⟩ = false := (t2.downL.ht.2.1.1).frozen 2
  have i53 : (((w.setCell ⟨si, 2, none⟩ (.bool (cp == 1))).setCell ⟨p, 2, none⟩ (.bool true)).setCell ⟨q, 2, none⟩ (.bool true)).cell? ⟨i, 5, none⟩ = some (.pointer (some ⟨p, 0, none⟩)) := (t3.downR.ht.1).cellP
  have qs2 := rbPtr_same
  have hn := t2.ndt
  simp only [BT.ids, List.nodup_cons, List.nodup_append, List.mem_append, List.mem_cons] at hn
  have qo := rbPtr_other ((w.setCell ⟨si, 2, none⟩ (.bool (cp == 1))).setCell ⟨p, 2, none⟩ (.bool true)) (i := i) (j := si) (by grind) t2.downR.ht.1 t2.ht.2.1.1
  have Cq := Lib.hid (nodeColor_node (t2.downL.ht.2.1.1))
  have Ro := Lib.hid (rotR_walk t3)
  have FN := Lib.hid (fun (w4 : World) (s4 : St rbL w4 H x (.node si (.node q ql kq vq 1 qr) ks vs cp (.node p sn kp vp 1 (.node i l k v b r)))) (o4 : Only (allIds H x (.node p (.node si (.node q ql kq vq 1 qr) ks vs cp sn) kp vp 1 (.node i l k v b r))) (((w.setCell ⟨si, 2, none⟩ (.bool (cp == 1))).setCell ⟨p, 2, none⟩ (.bool true)).setCell ⟨q, 2, none⟩ (.bool true)) w4) => show St rbL w4 H (.rf p sn kp vp 1 :: .rf si (.node q ql kq vq 1 qr) ks vs cp :: x) (.node i l k v b r) ∧ Only (allIds H (.rf p (.node si (.node q ql kq vq 0 qr) ks vs cs sn) kp vp cp :: x) (.node i l k v b r)) w w4 from
    ⟨s4.downR.downR, o3.trans (o4.mono fun y _ hy => hm0 y (by simp only [allIds, BT.ids, List.mem_cons, List.mem_append] at hy ⊢; exact hy))⟩)
  have Sib := Lib.hid sib
  clear sib np ns hm0 u1 t1 u2 t2 u3 t3 o3 hn s0
  generalize (cp == 1) = bc at *
  go_enter Tryz.func72, Tryz.ntmps72
  go_wp2_with fail
  refine Sib.out.mono ?_
  rintro e w1 ⟨rfl, rfl⟩
  go_wp2_with fail
  refine Cp.out.mono ?_
  rintro e w1 ⟨rfl, rfl⟩
  go_wp2_with fail
  refine Cq.out.mono ?_
  rintro e w1 ⟨rfl, rfl⟩
  go_wp2_with fail
  refine Ro.out.mono ?_
  rintro e w4 ⟨rfl, s4, o4⟩
  have F := Lib.hid (FN.out w4 s4 o4)
  clear s4 o4 Ro FN
  go_wp2_with fail
  go_end0
  exact ⟨rfl, F.out⟩
set_option maxRecDepth 100000 in
theorem deleteCase5R_far {w : World} {R : World → Prop} {tb i p si : Nat} {kp vp cp ks vs : Int} {sl sr : BT} (hv : View w i p si kp vp cp ks vs 1 sl sr) (p3 : w.cell? ⟨p, 3, none⟩ = some (.pointer (some ⟨si, 0, none⟩))) (p4 : w.cell? ⟨p, 4, none⟩ = some (.pointer (some ⟨i, 0, none⟩))) (qo : (binOp .eql 57 (.pointer (some ⟨i, 0, none⟩)) (.pointer (some ⟨si, 0, none⟩))).run Tryz.prog w = .ok (.bool false) w)
    (hf : col sl = 0) (hn : col sr = 0 ∨ col sr = 1)
    (h : Calls Tryz.prog 72 #[.pointer (some ⟨tb, 0, none⟩), .pointer (some ⟨i, 0, none⟩)] w (Ret R)) :
    Calls Tryz.prog 71 #[.pointer (some ⟨tb, 0, none⟩), .pointer (some ⟨i, 0, none⟩)] w (Ret R) := by
  obtain ⟨i5, sib, ⟨qp, lp, rp, np⟩, ⟨qs, ns⟩, tl, tr⟩ := hv
  have s3 := (Nd.cells_ ns).2.2.1
  have s4 := (Nd.cells_ ns).2.2.2
  have Cp := Lib.hid (nodeColor_node np)
  have Cs := Lib.hid (nodeColor_node ns)
  have cl := nodeColor_walk tl
  have cr := nodeColor_walk tr
  have qs2 := rbPtr_same
  have Sib := Lib.hid sib
  have Hc := Lib.hid h
  rw [hf] at cl
  clear sib h np ns tl tr Cp
  rcases hn with hn | hn
  · rw [hn] at cr
    have Cl := Lib.hid cl
    have Cr := Lib.hid cr
    clear cl cr hn hf
    generalize ptr sl.root = yl at *
    generalize ptr sr.root = yr at *
    go_enter Tryz.func71, Tryz.ntmps71
    go_wp2_with fail
    refine Sib.out.mono ?_
    rintro e w1 ⟨rfl, rfl⟩
    go_wp2_with fail
    refine Cs.out.mono ?_
    rintro e w1 ⟨rfl, rfl⟩
    go_wp2_with fail
    refine Cr.out.mono ?_
    rintro e w1 ⟨rfl, rfl⟩
    go_wp2_with fail
    refine Cl.out.mono ?_
    rintro e w1 ⟨rfl, rfl⟩
    go_wp2_with fail
    refine Hc.out.mono ?_
    rintro e w1 ⟨rfl, hr1⟩
    have F := Lib.hid hr1
    clear hr1 Hc
    go_wp2_with fail
    go_end0
    exact ⟨rfl, F.out⟩
  · rw [hn] at cr
    have Cr := Lib.hid cr
    clear cl cr hn hf
    generalize ptr sl.root = yl at *
    generalize ptr sr.root = yr at *
    go_enter Tryz.func71, Tryz.ntmps71
    go_wp2_with fail
    refine Sib.out.mono ?_
    rintro e w1 ⟨rfl, rfl⟩
    go_wp2_with fail
    refine Cs.out.mono ?_
    rintro e w1 ⟨rfl, rfl⟩
    go_wp2_with fail
    refine Cr.out.mono ?_
    rintro e w1 ⟨rfl, rfl⟩
    go_wp2_with fail
    refine Hc.out.mono ?_
    rintro e w1 ⟨rfl, hr1⟩
    have F := Lib.hid hr1
    clear hr1 Hc
    go_wp2_with fail
    go_end0
    exact ⟨rfl, F.out⟩
set_option maxHeartbeats 1000000 in
set_option maxRecDepth 100000 in
theorem deleteCase5R_near {w : World} {H : Hd} {x : Ctx} {i p si a : Nat} {l r an af sf : BT} {k v b kp vp cp ks vs ka va : Int} (s0 : St rbL w H (.rf p (.node si sf ks vs 1 (.node a af ka va 0 an)) kp vp cp :: x) (.node i l k v b r)) (hf : col sf = 1) :
    Calls Tryz.prog 71 #[.pointer (some ⟨H.tb, 0, none⟩), .pointer (some ⟨i, 0, none⟩)] w (Ret fun w' => St rbL w' H (.rf p an kp vp 1 :: .rf a (.node si sf ks vs 1 af) ka va cp :: x) (.node i l k v b r) ∧ Only (allIds H (.rf p (.node si sf ks vs 1 (.node a af ka va 0 an)) kp vp cp :: x) (.node i l k v b r)) w w') := by
  obtain ⟨i5, sib, _, ⟨qs, ns⟩, _, _⟩ := viewR s0
  have sc : w.cell? ⟨si, 2, none⟩ = some (.bool true) := ns.cellC
  have sff := ns.frozen 2
  have tp := s0.upR
  have p3 : w.cell? ⟨p, 3, none⟩ = some (.pointer (some ⟨si, 0, none⟩)) := (Nd.cells_ tp.ht.1).2.2.1
  have p4 : w.cell? ⟨p, 4, none⟩ = some (.pointer (some ⟨i, 0, none⟩)) := (Nd.cells_ tp.ht.1).2.2.2
  have sn3 : w.cell? ⟨si, 4, none⟩ = some (.pointer (some ⟨a, 0, none⟩)) := (Nd.cells_ ns).2.2.2
  have sf4 := (Nd.cells_ ns).2.2.1
  have hn := tp.ndt
  simp only [BT.ids, List.nodup_cons, List.nodup_append, List.mem_append, List.mem_cons] at hn
  have qo := rbPtr_other w (i := i) (j := si) (by grind) tp.downR.ht.1 tp.ht.2.1.1
  have qs2 := rbPtr_same
  have hm0 : ∀ y, y ∈ allIds H x (.node p (.node si sf ks vs 1 (.node a af ka va 0 an)) kp vp cp (.node i l k v b r)) → y ∈ allIds H (.rf p (.node si sf ks vs 1 (.node a af ka va 0 an)) kp vp cp :: x) (.node i l k v b r) := fun y hy => allIds_rf.2 hy
  have u1 := stRed tp.downL
  have u2 := stBlack u1.1.downR
  have t2 := u2.1.upR
  have o2 : Only (allIds H (.rf p (.node si sf ks vs 1 (.node a af ka va 0 an)) kp vp cp :: x) (.node i l k v b r)) w ((w.setCell ⟨si, 2, none⟩ (.bool false)).setCell ⟨a, 2, none⟩ (.bool true)) := by
    refine Only.trans (S := allIds H (.rf p (.node si sf ks vs 1 (.node a af ka va 0 an)) kp vp cp :: x) (.node i l k v b r)) (u1.2.mono fun y _ hy => hm0 y ?_) (u2.2.mono fun y _ hy => hm0 y ?_)
    · simp only [allIds, Ctx.ids, Fr.ids, BT.ids, List.mem_cons, List.mem_append] at hy ⊢; grind
    · simp only [allIds, Ctx.ids, Fr.ids, BT.ids, List.mem_cons, List.mem_append] at hy ⊢; grind
  have sn31 : (w.setCell ⟨si, 2, none⟩ (.bool false)).cell? ⟨si, 4, none⟩ = some (.pointer (some ⟨a, 0, none⟩)) := (Nd.cells_ u1.1.ht.1).2.2.2
  have ac1 : (w.setCell ⟨si, 2, none⟩ (.bool false)).cell? ⟨a, 2, none⟩ = some (.bool false) := u1.1.downR.ht.1.cellC
  have af1 : (w.setCell ⟨si, 2, none⟩ (.bool false)).frozen? ⟨a, 2, none⟩ = false := u1.1.downR.ht.1.frozen 2
  have Cs := Lib.hid (nodeColor_node ns)
  have Ca := Lib.hid (nodeColor_node (tp.downL.downR.ht.1))
  have cf := nodeColor_walk (tp.downL.ht.2.1)
  rw [hf] at cf
  have Cf := Lib.hid cf
  have Ro := Lib.hid (rotL_walk t2)
  have FN := Lib.hid (fun (w3 : World) (s3 : St rbL w3 H (.lf p kp vp cp (.node i l k v b r) :: x) (.node a (.node si sf ks vs 0 af) ka va 1 an)) (o3 : Only (allIds H (.lf p kp vp cp (.node i l k v b r) :: x) (.node si sf ks vs 0 (.node a af ka va 1 an))) ((w.setCell ⟨si, 2, none⟩ (.bool false)).setCell ⟨a, 2, none⟩ (.bool true)) w3) => show St rbL w3 H (.rf p (.node a (.node si sf ks vs 0 af) ka va 1 an) kp vp cp :: x) (.node i l k v b r) ∧ Only (allIds H (.rf p (.node si sf ks vs 1 (.node a af ka va 0 an)) kp vp cp :: x) (.node i l k v b r)) w w3 from
    ⟨s3.upL.downR, o2.trans (o3.mono fun y _ hy => hm0 y (by simp only [allIds, Ctx.ids, Fr.ids, BT.ids, List.mem_cons, List.mem_append] at hy ⊢; grind))⟩)
  have GN := Lib.hid (fun (w3 w4 : World) (o3 : Only (allIds H (.rf p (.node si sf ks vs 1 (.node a af ka va 0 an)) kp vp cp :: x) (.node i l k v b r)) w w3) (s4 : St rbL w4 H (.rf p an kp vp 1 :: .rf a (.node si sf ks vs 1 af) ka va cp :: x) (.node i l k v b r)) (o4 : Only (allIds H (.rf p (.node a (.node si sf ks vs 0 af) ka va 1 an) kp vp cp :: x) (.node i l k v b r)) w3 w4) => show St rbL w4 H (.rf p an kp vp 1 :: .rf a (.node si sf ks vs 1 af) ka va cp :: x) (.node i l k v b r) ∧ Only (allIds H (.rf p (.node si sf ks vs 1 (.node a af ka va 0 an)) kp vp cp :: x) (.node i l k v b r)) w w4 from
    ⟨s4, o3.trans (o4.mono fun y _ hy => by simp only [allIds, Ctx.ids, Fr.ids, BT.ids, List.mem_cons, List.mem_append] at hy ⊢; grind)⟩)
  have Sib := Lib.hid sib
  clear sib ns hm0 u1 u2 t2 o2 hn s0 cf hf tp
  generalize ptr sf.root = ys at *
  go_enter Tryz.func71, Tryz.ntmps71
  go_wp2_with fail
  refine Sib.out.mono ?_
  rintro e w1 ⟨rfl, rfl⟩
  go_wp2_with fail
  refine Cs.out.mono ?_
  rintro e w1 ⟨rfl, rfl⟩
  go_wp2_with fail
  refine Ca.out.mono ?_
  rintro e w1 ⟨rfl, rfl⟩
  go_wp2_with fail
  refine Cf.out.mono ?_
  rintro e w1 ⟨rfl, rfl⟩
  go_wp2_with fail
  refine Ro.out.mono ?_
  rintro e w3 ⟨rfl, s3, o3⟩
  obtain ⟨s3', o3'⟩ := FN.out w3 s3 o3
  have C6 := Lib.hid (deleteCase6R_walk s3')
  have O3 := Lib.hid o3'
  clear s3 o3 s3' o3' Ro FN
  go_wp2_with fail
  refine C6.out.mono ?_
  rintro e w4 ⟨rfl, s4, o4⟩
  have F := Lib.hid (GN.out w3 w4 O3.out s4 o4)
  clear s4 o4 C6 O3 GN
  go_wp2_with fail
  go_end0
  exact ⟨rfl, F.out⟩
set_option maxHeartbeats 1000000 in
set_option maxRecDepth 100000 in
theorem deleteCase2R_red {w : World} {R : World → Prop} {H : Hd} {x : Ctx} {i p si : Nat} {l r sn sf : BT} {k v b kp vp cp ks vs : Int} (s0 : St rbL w H (.rf p (.node si sf ks vs 0 sn) kp vp cp :: x) (.node i l k v b r))
    (h : ∀ w', St rbL w' H (.rf p sn kp vp 0 :: .rf si sf ks vs 1 :: x) (.node i l k v b r) → Only (allIds H (.rf p (.node si sf ks vs 0 sn) kp vp cp :: x) (.node i l k v b r)) w w' → Calls Tryz.prog 65 #[.pointer (some ⟨H.tb, 0, none⟩), .pointer (some ⟨i, 0, none⟩)] w' (Ret R)) :
    Calls Tryz.prog 60 #[.pointer (some ⟨H.tb, 0, none⟩), .pointer (some ⟨i, 0, none⟩)] w (Ret R) := by
  obtain ⟨i5, sib, ⟨qp, lp, rp, np⟩, ⟨qs, ns⟩, _, _⟩ := viewR s0
  have pc : w.cell? ⟨p, 2, none⟩ = some (.bool (cp == 1)) := np.cellC
  have pf := np.frozen 2
  have tp := s0.upR
  have hm0 : ∀ y, y ∈ allIds H x (.node p (.node si sf ks vs 0 sn) kp vp cp (.node i l k v b r)) → y ∈ allIds H (.rf p (.node si sf ks vs 0 sn) kp vp cp :: x) (.node i l k v b r) := fun y hy => allIds_rf.2 hy
  have u1 := stRed tp
  have u2 := stBlack u1.1.downL
  have t2 := u2.1.upL
  have o2 : Only (allIds H (.rf p (.node si sf ks vs 0 sn) kp vp cp :: x) (.node i l k v b r)) w ((w.setCell ⟨p, 2, none⟩ (.bool false)).setCell ⟨si, 2, none⟩ (.bool true)) := by
    refine Only.trans (S := allIds H (.rf p (.node si sf ks vs 0 sn) kp vp cp :: x) (.node i l k v b r)) (u1.2.mono fun y _ hy => hm0 y hy) (u2.2.mono fun y _ hy => hm0 y ?_)
    simp only [allIds, Ctx.ids, Fr.ids, BT.ids, List.mem_cons, List.mem_append] at hy ⊢; grind
  have sc1 : (w.setCell ⟨p, 2, none⟩ (.bool false)).cell? ⟨si, 2, none⟩ = some (.bool false) := u1.1.downL.ht.1.cellC
  have sf1 : (w.setCell ⟨p, 2, none⟩ (.bool false)).frozen? ⟨si, 2, none⟩ = false := u1.1.downL.ht.1.frozen 2
  have i52 : ((w.setCell ⟨p, 2, none⟩ (.bool false)).setCell ⟨si, 2, none⟩ (.bool true)).cell? ⟨i, 5, none⟩ = some (.pointer (some ⟨p, 0, none⟩)) := (t2.downR.ht.1).cellP
  have p32 : ((w.setCell ⟨p, 2, none⟩ (.bool false)).setCell ⟨si, 2, none⟩ (.bool true)).cell? ⟨p, 3, none⟩ = some (.pointer (some ⟨si, 0, none⟩)) := (Nd.cells_ t2.ht.1).2.2.1
  have qs2 := rbPtr_same
  have hn := t2.ndt
  simp only [BT.ids, List.nodup_cons, List.nodup_append, List.mem_append, List.mem_cons] at hn
  have qo := rbPtr_other ((w.setCell ⟨p, 2, none⟩ (.bool false)).setCell ⟨si, 2, none⟩ (.bool true)) (i := i) (j := si) (by grind) t2.downR.ht.1 t2.ht.2.1.1
  have Cs := Lib.hid (nodeColor_node ns)
  have Ro := Lib.hid (rotR_walk t2)
  have FN := Lib.hid (fun (w3 : World) (s3 : St rbL w3 H x (.node si sf ks vs 1 (.node p sn kp vp 0 (.node i l k v b r)))) (o3 : Only (allIds H x (.node p (.node si sf ks vs 1 sn) kp vp 0 (.node i l k v b r))) ((w.setCell ⟨p, 2, none⟩ (.bool false)).setCell ⟨si, 2, none⟩ (.bool true)) w3) =>
    h w3 s3.downR.downR (o2.trans (o3.mono fun y _ hy => hm0 y (by simp only [allIds, BT.ids, List.mem_cons, List.mem_append] at hy ⊢; exact hy))))
  have Sib := Lib.hid sib
  clear sib np ns hm0 u1 u2 t2 o2 hn s0 tp h
  go_enter Tryz.func60, Tryz.ntmps60
  go_wp2_with fail
  refine Sib.out.mono ?_
  rintro e w1 ⟨rfl, rfl⟩
  go_wp2_with fail
  refine Cs.out.mono ?_
  rintro e w1 ⟨rfl, rfl⟩
  go_wp2_with fail
  refine Ro.out.mono ?_
  rintro e w3 ⟨rfl, s3, o3⟩
  have Hc := Lib.hid (FN.out w3 s3 o3)
  clear s3 o3 Ro FN
  go_wp2_with fail
  refine Hc.out.mono ?_
  rintro e w1 ⟨rfl, hr1⟩
  have F := Lib.hid hr1
  clear hr1 Hc
  go_wp2_with fail
  go_end0
  exact ⟨rfl, F.out⟩
set_option maxRecDepth 100000 in
theorem deleteCase2_black {w : World} {R : World → Prop} {tb i p si : Nat} {kp vp cp ks vs : Int} {sl sr : BT} (hv : View w i p si kp vp cp ks vs 1 sl sr)
    (h : Calls Tryz.prog 65 #[.pointer (some ⟨tb, 0, none⟩), .pointer (some ⟨i, 0, none⟩)] w (Ret R)) :
    Calls Tryz.prog 60 #[.pointer (some ⟨tb, 0, none⟩), .pointer (some ⟨i, 0, none⟩)] w (Ret R) := by
  have Sib := Lib.hid hv.sib
  obtain ⟨q, ns⟩ := hv.ns
  have Cs := Lib.hid (nodeColor_node ns)
  have Hc := Lib.hid h
  clear hv ns h
  go_enter Tryz.func60, Tryz.ntmps60
  go_wp2_with fail
  refine Sib.out.mono ?_
  rintro e w1 ⟨rfl, rfl⟩
  go_wp2_with fail
  refine Cs.out.mono ?_
  rintro e w1 ⟨rfl, rfl⟩
  go_wp2_with fail
  refine Hc.out.mono ?_
  rintro e w1 ⟨rfl, hr1⟩
  have F := Lib.hid hr1
  clear hr1 Hc
  go_wp2_with fail
  go_end0
  exact ⟨rfl, F.out⟩
theorem deleteCase1_nil {w : World} {R : World → Prop} {tb i : Nat} (i5 : w.cell? ⟨i, 5, none⟩ = some (.pointer none)) (h : R w) :
    Calls Tryz.prog 55 #[.pointer (some ⟨tb, 0, none⟩), .pointer (some ⟨i, 0, none⟩)] w (Ret R) := by
  have F := Lib.hid h
  clear h
  go_enter Tryz.func55, Tryz.ntmps55
  go_wp2_with fail
  go_end0
  exact ⟨rfl, F.out⟩
theorem deleteCase1_up {w : World} {R : World → Prop} {tb i p : Nat} (i5 : w.cell? ⟨i, 5, none⟩ = some (.pointer (some ⟨p, 0, none⟩)))
    (h : Calls Tryz.prog 60 #[.pointer (some ⟨tb, 0, none⟩), .pointer (some ⟨i, 0, none⟩)] w (Ret R)) :
    Calls Tryz.prog 55 #[.pointer (some ⟨tb, 0, none⟩), .pointer (some ⟨i, 0, none⟩)] w (Ret R) := by
  have Hc := Lib.hid h
  clear h
  go_enter Tryz.func55, Tryz.ntmps55
  go_wp2_with fail
  refine Hc.out.mono ?_
  rintro e w1 ⟨rfl, hr1⟩
  have F := Lib.hid hr1
  clear hr1 Hc
  go_wp2_with fail
  go_end0
  exact ⟨rfl, F.out⟩
end Go.Proofs.YtbdcepkahdecjaaGreat.Rb

namespace Go.Proofs.YtbdcepkahdecjaaGreat.Rb
open Go.RowKit Go.Proofs.YtbdcepkahdecjaaGreat
theorem delL_black {p si : Nat} {kp vp cp ks vs cs : Int} {sl sr : BT} {x : Ctx} (h1 : col sl = 1) (h2 : col sr = 1) : delL p kp vp cp (.node si sl ks vs cs sr) x = .lf p kp vp 1 (.node si sl ks vs 0 sr) :: x := by
  simp only [delL]
  rw [if_neg (by omega)]
  cases sl with
  | nil => rfl
  | node a al ka va ca ar => simp only [col] at h1; subst h1; rfl
theorem delR_black {p si : Nat} {kp vp cp ks vs cs : Int} {sl sr : BT} {x : Ctx} (h1 : col sl = 1) (h2 : col sr = 1) : delR p kp vp cp (.node si sl ks vs cs sr) x = .rf p (.node si sl ks vs 0 sr) kp vp 1 :: x := by
  simp only [delR]
  rw [if_neg (by omega)]
  cases sr with
  | nil => rfl
  | node a al ka va ca ar => simp only [col] at h2; subst h2; rfl
theorem col_node {t : BT} (h : col t = 0) : ∃ q ql kq vq qr, t = .node q ql kq vq 0 qr := by
  cases t with
  | nil => simp [col] at h
  | node q ql kq vq c qr => simp only [col] at h; subst h; exact ⟨q, ql, kq, vq, qr, rfl⟩
theorem ret_mono {P : Program} {f : FuncId} {args : Array Value} {w : World} {R R' : World → Prop} (h : Calls P f args w (Ret R)) (hr : ∀ w', R w' → R' w') : Calls P f args w (Ret R') := h.mono fun _ _ ⟨h1, h2⟩ => ⟨h1, hr _ h2⟩
theorem del4L_walk {w : World} {H : Hd} {x : Ctx} {i p si : Nat} {l r sl sr : BT} {k v b kp vp cp ks vs : Int} (s0 : St rbL w H (.lf p kp vp cp (.node si sl ks vs 1 sr) :: x) (.node i l k v b r)) (hcp : cp = 0 ∨ cp = 1) (hl : col sl = 0 ∨ col sl = 1) (hr : col sr = 0 ∨ col sr = 1) (hc : ¬ (cp = 1 ∧ col sl = 1 ∧ col sr = 1)) :
    Calls Tryz.prog 69 #[.pointer (some ⟨H.tb, 0, none⟩), .pointer (some ⟨i, 0, none⟩)] w (Ret fun w' => St rbL w' H (delL p kp vp cp (.node si sl ks vs 1 sr) x) (.node i l k v b r) ∧ Only (allIds H (.lf p kp vp cp (.node si sl ks vs 1 sr) :: x) (.node i l k v b r)) w w') := by
  have hv := viewL s0
  have tp := s0.upL
  have hn := tp.ndt
  simp only [BT.ids, List.nodup_cons, List.nodup_append, List.mem_append, List.mem_cons] at hn
  have hsi : ¬ si = i := by grind
  have hsp : ¬ si = p := by grind
  by_cases hb : col sl = 1 ∧ col sr = 1
  · obtain ⟨h1, h2⟩ := hb
    have h0 : cp = 0 := by omega
    subst h0
    refine deleteCase4_all hv h1 h2 hsi hsp ?_
    rw [delL_black h1 h2]
    have u1 := stRed tp.downR
    have u2 := stBlack u1.1.upR
    refine ⟨u2.1.downL, Only.trans (S := allIds H (.lf p kp vp 0 (.node si sl ks vs 1 sr) :: x) (.node i l k v b r)) (u1.2.mono fun y _ hy => ?_) (u2.2.mono fun y _ hy => ?_)⟩
    · simp only [allIds, Ctx.ids, Fr.ids, BT.ids, List.mem_cons, List.mem_append] at hy ⊢; grind
    · simp only [allIds, Ctx.ids, Fr.ids, BT.ids, List.mem_cons, List.mem_append] at hy ⊢; grind
  · refine deleteCase4_next hv (by omega) ?_
    by_cases hf : col sr = 0
    · have cf := Nd.cells_ tp.ht.1
      refine deleteCase5L_far hv cf.2.2.1 cf.2.2.2 (rbPtr_other w (fun e => hsi e.symm) tp.downL.ht.1 tp.downR.ht.1) hf hl ?_
      obtain ⟨q, ql, kq, vq, qr, rfl⟩ := col_node hf
      have e : delL p kp vp cp (.node si sl ks vs 1 (.node q ql kq vq 0 qr)) x = .lf p kp vp 1 sl :: .lf si ks vs cp (.node q ql kq vq 1 qr) :: x := rfl
      rw [e]
      exact deleteCase6L_walk s0
    · have hf1 : col sr = 1 := hr.resolve_left hf
      have hn0 : col sl = 0 := by omega
      obtain ⟨a, al, ka, va, ar, rfl⟩ := col_node hn0
      have e : delL p kp vp cp (.node si (.node a al ka va 0 ar) ks vs 1 sr) x = .lf p kp vp 1 al :: .lf a ka va cp (.node si ar ks vs 1 sr) :: x := by
        simp only [delL]
        rw [if_neg hf]
        rfl
      rw [e]
      exact deleteCase5L_near s0 hf1
theorem del3L_walk {w : World} {H : Hd} {x : Ctx} {i p si : Nat} {l r sl sr : BT} {k v b kp vp cp ks vs : Int} (s0 : St rbL w H (.lf p kp vp cp (.node si sl ks vs 1 sr) :: x) (.node i l k v b r)) (hcp : cp = 0 ∨ cp = 1) (hl : col sl = 0 ∨ col sl = 1) (hr : col sr = 0 ∨ col sr = 1) (hc : ¬ (cp = 1 ∧ col sl = 1 ∧ col sr = 1)) :
    Calls Tryz.prog 65 #[.pointer (some ⟨H.tb, 0, none⟩), .pointer (some ⟨i, 0, none⟩)] w (Ret fun w' => St rbL w' H (delL p kp vp cp (.node si sl ks vs 1 sr) x) (.node i l k v b r) ∧ Only (allIds H (.lf p kp vp cp (.node si sl ks vs 1 sr) :: x) (.node i l k v b r)) w w') :=
  deleteCase3_next (viewL s0) (by omega) (del4L_walk s0 hcp hl hr hc)
theorem del4R_walk {w : World} {H : Hd} {x : Ctx} {i p si : Nat} {l r sl sr : BT} {k v b kp vp cp ks vs : Int} (s0 : St rbL w H (.rf p (.node si sl ks vs 1 sr) kp vp cp :: x) (.node i l k v b r)) (hcp : cp = 0 ∨ cp = 1) (hl : col sl = 0 ∨ col sl = 1) (hr : col sr = 0 ∨ col sr = 1) (hc : ¬ (cp = 1 ∧ col sl = 1 ∧ col sr = 1)) :
    Calls Tryz.prog 69 #[.pointer (some ⟨H.tb, 0, none⟩), .pointer (some ⟨i, 0, none⟩)] w (Ret fun w' => St rbL w' H (delR p kp vp cp (.node si sl ks vs 1 sr) x) (.node i l k v b r) ∧ Only (allIds H (.rf p (.node si sl ks vs 1 sr) kp vp cp :: x) (.node i l k v b r)) w w') := by
  have hv := viewR s0
  have tp := s0.upR
  have hn := tp.ndt
  simp only [BT.ids, List.nodup_cons, List.nodup_append, List.mem_append, List.mem_cons] at hn
  have hsi : ¬ si = i := by grind
  have hsp : ¬ si = p := by grind
  by_cases hb : col sl = 1 ∧ col sr = 1
  · obtain ⟨h1, h2⟩ := hb
    have h0 : cp = 0 := by omega
    subst h0
    refine deleteCase4_all hv h1 h2 hsi hsp ?_
    rw [delR_black h1 h2]
    have u1 := stRed tp.downL
    have u2 := stBlack u1.1.upL
    refine ⟨u2.1.downR, Only.trans (S := allIds H (.rf p (.node si sl ks vs 1 sr) kp vp 0 :: x) (.node i l k v b r)) (u1.2.mono fun y _ hy => ?_) (u2.2.mono fun y _ hy => ?_)⟩
    · simp only [allIds, Ctx.ids, Fr.ids, BT.ids, List.mem_cons, List.mem_append] at hy ⊢; grind
    · simp only [allIds, Ctx.ids, Fr.ids, BT.ids, List.mem_cons, List.mem_append] at hy ⊢; grind
  · refine deleteCase4_next hv (by omega) ?_
    by_cases hf : col sl = 0
    · have cf := Nd.cells_ tp.ht.1
      refine deleteCase5R_far hv cf.2.2.1 cf.2.2.2 (rbPtr_other w (fun e => hsi e.symm) tp.downR.ht.1 tp.downL.ht.1) hf hr ?_
      obtain ⟨q, ql, kq, vq, qr, rfl⟩ := col_node hf
      have e : delR p kp vp cp (.node si (.node q ql kq vq 0 qr) ks vs 1 sr) x = .rf p sr kp vp 1 :: .rf si (.node q ql kq vq 1 qr) ks vs cp :: x := rfl
      rw [e]
      exact deleteCase6R_walk s0
    · have hf1 : col sl = 1 := hl.resolve_left hf
      have hn0 : col sr = 0 := by omega
      obtain ⟨a, al, ka, va, ar, rfl⟩ := col_node hn0
      have e : delR p kp vp cp (.node si sl ks vs 1 (.node a al ka va 0 ar)) x = .rf p ar kp vp 1 :: .rf a (.node si sl ks vs 1 al) ka va cp :: x := by
        simp only [delR]
        rw [if_neg hf]
        rfl
      rw [e]
      exact deleteCase5R_near s0 hf1
theorem del3R_walk {w : World} {H : Hd} {x : Ctx} {i p si : Nat} {l r sl sr : BT} {k v b kp vp cp ks vs : Int} (s0 : St rbL w H (.rf p (.node si sl ks vs 1 sr) kp vp cp :: x) (.node i l k v b r)) (hcp : cp = 0 ∨ cp = 1) (hl : col sl = 0 ∨ col sl = 1) (hr : col sr = 0 ∨ col sr = 1) (hc : ¬ (cp = 1 ∧ col sl = 1 ∧ col sr = 1)) :
    Calls Tryz.prog 65 #[.pointer (some ⟨H.tb, 0, none⟩), .pointer (some ⟨i, 0, none⟩)] w (Ret fun w' => St rbL w' H (delR p kp vp cp (.node si sl ks vs 1 sr) x) (.node i l k v b r) ∧ Only (allIds H (.rf p (.node si sl ks vs 1 sr) kp vp cp :: x) (.node i l k v b r)) w w') :=
  deleteCase3_next (viewR s0) (by omega) (del4R_walk s0 hcp hl hr hc)
set_option maxHeartbeats 1000000 in
theorem del_walk (H : Hd) (S : List Nat) : ∀ (n : Nat) (c : Ctx), c.length ≤ n → ∀ (w : World) (i : Nat) (l : BT) (k v b : Int) (r : BT) (m : Nat), St rbL w H c (.node i l k v b r) → Hole c (m + 1) → (∀ x, x ∈ allIds H c (.node i l k v b r) → x ∈ S) →
    Calls Tryz.prog 55 #[.pointer (some ⟨H.tb, 0, none⟩), .pointer (some ⟨i, 0, none⟩)] w (Ret fun w' => St rbL w' H (delC c) (.node i l k v b r) ∧ Only S w w') := by
  intro n
  induction n with
  | zero =>
    intro c hlen w i l k v b r m s0 hh hS
    obtain rfl : c = [] := List.eq_nil_of_length_eq_zero (by omega)
    exact deleteCase1_nil s0.ht.1.cellP ⟨s0, Only.refl _ _⟩
  | succ n ih =>
    intro c hlen w i l k v b r m s0 hh hS
    cases c with
    | nil => exact deleteCase1_nil s0.ht.1.cellP ⟨s0, Only.refl _ _⟩
    | cons f x =>
      cases f with
      | lf p kp vp cp s =>
        have i5 : w.cell? ⟨i, 5, none⟩ = some (.pointer (some ⟨p, 0, none⟩)) := s0.ht.1.cellP
        refine deleteCase1_up i5 ?_
        have hb : BH s (m + 1) := by rcases hh with ⟨_, h, _⟩ | ⟨_, h, _⟩ <;> exact h
        have hcp : cp = 0 ∨ cp = 1 := by rcases hh with ⟨h, _⟩ | ⟨h, _⟩; exact .inr h; exact .inl h
        cases s with
        | nil => simp [BH] at hb
        | node si sl ks vs cs sr =>
          have hcs := col_cases hb
          simp only [col] at hcs
          rcases hcs with rfl | rfl
          · obtain ⟨h3, h4, h5, h6⟩ := bh_red_inv hb
            have e : delC (.lf p kp vp cp (.node si sl ks vs 0 sr) :: x) = delL p kp vp 0 sl (.lf si ks vs 1 sr :: x) := by simp [delC]
            rw [e]
            refine deleteCase2L_red s0 fun w' s' o' => ?_
            cases sl with
            | nil => simp [BH] at h3
            | node a al ka va ca ar =>
              simp only [col] at h5; subst h5
              obtain ⟨m', hm, h7, h8⟩ := bh_black_inv h3
              exact ret_mono (del3L_walk s' (.inl rfl) (col_cases h7) (col_cases h8) (by omega)) fun w2 ⟨s2, o2⟩ => ⟨s2, (o'.mono fun y _ hy => hS y hy).trans (o2.mono fun y _ hy => hS y (by simp only [allIds, Ctx.ids, Fr.ids, BT.ids, List.mem_cons, List.mem_append] at hy ⊢; grind))⟩
          · obtain ⟨m', hm, h3, h4⟩ := bh_black_inv hb
            refine deleteCase2_black (viewL s0) ?_
            by_cases hc : cp = 1 ∧ col sl = 1 ∧ col sr = 1
            · obtain ⟨rfl, h5, h6⟩ := hc
              have tp := s0.upL
              have hn := tp.ndt
              simp only [BT.ids, List.nodup_cons, List.nodup_append, List.mem_append, List.mem_cons] at hn
              have u1 := stRed tp.downR
              have e : delC (.lf p kp vp 1 (.node si sl ks vs 1 sr) :: x) = .lf p kp vp 1 (.node si sl ks vs 0 sr) :: delC x := by simp [delC, h5, h6]
              rw [e]
              refine deleteCase3_all (viewL s0) h5 h6 (by grind) ?_
              exact ret_mono (ih x (by simp at hlen; omega) _ p _ kp vp 1 _ (m + 1) u1.1.upR (hole_lf_black hh).2 fun y hy => hS y (by simp only [allIds, Ctx.ids, Fr.ids, BT.ids, List.mem_cons, List.mem_append] at hy ⊢; grind)) fun w2 ⟨s2, o2⟩ =>
                ⟨s2.downL, (u1.2.mono fun y _ hy => hS y (by simp only [allIds, Ctx.ids, Fr.ids, BT.ids, List.mem_cons, List.mem_append] at hy ⊢; grind)).trans o2⟩
            · have e : delC (.lf p kp vp cp (.node si sl ks vs 1 sr) :: x) = delL p kp vp cp (.node si sl ks vs 1 sr) x := by
                simp only [delC]
                rw [if_neg (by omega), if_neg hc]
              rw [e]
              exact ret_mono (del3L_walk s0 hcp (col_cases h3) (col_cases h4) hc) fun w2 ⟨s2, o2⟩ => ⟨s2, o2.mono fun y _ hy => hS y hy⟩
      | rf p s kp vp cp =>
        have i5 : w.cell? ⟨i, 5, none⟩ = some (.pointer (some ⟨p, 0, none⟩)) := s0.ht.1.cellP
        refine deleteCase1_up i5 ?_
        have hb : BH s (m + 1) := by rcases hh with ⟨_, h, _⟩ | ⟨_, h, _⟩ <;> exact h
        have hcp : cp = 0 ∨ cp = 1 := by rcases hh with ⟨h, _⟩ | ⟨h, _⟩; exact .inr h; exact .inl h
        cases s with
        | nil => simp [BH] at hb
        | node si sl ks vs cs sr =>
          have hcs := col_cases hb
          simp only [col] at hcs
          rcases hcs with rfl | rfl
          · obtain ⟨h3, h4, h5, h6⟩ := bh_red_inv hb
            have e : delC (.rf p (.node si sl ks vs 0 sr) kp vp cp :: x) = delR p kp vp 0 sr (.rf si sl ks vs 1 :: x) := by simp [delC]
            rw [e]
            refine deleteCase2R_red s0 fun w' s' o' => ?_
            cases sr with
            | nil => simp [BH] at h4
            | node a al ka va ca ar =>
              simp only [col] at h6; subst h6
              obtain ⟨m', hm, h7, h8⟩ := bh_black_inv h4
              exact ret_mono (del3R_walk s' (.inl rfl) (col_cases h7) (col_cases h8) (by omega)) fun w2 ⟨s2, o2⟩ => ⟨s2, (o'.mono fun y _ hy => hS y hy).trans (o2.mono fun y _ hy => hS y (by simp only [allIds, Ctx.ids, Fr.ids, BT.ids, List.mem_cons, List.mem_append] at hy ⊢; grind))⟩
          · obtain ⟨m', hm, h3, h4⟩ := bh_black_inv hb
            refine deleteCase2_black (viewR s0) ?_
            by_cases hc : cp = 1 ∧ col sl = 1 ∧ col sr = 1
            · obtain ⟨rfl, h5, h6⟩ := hc
              have tp := s0.upR
              have hn := tp.ndt
              simp only [BT.ids, List.nodup_cons, List.nodup_append, List.mem_append, List.mem_cons] at hn
              have u1 := stRed tp.downL
              have e : delC (.rf p (.node si sl ks vs 1 sr) kp vp 1 :: x) = .rf p (.node si sl ks vs 0 sr) kp vp 1 :: delC x := by simp [delC, h5, h6]
              rw [e]
              refine deleteCase3_all (viewR s0) h5 h6 (by grind) ?_
              exact ret_mono (ih x (by simp at hlen; omega) _ p _ kp vp 1 _ (m + 1) u1.1.upL (hole_rf_black hh).2 fun y hy => hS y (by simp only [allIds, Ctx.ids, Fr.ids, BT.ids, List.mem_cons, List.mem_append] at hy ⊢; grind)) fun w2 ⟨s2, o2⟩ =>
                ⟨s2.downR, (u1.2.mono fun y _ hy => hS y (by simp only [allIds, Ctx.ids, Fr.ids, BT.ids, List.mem_cons, List.mem_append] at hy ⊢; grind)).trans o2⟩
            · have e : delC (.rf p (.node si sl ks vs 1 sr) kp vp cp :: x) = delR p kp vp cp (.node si sl ks vs 1 sr) x := by
                simp only [delC]
                rw [if_neg (by omega), if_neg hc]
              rw [e]
              exact ret_mono (del3R_walk s0 hcp (col_cases h3) (col_cases h4) hc) fun w2 ⟨s2, o2⟩ => ⟨s2, o2.mono fun y _ hy => hS y hy⟩
end Go.Proofs.YtbdcepkahdecjaaGreat.Rb
