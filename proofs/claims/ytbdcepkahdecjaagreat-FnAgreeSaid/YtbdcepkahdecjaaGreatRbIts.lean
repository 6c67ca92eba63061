/-
  Several texts as one (RbIter, RbIt, RbKeys, RbState, RbGrows, KeptBRb): each says its own in its remarks.
-/
import Derived.Test.YtbdcepkahdecjaaGreatIter
import Derived.Test.YtbdcepkahdecjaaGreatBases
import Derived.Test.YtbdcepkahdecjaaGreatRbTops
import Derived.Test.YtbdcepkahdecjaaGreatScopeOnce
import Derived.Test.YtbdcepkahdecjaaGreatSpecSame
import Derived.Test.YtbdcepkahdecjaaGreatRows0
import Derived.Test.YtbdcepkahdecjaaGreatKeptBase
namespace Go.Proofs.YtbdcepkahdecjaaGreat.Rb
open Go.RowKit Go.Proofs.YtbdcepkahdecjaaGreat
abbrev itC (tb : Nat) (n : Option Nat) (p : Int) : Array Value := #[.pointer (some ⟨tb, 0, none⟩), ptr n, .int .u8 p]
theorem it_size : (Tryz.prog.info? 87).map (·.size) = some 3 := by kernel_rfl
theorem itSet {w : World} {itb tb : Nat} {n : Option Nat} {p : Int} (h : Blk w itb 87 (itC tb n p)) (m : Option Nat) : Blk (w.setCell ⟨itb, 1, none⟩ (ptr m)) itb 87 (itC tb m p) := Blk.set_ h 1 _
theorem itPos {w : World} {itb tb : Nat} {n : Option Nat} {p : Int} (h : Blk w itb 87 (itC tb n p)) (q : Int) : Blk (w.setCell ⟨itb, 2, none⟩ (.int .u8 q)) itb 87 (itC tb n q) := Blk.set_ h 2 _
theorem itOff {w : World} {itb tb : Nat} {n : Option Nat} {p : Int} {H : Hd} {c : Ctx} {t : BT} (h : Blk w itb 87 (itC tb n p)) (s : St rbL w H c t) : itb ∉ allIds H c t := by
  have h1 := s.plug.off h (by decide) (by decide)
  intro hm
  refine h1 ?_
  have := (allIds_eq (c := c) (t := t) (c' := []) (t' := Ctx.plug c t) rfl itb).1 hm
  simpa [allIds, Ctx.ids] using this
theorem itKeep {w w' : World} {itb tb : Nat} {n : Option Nat} {p : Int} {H : Hd} {c : Ctx} {t : BT} (h : Blk w itb 87 (itC tb n p)) (s : St rbL w H c t) (o : Only [itb] w w') : St rbL w' H c t :=
  s.only o fun b hb hm => by
    simp only [List.mem_singleton] at hm
    subst hm
    exact itOff h s hb
theorem itNext_start (w : World) (itb : Nat) (H : Hd) (t : BT) (s : St rbL w H [] t) (hb : Blk w itb 87 (itC H.tb none 0)) :
    Calls Tryz.prog 49 #[.pointer (some ⟨itb, 0, none⟩)] w fun e w' => e = .returned (.bool t.lo.isSome) ∧ Blk w' itb 87 (itC H.tb t.lo (if t.lo.isSome then 1 else 2)) ∧ Only [itb] w w' := by
  have c := rbLeft_walk w H t s
  have hc0 : w.cell? ⟨itb, 0, none⟩ = some (.pointer (some ⟨H.tb, 0, none⟩)) := hb.cell 0
  have hc1 : w.cell? ⟨itb, 1, none⟩ = some (.pointer none) := hb.cell 1
  have hc2 : w.cell? ⟨itb, 2, none⟩ = some (.int .u8 0) := hb.cell 2
  have hf := hb.frozen
  cases hx : t.lo with
  | none =>
    rw [hx] at c
    simp only [ptr, Option.map_none] at c
    have C := Lib.hid c
    have fin : Blk ((w.setCell ⟨itb, 1, none⟩ (.pointer none)).setCell ⟨itb, 2, none⟩ (.int .u8 2)) itb 87 (itC H.tb none (if (none : Option Nat).isSome then 1 else 2)) ∧ Only [itb] w ((w.setCell ⟨itb, 1, none⟩ (.pointer none)).setCell ⟨itb, 2, none⟩ (.int .u8 2)) :=
      ⟨itPos (itSet hb none) 2, ((Only.refl _ _).setCell (.inl (by simp)) _).setCell (.inl (by simp)) _⟩
    have Fin := Lib.hid fin
    clear fin s hb c hx
    go_enter Tryz.func49, Tryz.ntmps49
    go_wp2_with fail
    refine wp_scope_once 0 rfl ?_
    go_wp2_with fail
    refine C.out.mono ?_
    rintro e w' ⟨rfl, rfl⟩
    clear C
    go_wp2_with fail
    try go_step3
    refine And.intro rfl ?_
    show Code.wp _ _ _ _ _
    go_wp2_with fail
    try go_step3
    go_wp2_with fail
    try rw [Exit.noGoto_ret]
    go_ret
    exact ⟨rfl, Fin.out⟩
  | some j =>
    rw [hx] at c
    simp only [ptr, Option.map_some] at c
    have C := Lib.hid c
    have fin : Blk ((w.setCell ⟨itb, 1, none⟩ (.pointer (some ⟨j, 0, none⟩))).setCell ⟨itb, 2, none⟩ (.int .u8 1)) itb 87 (itC H.tb (some j) (if (some j : Option Nat).isSome then 1 else 2)) ∧ Only [itb] w ((w.setCell ⟨itb, 1, none⟩ (.pointer (some ⟨j, 0, none⟩))).setCell ⟨itb, 2, none⟩ (.int .u8 1)) :=
      ⟨itPos (itSet hb (some j)) 1, ((Only.refl _ _).setCell (.inl (by simp)) _).setCell (.inl (by simp)) _⟩
    have Fin := Lib.hid fin
    clear fin s hb c hx
    go_enter Tryz.func49, Tryz.ntmps49
    go_wp2_with fail
    refine wp_scope_once 1 rfl ?_
    go_wp2_with fail
    refine C.out.mono ?_
    rintro e w' ⟨rfl, rfl⟩
    clear C
    go_wp2_with fail
    try go_step3
    refine And.intro rfl ?_
    show Code.wp _ _ _ _ _
    go_wp2_with fail
    try go_step3
    go_wp2_with fail
    try rw [Exit.noGoto_ret]
    go_ret
    exact ⟨rfl, Fin.out⟩
theorem itNext_end (w : World) (itb : Nat) (H : Hd) (hb : Blk w itb 87 (itC H.tb none 2)) :
    Calls Tryz.prog 49 #[.pointer (some ⟨itb, 0, none⟩)] w fun e w' => e = .returned (.bool false) ∧ Blk w' itb 87 (itC H.tb none 2) ∧ Only [itb] w w' := by
  have hc0 : w.cell? ⟨itb, 0, none⟩ = some (.pointer (some ⟨H.tb, 0, none⟩)) := hb.cell 0
  have hc1 : w.cell? ⟨itb, 1, none⟩ = some (.pointer none) := hb.cell 1
  have hc2 : w.cell? ⟨itb, 2, none⟩ = some (.int .u8 2) := hb.cell 2
  have hf := hb.frozen
  have fin : Blk ((w.setCell ⟨itb, 1, none⟩ (.pointer none)).setCell ⟨itb, 2, none⟩ (.int .u8 2)) itb 87 (itC H.tb none 2) ∧ Only [itb] w ((w.setCell ⟨itb, 1, none⟩ (.pointer none)).setCell ⟨itb, 2, none⟩ (.int .u8 2)) :=
    ⟨itPos (itSet hb none) 2, ((Only.refl _ _).setCell (.inl (by simp)) _).setCell (.inl (by simp)) _⟩
  have Fin := Lib.hid fin
  clear fin hb
  go_enter Tryz.func49, Tryz.ntmps49
  go_wp2_with fail
  refine wp_scope_once 0 rfl ?_
  go_wp2_with fail
  try go_step3
  refine And.intro rfl ?_
  show Code.wp _ _ _ _ _
  go_wp2_with fail
  try go_step3
  go_wp2_with fail
  try rw [Exit.noGoto_ret]
  go_ret
  exact ⟨rfl, Fin.out⟩
set_option maxHeartbeats 1000000 in
set_option maxRecDepth 100000 in
theorem itNext_down (w : World) (itb : Nat) (H : Hd) (c : Ctx) (i : Nat) (l : BT) (k v b : Int) (r : BT) (s : St rbL w H c (.node i l k v b r)) (hb : Blk w itb 87 (itC H.tb (some i) 1)) (hr : r ≠ .nil) :
    Calls Tryz.prog 49 #[.pointer (some ⟨itb, 0, none⟩)] w fun e w' => e = .returned (.bool r.lo.isSome) ∧ Blk w' itb 87 (itC H.tb r.lo (if r.lo.isSome then 1 else 2)) ∧ Only [itb] w w' := by
  have hc0 : w.cell? ⟨itb, 0, none⟩ = some (.pointer (some ⟨H.tb, 0, none⟩)) := hb.cell 0
  have hc1 : w.cell? ⟨itb, 1, none⟩ = some (.pointer (some ⟨i, 0, none⟩)) := hb.cell 1
  have hc2 : w.cell? ⟨itb, 2, none⟩ = some (.int .u8 1) := hb.cell 2
  have hf := hb.frozen
  obtain ⟨_, _, hl3, hr4⟩ := s.ht.1.cells_
  simp only [ptr] at hl3 hr4
  cases r with
  | nil => exact absurd rfl hr
  | node j jl jk jv jb jr =>
    have hB := Lib.hid hb
    have hS := Lib.hid s.downR
    clear hb s hr
    simp only [root_node, Option.map_some] at hr4
    generalize hT : BT.node j jl jk jv jb jr = T at *
    have HT := Lib.hid hT
    clear hT
    go_enter Tryz.func49, Tryz.ntmps49
    go_wp2_with fail
    refine wp_scope_once 1 rfl ?_
    go_wp2_with fail
    go_loopg [] (T.count + 1) (fun g wr => ∃ (c : Ctx) (i : Nat) (l : BT) (k v b : Int) (r : BT), Blk wr itb 87 (itC H.tb (some i) 1) ∧ Only [itb] w wr ∧ St rbL wr H c (.node i l k v b r) ∧ T.lo = (BT.node i l k v b r).lo ∧ l.count < g)
    case atStart =>
      have o1 : Only [itb] w (w.setCell ⟨itb, 1, none⟩ (.pointer (some ⟨j, 0, none⟩))) := (Only.refl _ _).setCell (.inl (by simp)) _
      have b1 := itSet hB.out (some j)
      refine ⟨.rf i l k v b :: c, j, jl, jk, jv, jb, jr, b1, o1, ?_, by rw [HT.out], by rw [← HT.out]; simp only [BT.count]; omega⟩
      have := itKeep hB.out hS.out o1
      rw [HT.out]; exact this
    case round =>
      clear hc0 hc1 hc2 hf hl3 hr4 hS HT hB
      obtain ⟨c, i, l, k, v, b, r, hb, ho, hst, he, hg⟩ := hrel
      have hc0 : wr.cell? ⟨itb, 0, none⟩ = some (.pointer (some ⟨H.tb, 0, none⟩)) := hb.cell 0
      have hc1 : wr.cell? ⟨itb, 1, none⟩ = some (.pointer (some ⟨i, 0, none⟩)) := hb.cell 1
      have hc2 : wr.cell? ⟨itb, 2, none⟩ = some (.int .u8 1) := hb.cell 2
      have hf := hb.frozen
      obtain ⟨_, _, hl3, hr4⟩ := hst.ht.1.cells_
      simp only [ptr] at hl3 hr4
      have HE := Lib.hid he
      have HO := Lib.hid ho
      have HB := Lib.hid hb
      clear he ho hb
      cases l with
      | nil =>
        have F := Lib.hid (show Blk (wr.setCell ⟨itb, 2, none⟩ (.int .u8 1)) itb 87 (itC H.tb (some i) 1) ∧ Only [itb] w (wr.setCell ⟨itb, 2, none⟩ (.int .u8 1)) from ⟨itPos HB.out 1, HO.out.setCell (.inl (by simp)) _⟩)
        simp only [BT.root, Option.map_none] at hl3
        clear hst HO HB
        go_wp2_with fail
        try go_step3
        refine And.intro rfl ?_
        show Code.wp _ _ _ _ _
        go_wp2_with fail
        try go_step3
        go_wp2_with fail
        try rw [Exit.noGoto_ret]
        go_ret
        have e1 : T.lo = some i := by rw [HE.out, BT.lo_nil]
        rw [e1]
        exact ⟨rfl, F.out⟩
      | node i' l' k' v' b' r' =>
        have o1 : Only [itb] wr (wr.setCell ⟨itb, 1, none⟩ (.pointer (some ⟨i', 0, none⟩))) := (Only.refl _ _).setCell (.inl (by simp)) _
        have F := Lib.hid (show Blk (wr.setCell ⟨itb, 1, none⟩ (.pointer (some ⟨i', 0, none⟩))) itb 87 (itC H.tb (some i') 1) ∧ Only [itb] w (wr.setCell ⟨itb, 1, none⟩ (.pointer (some ⟨i', 0, none⟩))) ∧ St rbL (wr.setCell ⟨itb, 1, none⟩ (.pointer (some ⟨i', 0, none⟩))) H _ _ from ⟨itSet HB.out (some i'), HO.out.trans o1, itKeep HB.out hst.downL o1⟩)
        simp only [root_node, Option.map_some] at hl3
        clear hst HO HB o1
        go_wp2_with fail
        go_roundg (l'.count + 1)
        case measure => simp only [BT.count] at hg; omega
        case rel => exact ⟨_, i', l', k', v', b', r', F.out.1, F.out.2.1, F.out.2.2, by rw [HE.out, BT.lo_node (by intro h; cases h)], by omega⟩
set_option maxHeartbeats 1000000 in
set_option maxRecDepth 100000 in
theorem itNext_up (x : Nat) : ∀ (w : World) (itb : Nat) (H : Hd) (c : Ctx) (i : Nat) (l : BT) (k v b : Int) (r : BT) (_ : St rbL w H c (.node i l k v b r)) (_ : Blk w itb 87 (itC H.tb (some i) 1)) (_ : r = .nil) (_ : Ctx.upR c = some x),
    Calls Tryz.prog 49 #[.pointer (some ⟨itb, 0, none⟩)] w fun e w' => e = .returned (.bool true) ∧ Blk w' itb 87 (itC H.tb (some x) 1) ∧ Only [itb] w w' := by
  intro w itb H c i l k v b r s hb hr hx
  subst hr
  have hc0 : w.cell? ⟨itb, 0, none⟩ = some (.pointer (some ⟨H.tb, 0, none⟩)) := hb.cell 0
  have hc1 : w.cell? ⟨itb, 1, none⟩ = some (.pointer (some ⟨i, 0, none⟩)) := hb.cell 1
  have hc2 : w.cell? ⟨itb, 2, none⟩ = some (.int .u8 1) := hb.cell 2
  have hf := hb.frozen
  obtain ⟨_, _, hl3, hr4⟩ := s.ht.1.cells_
  simp only [BT.root, ptr, Option.map_none] at hr4
  have hB := Lib.hid hb
  have HX := Lib.hid hx
  generalize hT : BT.node i l k v b .nil = T at *
  have hS := Lib.hid s
  have HT := Lib.hid hT
  clear hb s hx hT
  go_enter Tryz.func49, Tryz.ntmps49
  go_wp2_with fail
  refine wp_scope_once 1 rfl ?_
  go_wp2_with fail
  go_loopg [] (c.length + 1) (fun g wr => ∃ (c' : Ctx) (t : BT) (i : Nat), t.root = some i ∧ Blk wr itb 87 (itC H.tb (some i) 1) ∧ Only [itb] w wr ∧ St rbL wr H c' t ∧ Ctx.upR c' = some x ∧ c'.length < g)
  case atStart => exact ⟨c, T, i, by rw [← HT.out]; rfl, hB.out, Only.refl _ _, hS.out, HX.out, by omega⟩
  case round =>
    clear hc0 hc1 hc2 hf hl3 hr4 hS HT hB HX
    obtain ⟨c, t, i, hi, hb, ho, hst, hx, hg⟩ := hrel
    have hc0 : wr.cell? ⟨itb, 0, none⟩ = some (.pointer (some ⟨H.tb, 0, none⟩)) := hb.cell 0
    have hc1 : wr.cell? ⟨itb, 1, none⟩ = some (.pointer (some ⟨i, 0, none⟩)) := hb.cell 1
    have hc2 : wr.cell? ⟨itb, 2, none⟩ = some (.int .u8 1) := hb.cell 2
    have hf := hb.frozen
    have HX := Lib.hid hx
    have HO := Lib.hid ho
    have HB := Lib.hid hb
    cases t with
    | nil => cases hi
    | node i0 l0 k0 v0 b0 r0 =>
      simp only [root_node, Option.some.injEq] at hi
      subst hi
      have i5 : wr.cell? ⟨i0, 5, none⟩ = some (ptr c.par) := hst.ht.1.cellP
      cases c with
      | nil => cases hx
      | cons f c =>
        have o1 : Only [itb] wr (wr.setCell ⟨itb, 1, none⟩ (.pointer (some ⟨f.id, 0, none⟩))) := (Only.refl _ _).setCell (.inl (by simp)) _
        have b1 := itSet HB.out (some f.id)
        have s1 := itKeep HB.out hst o1
        have ib := itOff HB.out hst
        have hni : ¬ i0 = itb := fun e => ib (by simp [allIds, BT.ids, e])
        have hnf : ¬ f.id = itb := fun e => ib (by cases f <;> simp [allIds, Ctx.ids, Fr.ids, Fr.id] at e ⊢ <;> simp [e])
        simp only [Ctx.par, ptr, Option.map_some] at i5
        cases f with
        | lf p k v b u =>
          simp only [Fr.id] at *
          simp only [Ctx.upR, Option.some.injEq] at hx
          subst hx
          have q3 : (wr.setCell ⟨itb, 1, none⟩ (.pointer (some ⟨p, 0, none⟩))).cell? ⟨p, 3, none⟩ = some (.pointer (some ⟨i0, 0, none⟩)) := (Nd.cells_ s1.upL.ht.1).2.2.1
          have qs := rbPtr_same
          have n1 : (wr.setCell ⟨itb, 1, none⟩ (.pointer (some ⟨p, 0, none⟩))).cell? ⟨itb, 1, none⟩ = some (.pointer (some ⟨p, 0, none⟩)) := b1.cell 1
          have n2 : (wr.setCell ⟨itb, 1, none⟩ (.pointer (some ⟨p, 0, none⟩))).cell? ⟨itb, 2, none⟩ = some (.int .u8 1) := b1.cell 2
          have nf := b1.frozen
          have F := Lib.hid (show Blk ((wr.setCell ⟨itb, 1, none⟩ (.pointer (some ⟨p, 0, none⟩))).setCell ⟨itb, 2, none⟩ (.int .u8 1)) itb 87 (itC H.tb (some p) 1) ∧ Only [itb] w ((wr.setCell ⟨itb, 1, none⟩ (.pointer (some ⟨p, 0, none⟩))).setCell ⟨itb, 2, none⟩ (.int .u8 1)) from ⟨itPos b1 1, (HO.out.trans o1).setCell (.inl (by simp)) _⟩)
          clear hst hb ho HO HB o1 b1 s1 ib HX
          go_wp2_with fail
          try go_step3
          refine And.intro rfl ?_
          show Code.wp _ _ _ _ _
          go_wp2_with fail
          try go_step3
          go_wp2_with fail
          try rw [Exit.noGoto_ret]
          go_ret
          exact ⟨rfl, F.out⟩
        | rf p u k v b =>
          simp only [Fr.id] at *
          have hx' : Ctx.upR c = some x := hx
          have q3 : (wr.setCell ⟨itb, 1, none⟩ (.pointer (some ⟨p, 0, none⟩))).cell? ⟨p, 3, none⟩ = some (ptr u.root) := (Nd.cells_ s1.upR.ht.1).2.2.1
          have hn := s1.upR.ndt
          simp only [BT.ids, List.nodup_cons, List.nodup_append, List.mem_append, List.mem_cons] at hn
          have qn := rbPtr_root s1.ht.1 s1.upR.ht.2.1 (by grind)
          have n1 : (wr.setCell ⟨itb, 1, none⟩ (.pointer (some ⟨p, 0, none⟩))).cell? ⟨itb, 1, none⟩ = some (.pointer (some ⟨p, 0, none⟩)) := b1.cell 1
          have n2 : (wr.setCell ⟨itb, 1, none⟩ (.pointer (some ⟨p, 0, none⟩))).cell? ⟨itb, 2, none⟩ = some (.int .u8 1) := b1.cell 2
          simp only [ptr] at q3 qn
          have nf := b1.frozen
          have F := Lib.hid (show Blk (wr.setCell ⟨itb, 1, none⟩ (.pointer (some ⟨p, 0, none⟩))) itb 87 (itC H.tb (some p) 1) ∧ Only [itb] w (wr.setCell ⟨itb, 1, none⟩ (.pointer (some ⟨p, 0, none⟩))) ∧ St rbL (wr.setCell ⟨itb, 1, none⟩ (.pointer (some ⟨p, 0, none⟩))) H _ _ from ⟨b1, HO.out.trans o1, s1.upR⟩)
          generalize Value.pointer (u.root.map (fun n => (⟨n, 0, none⟩ : Addr))) = yu at *
          clear hst hb ho HO HB o1 b1 s1 ib HX hn hx
          go_wp2_with fail
          go_roundg (c.length + 1)
          case measure => simp only [List.length_cons] at hg; omega
          case rel => exact ⟨c, _, p, rfl, F.out.1, F.out.2.1, F.out.2.2, hx', by omega⟩
set_option maxHeartbeats 1000000 in
set_option maxRecDepth 100000 in
theorem itNext_out (w : World) (itb : Nat) (H : Hd) (c : Ctx) (i : Nat) (l : BT) (k v b : Int) (r : BT) (s : St rbL w H c (.node i l k v b r)) (hb : Blk w itb 87 (itC H.tb (some i) 1)) (hr : r = .nil) (hx : Ctx.upR c = none) :
    Calls Tryz.prog 49 #[.pointer (some ⟨itb, 0, none⟩)] w fun e w' => e = .returned (.bool false) ∧ Blk w' itb 87 (itC H.tb none 2) ∧ Only [itb] w w' := by
  subst hr
  have hc0 : w.cell? ⟨itb, 0, none⟩ = some (.pointer (some ⟨H.tb, 0, none⟩)) := hb.cell 0
  have hc1 : w.cell? ⟨itb, 1, none⟩ = some (.pointer (some ⟨i, 0, none⟩)) := hb.cell 1
  have hc2 : w.cell? ⟨itb, 2, none⟩ = some (.int .u8 1) := hb.cell 2
  have hf := hb.frozen
  obtain ⟨_, _, hl3, hr4⟩ := s.ht.1.cells_
  simp only [BT.root, ptr, Option.map_none] at hr4
  have hB := Lib.hid hb
  have HX := Lib.hid hx
  generalize hT : BT.node i l k v b .nil = T at *
  have hS := Lib.hid s
  have HT := Lib.hid hT
  clear hb s hx hT
  go_enter Tryz.func49, Tryz.ntmps49
  go_wp2_with fail
  go_step3
  go_wp2_with fail
  go_loopg [] (c.length + 1) (fun g wr => ∃ (c' : Ctx) (t : BT) (i : Nat), t.root = some i ∧ Blk wr itb 87 (itC H.tb (some i) 1) ∧ Only [itb] w wr ∧ St rbL wr H c' t ∧ Ctx.upR c' = none ∧ c'.length < g)
  case atStart => exact ⟨c, T, i, by rw [← HT.out]; rfl, hB.out, Only.refl _ _, hS.out, HX.out, by omega⟩
  case round =>
    clear hc0 hc1 hc2 hf hl3 hr4 hS HT hB HX
    obtain ⟨c, t, i, hi, hb, ho, hst, hx, hg⟩ := hrel
    have hc0 : wr.cell? ⟨itb, 0, none⟩ = some (.pointer (some ⟨H.tb, 0, none⟩)) := hb.cell 0
    have hc1 : wr.cell? ⟨itb, 1, none⟩ = some (.pointer (some ⟨i, 0, none⟩)) := hb.cell 1
    have hc2 : wr.cell? ⟨itb, 2, none⟩ = some (.int .u8 1) := hb.cell 2
    have hf := hb.frozen
    have HO := Lib.hid ho
    have HB := Lib.hid hb
    cases t with
    | nil => cases hi
    | node i0 l0 k0 v0 b0 r0 =>
      simp only [root_node, Option.some.injEq] at hi
      subst hi
      have i5 : wr.cell? ⟨i0, 5, none⟩ = some (ptr c.par) := hst.ht.1.cellP
      cases c with
      | nil =>
        have F := Lib.hid (show Blk ((wr.setCell ⟨itb, 1, none⟩ (.pointer none)).setCell ⟨itb, 2, none⟩ (.int .u8 2)) itb 87 (itC H.tb none 2) ∧ Only [itb] w ((wr.setCell ⟨itb, 1, none⟩ (.pointer none)).setCell ⟨itb, 2, none⟩ (.int .u8 2)) from ⟨itPos (itSet HB.out none) 2, (HO.out.setCell (.inl (by simp)) _).setCell (.inl (by simp)) _⟩)
        simp only [Ctx.par, ptr, Option.map_none] at i5
        clear hst hb ho HO HB hx
        go_wp2_with fail
        try go_step3
        go_wp2_with fail
        try rw [Exit.noGoto_ret]
        go_ret
        exact ⟨rfl, F.out⟩
      | cons f c =>
        have o1 : Only [itb] wr (wr.setCell ⟨itb, 1, none⟩ (.pointer (some ⟨f.id, 0, none⟩))) := (Only.refl _ _).setCell (.inl (by simp)) _
        have b1 := itSet HB.out (some f.id)
        have s1 := itKeep HB.out hst o1
        have ib := itOff HB.out hst
        have hni : ¬ i0 = itb := fun e => ib (by simp [allIds, BT.ids, e])
        have hnf : ¬ f.id = itb := fun e => ib (by cases f <;> simp [allIds, Ctx.ids, Fr.ids, Fr.id] at e ⊢ <;> simp [e])
        simp only [Ctx.par, ptr, Option.map_some] at i5
        cases f with
        | lf p k v b u => simp [Ctx.upR] at hx
        | rf p u k v b =>
          simp only [Fr.id] at *
          have hx' : Ctx.upR c = none := hx
          have q3 : (wr.setCell ⟨itb, 1, none⟩ (.pointer (some ⟨p, 0, none⟩))).cell? ⟨p, 3, none⟩ = some (ptr u.root) := (Nd.cells_ s1.upR.ht.1).2.2.1
          have hn := s1.upR.ndt
          simp only [BT.ids, List.nodup_cons, List.nodup_append, List.mem_append, List.mem_cons] at hn
          have qn := rbPtr_root s1.ht.1 s1.upR.ht.2.1 (by grind)
          have n1 : (wr.setCell ⟨itb, 1, none⟩ (.pointer (some ⟨p, 0, none⟩))).cell? ⟨itb, 1, none⟩ = some (.pointer (some ⟨p, 0, none⟩)) := b1.cell 1
          have n2 : (wr.setCell ⟨itb, 1, none⟩ (.pointer (some ⟨p, 0, none⟩))).cell? ⟨itb, 2, none⟩ = some (.int .u8 1) := b1.cell 2
          simp only [ptr] at q3 qn
          have nf := b1.frozen
          have F := Lib.hid (show Blk (wr.setCell ⟨itb, 1, none⟩ (.pointer (some ⟨p, 0, none⟩))) itb 87 (itC H.tb (some p) 1) ∧ Only [itb] w (wr.setCell ⟨itb, 1, none⟩ (.pointer (some ⟨p, 0, none⟩))) ∧ St rbL (wr.setCell ⟨itb, 1, none⟩ (.pointer (some ⟨p, 0, none⟩))) H _ _ from ⟨b1, HO.out.trans o1, s1.upR⟩)
          generalize Value.pointer (u.root.map (fun n => (⟨n, 0, none⟩ : Addr))) = yu at *
          clear hst hb ho HO HB o1 b1 s1 ib hn hx
          go_wp2_with fail
          go_roundg (c.length + 1)
          case measure => simp only [List.length_cons] at hg; omega
          case rel => exact ⟨c, _, p, rfl, F.out.1, F.out.2.1, F.out.2.2, hx', by omega⟩
theorem itNext_on (w : World) (itb : Nat) (H : Hd) (c : Ctx) (i : Nat) (l : BT) (k v b : Int) (r : BT) (s : St rbL w H c (.node i l k v b r)) (hb : Blk w itb 87 (itC H.tb (some i) 1)) :
    Calls Tryz.prog 49 #[.pointer (some ⟨itb, 0, none⟩)] w fun e w' => e = .returned (.bool (nextId c r).isSome) ∧ Blk w' itb 87 (itC H.tb (nextId c r) (if (nextId c r).isSome then 1 else 2)) ∧ Only [itb] w w' := by
  by_cases hr : r = .nil
  · have e : nextId c r = Ctx.upR c := by subst hr; rfl
    rw [e]
    cases hx : Ctx.upR c with
    | none => exact itNext_out w itb H c i l k v b r s hb hr hx
    | some x => exact itNext_up x w itb H c i l k v b r s hb hr hx
  · have e : nextId c r = r.lo := by cases r with | nil => exact absurd rfl hr | node => rfl
    rw [e]
    exact itNext_down w itb H c i l k v b r s hb hr
theorem itKey_walk (w : World) (itb tb : Nat) (H : Hd) (c : Ctx) (i : Nat) (l : BT) (k v b : Int) (r : BT) (s : St rbL w H c (.node i l k v b r)) (hb : Blk w itb 87 (itC tb (some i) 1)) :
    Calls Tryz.prog 50 #[.pointer (some ⟨itb, 0, none⟩)] w fun e w' => e = .returned (.iface 3 (.int .i64 k)) ∧ w' = w := by
  have hc1 : w.cell? ⟨itb, 1, none⟩ = some (.pointer (some ⟨i, 0, none⟩)) := hb.cell 1
  obtain ⟨hk0, hv1, _, _⟩ := s.ht.1.cells_
  clear s hb
  go_enter Tryz.func50, Tryz.ntmps50
  go_wp2_with fail
  go_ret
  exact ⟨rfl, rfl⟩
theorem itValue_walk (w : World) (itb tb : Nat) (H : Hd) (c : Ctx) (i : Nat) (l : BT) (k v b : Int) (r : BT) (s : St rbL w H c (.node i l k v b r)) (hb : Blk w itb 87 (itC tb (some i) 1)) :
    Calls Tryz.prog 57 #[.pointer (some ⟨itb, 0, none⟩)] w fun e w' => e = .returned (.iface 3 (.int .i64 v)) ∧ w' = w := by
  have hc1 : w.cell? ⟨itb, 1, none⟩ = some (.pointer (some ⟨i, 0, none⟩)) := hb.cell 1
  obtain ⟨hk0, hv1, _, _⟩ := s.ht.1.cells_
  clear s hb
  go_enter Tryz.func57, Tryz.ntmps57
  go_wp2_with fail
  go_ret
  exact ⟨rfl, rfl⟩
end Go.Proofs.YtbdcepkahdecjaaGreat.Rb

namespace Go.Proofs.YtbdcepkahdecjaaGreat.Rb
open Go.RowKit Go.Proofs.YtbdcepkahdecjaaGreat
structure RbItAt (o : Ord) (ob B : Nat) (w : World) (tb itb : Nat) (t : BT) (p : Nat) : Prop where
  at_ : RbAt o ob B w tb t
  it : Blk w itb 87 (itCells tb t.ord p)
  le : p ≤ t.count + 1
  lo : B ≤ itb
section
variable {o : Ord} {ob B tb itb p : Nat} {w w' : World} {t : BT}
theorem RbItAt.move {p' : Nat} (h : RbItAt o ob B w tb itb t p) (k : Only [itb] w w') (hb : Blk w' itb 87 (itCells tb t.ord p')) (hp : p' ≤ t.count + 1) : RbItAt o ob B w' tb itb t p' := by
  have ho := h.at_.st.off h.it (by decide) (by decide)
  have hob : itb ≠ ob := Blk.ne_ h.it h.at_.ord (by decide)
  refine ⟨h.at_.same fun b hb' => k.block b (h.at_.lt b hb') fun hm => (?_ : False), hb, hp, h.lo⟩
  simp only [List.mem_singleton] at hm
  subst hm
  rcases List.mem_cons.1 hb' with e | e
  · exact hob e
  · exact ho e
theorem RbItAt.only {S : List Nat} (h : RbItAt o ob B w tb itb t p) (k : Only S w w') (hs : ∀ b ∈ S, b ∉ ob :: tb :: itb :: t.ids) : RbItAt o ob B w' tb itb t p := by
  have hsz := h.at_.lt
  refine ⟨h.at_.same fun b hb => k.block b (hsz b hb) fun hm => ?_, h.it.same (k.block _ h.it.lt fun hm => hs _ hm (by simp)), h.le, h.lo⟩
  refine hs b hm ?_
  simp only [List.mem_cons] at hb ⊢
  rcases hb with e | e | e
  · exact .inl e
  · exact .inr (.inl e)
  · exact .inr (.inr (.inr e))
theorem RbItAt.fits (h : RbItAt o ob B w tb itb t p) : (p = 0 ∧ itCells tb t.ord p = #[.pointer (some ⟨tb, 0, none⟩), .pointer none, .int .u8 0]) ∨ (p = t.count + 1 ∧ itCells tb t.ord p = #[.pointer (some ⟨tb, 0, none⟩), .pointer none, .int .u8 2]) ∨
    ∃ q, p = q + 1 ∧ q < t.count ∧ ∃ c i l k v b r, St rbL w ⟨tb, cmpv ob, t.count⟩ c (.node i l k v b r) ∧ t.ord[q]? = some i ∧ t.kvs[q]? = some (k, v) ∧ nextId c r = t.ord[q + 1]? ∧ (prevId c l = if q = 0 then none else t.ord[q - 1]?) ∧ itCells tb t.ord p = #[.pointer (some ⟨tb, 0, none⟩), .pointer (some ⟨i, 0, none⟩), .int .u8 1] := by
  by_cases h0 : p = 0
  · subst h0; exact .inl ⟨rfl, itCells_zero _ _⟩
  · by_cases h1 : p = t.count + 1
    · refine .inr (.inl ⟨h1, ?_⟩)
      rw [h1, ← BT.ord_length]; exact itCells_end _ _
    · have hle := h.le
      obtain ⟨q, rfl⟩ : ∃ q, p = q + 1 := ⟨p - 1, by omega⟩
      obtain ⟨c, i, l, k, v, b, r, h2, h3, h4, h5, h6⟩ := h.at_.st.at_place (p := q) (by omega)
      exact .inr (.inr ⟨q, rfl, by omega, c, i, l, k, v, b, r, h2, h3, h4, h5, h6, itCells_at _ _ h3⟩)
theorem rbItNext_walk (h : RbItAt o ob B w tb itb t p) :
    Calls Tryz.prog 49 #[.pointer (some ⟨itb, 0, none⟩)] w fun e w' => e = .returned (.bool (decide (p < t.count))) ∧ RbItAt o ob B w' tb itb t (min (p + 1) (t.count + 1)) ∧ Only [itb] w w' := by
  have hit := h.it
  have hn := BT.ord_length t
  rcases h.fits with ⟨rfl, e⟩ | ⟨rfl, e⟩ | ⟨q, rfl, hq, c, i, l, k, v, b, r, hst, h1, h2, h3, h4, e⟩
  · rw [e] at hit
    refine (itNext_start w itb ⟨tb, cmpv ob, t.count⟩ t h.at_.st hit).mono ?_
    rintro e w' ⟨rfl, hb, on⟩
    have hlo := lo_at t
    by_cases h0 : t.count = 0
    · have e1 : t.lo = none := by rw [hlo, List.getElem?_eq_none (by omega)]
      rw [e1] at hb
      refine ⟨by rw [e1]; simp [h0], h.move on ?_ (by omega), on⟩
      rw [h0, show min (0 + 1) (0 + 1) = t.ord.length + 1 by omega, itCells_end]
      exact hb
    · obtain ⟨j, hj⟩ : ∃ j, t.ord[0]? = some j := ⟨_, List.getElem?_eq_getElem (by omega)⟩
      rw [hlo, hj] at hb
      refine ⟨by rw [hlo, hj]; simp; omega, h.move on ?_ (by omega), on⟩
      rw [show min (0 + 1) (t.count + 1) = 0 + 1 by omega, itCells_at _ _ hj]
      exact hb
  · rw [e] at hit
    refine (itNext_end w itb ⟨tb, cmpv ob, t.count⟩ hit).mono ?_
    rintro e w' ⟨rfl, hb, on⟩
    refine ⟨by simp, h.move on ?_ (by omega), on⟩
    rw [show min (t.count + 1 + 1) (t.count + 1) = t.ord.length + 1 by omega, itCells_end]
    exact hb
  · rw [e] at hit
    refine (itNext_on w itb ⟨tb, cmpv ob, t.count⟩ c i l k v b r hst hit).mono ?_
    rintro e w' ⟨rfl, hb, on⟩
    rw [h3] at hb ⊢
    by_cases h0 : q + 1 < t.count
    · obtain ⟨j, hj⟩ : ∃ j, t.ord[q + 1]? = some j := ⟨_, List.getElem?_eq_getElem (by omega)⟩
      rw [hj] at hb ⊢
      refine ⟨by simp [h0], h.move on ?_ (by omega), on⟩
      rw [show min (q + 1 + 1) (t.count + 1) = q + 1 + 1 by omega, itCells_at _ _ hj]
      exact hb
    · have e1 : t.ord[q + 1]? = none := List.getElem?_eq_none (by omega)
      rw [e1] at hb ⊢
      refine ⟨by simp [h0], h.move on ?_ (by omega), on⟩
      rw [show min (q + 1 + 1) (t.count + 1) = t.ord.length + 1 by omega, itCells_end]
      exact hb
theorem rbItKey_walk {q : Nat} {k v : Int} (h : RbItAt o ob B w tb itb t (q + 1)) (hq : t.kvs[q]? = some (k, v)) :
    Calls Tryz.prog 50 #[.pointer (some ⟨itb, 0, none⟩)] w fun e w' => e = .returned (.iface 3 (.int .i64 k)) ∧ w' = w := by
  have hlt : q < t.count := by
    rcases Nat.lt_or_ge q t.count with h' | h'
    · exact h'
    · rw [List.getElem?_eq_none (by rw [BT.kvs_length]; exact h')] at hq; cases hq
  have hit := h.it
  rcases h.fits with ⟨e0, e⟩ | ⟨e0, e⟩ | ⟨q', e0, hq', c, i, l, k', v', b, r, hst, h1, h2, h3, h4, e⟩
  · omega
  · omega
  · obtain rfl : q = q' := by omega
    rw [hq] at h2
    obtain ⟨rfl, rfl⟩ : k = k' ∧ v = v' := by simpa using h2
    rw [e] at hit
    exact itKey_walk w itb tb ⟨tb, cmpv ob, t.count⟩ c i l k v b r hst hit
theorem rbItValue_walk {q : Nat} {k v : Int} (h : RbItAt o ob B w tb itb t (q + 1)) (hq : t.kvs[q]? = some (k, v)) :
    Calls Tryz.prog 57 #[.pointer (some ⟨itb, 0, none⟩)] w fun e w' => e = .returned (.iface 3 (.int .i64 v)) ∧ w' = w := by
  have hlt : q < t.count := by
    rcases Nat.lt_or_ge q t.count with h' | h'
    · exact h'
    · rw [List.getElem?_eq_none (by rw [BT.kvs_length]; exact h')] at hq; cases hq
  have hit := h.it
  rcases h.fits with ⟨e0, e⟩ | ⟨e0, e⟩ | ⟨q', e0, hq', c, i, l, k', v', b, r, hst, h1, h2, h3, h4, e⟩
  · omega
  · omega
  · obtain rfl : q = q' := by omega
    rw [hq] at h2
    obtain ⟨rfl, rfl⟩ : k = k' ∧ v = v' := by simpa using h2
    rw [e] at hit
    exact itValue_walk w itb tb ⟨tb, cmpv ob, t.count⟩ c i l k v b r hst hit
end
theorem rbIterator_walk (w : World) (tb : Nat) : Calls Tryz.prog 48 #[.pointer (some ⟨tb, 0, none⟩)] w fun e w' =>
    e = .returned (.agg #[.pointer (some ⟨tb, 0, none⟩), .pointer none, .int .u8 0]) ∧ w' = w.alloc (.cells #[.pointer (some ⟨tb, 0, none⟩), .pointer none, .int .u8 0] 87) := by
  have fb : Blk (w.alloc (.cells #[.pointer (some ⟨tb, 0, none⟩), .pointer none, .int .u8 0] 87)) w.heap.size 87 #[.pointer (some ⟨tb, 0, none⟩), .pointer none, .int .u8 0] := Blk.new _ _ _
  have FB := Lib.hid fb
  clear fb
  go_enter Tryz.func48, Tryz.ntmps48
  go_wp2_with fail
  refine bodyPost_ret (results_cell_row rfl _ _ w.heap.size _ _ (0, 0) _ rfl FB.out Tryz.underlying87 rfl it_size) rfl ?_
  exact ⟨rfl, rfl⟩
end Go.Proofs.YtbdcepkahdecjaaGreat.Rb

namespace Go.Proofs.YtbdcepkahdecjaaGreat.Rb
open Go.RowKit Go.Proofs.YtbdcepkahdecjaaGreat
@[go_sem] theorem rb_method_Next (n : Nat) (a : Addr) (w : World) : (method (n + 1) 98 (.pointer (some a)) "Next").run Tryz.prog w = .ok (49, .pointer (some a)) w := by kernel_rfl
@[go_sem] theorem rb_method_Key (n : Nat) (a : Addr) (w : World) : (method (n + 1) 98 (.pointer (some a)) "Key").run Tryz.prog w = .ok (50, .pointer (some a)) w := by kernel_rfl
@[go_sem] theorem rb_method_Value (n : Nat) (a : Addr) (w : World) : (method (n + 1) 98 (.pointer (some a)) "Value").run Tryz.prog w = .ok (57, .pointer (some a)) w := by kernel_rfl
set_option maxRecDepth 100000 in
theorem rbKeys_walk {o : Ord} {ob B tb : Nat} {w : World} {t : BT} (h : RbAt o ob B w tb t) (hl : t.count ≤ 100000) :
    Calls Tryz.prog 42 #[.pointer (some ⟨tb, 0, none⟩)] w fun e w' =>
      e = .returned (.slice (some ⟨w.heap.size, 0, none⟩) t.count t.count) ∧ Blk w' w.heap.size 20 (rowI (t.kvs.map Prod.fst)).toArray ∧ Below w.heap.size w w' := by
  obtain ⟨hh2, _, _⟩ := h.st.hc.header
  simp only [rb_os] at hh2
  have hmk := fun w => makeI_run w t.count hl
  have hkb : ∀ b ∈ ob :: tb :: t.ids, b < w.heap.size := h.lt
  have HK := Lib.hid hkb
  have H := Lib.hid h
  clear h hkb
  go_enter Tryz.func42, Tryz.ntmps42
  go_wp2_with fail
  refine (rbIterator_walk _ tb).mono ?_
  rintro e w1 ⟨rfl, rfl⟩
  have e0 := partI_zero (t.kvs.map Prod.fst)
  rw [List.length_map, BT.kvs_length] at e0
  rw [← e0]
  have hz : ((w.alloc (.cells (partI (t.kvs.map Prod.fst) 0).toArray 20)).alloc (.cells #[.pointer (some ⟨tb, 0, none⟩), .pointer none, .int .u8 0] 87)).heap.size = w.heap.size + 2 := by simp
  have at1 : RbAt o ob B ((w.alloc (.cells (partI (t.kvs.map Prod.fst) 0).toArray 20)).alloc (.cells #[.pointer (some ⟨tb, 0, none⟩), .pointer none, .int .u8 0] 87)) tb t := H.out.below (((Below.refl _ _).alloc (Nat.le_refl _) _).alloc (by simp) _)
  have b1 : Below w.heap.size w ((w.alloc (.cells (partI (t.kvs.map Prod.fst) 0).toArray 20)).alloc (.cells #[.pointer (some ⟨tb, 0, none⟩), .pointer none, .int .u8 0] 87)) := ((Below.refl _ _).alloc (Nat.le_refl _) _).alloc (by simp) _
  have k1 : Blk ((w.alloc (.cells (partI (t.kvs.map Prod.fst) 0).toArray 20)).alloc (.cells #[.pointer (some ⟨tb, 0, none⟩), .pointer none, .int .u8 0] 87)) w.heap.size 20 (partI (t.kvs.map Prod.fst) 0).toArray := Blk.alloc (Blk.new _ _ _) _
  have HZ := Lib.hid hz
  have AT1 := Lib.hid at1
  have B1 := Lib.hid b1
  have K1 := Lib.hid k1
  clear hz at1 b1 k1 e0 hmk
  generalize ((w.alloc (.cells (partI (t.kvs.map Prod.fst) 0).toArray 20)).alloc (.cells #[.pointer (some ⟨tb, 0, none⟩), .pointer none, .int .u8 0] 87)) = w1 at *
  have H2 := Lib.hid (show RbItAt o ob B (w1.alloc (.cells #[.pointer (some ⟨tb, 0, none⟩), .pointer none, .int .u8 0] 87)) tb w1.heap.size t 0 from ⟨AT1.out.below ((Below.refl _ _).alloc (Nat.le_refl _) _), Blk.new _ _ _, by omega, by have := H.out.lo.1; have := HK.out ob (by simp); have := HZ.out; omega⟩)
  have B2 := Lib.hid (B1.out.alloc (by have := HZ.out; omega) (.cells #[.pointer (some ⟨tb, 0, none⟩), .pointer none, .int .u8 0] 87))
  have K2 := Lib.hid (Blk.alloc K1.out (.cells #[.pointer (some ⟨tb, 0, none⟩), .pointer none, .int .u8 0] 87))
  clear AT1 B1 K1
  go_wp2_with fail
  go_loopw [5] (fun i wr => ∃ k : Nat, k ≤ t.count ∧ i = .int .i64 k ∧ RbItAt o ob B wr tb w1.heap.size t k ∧ Blk wr w.heap.size 20 (partI (t.kvs.map Prod.fst) k).toArray ∧ Below w.heap.size w wr) (fun i _ => t.count - (intOf i).toNat)
  case atStart => exact ⟨0, Nat.zero_le _, rfl, H2.out, K2.out, B2.out⟩
  case round =>
    clear hh2
    obtain ⟨k, hk, rfl, hi, hb, hw⟩ := hrel
    have c1 := rbItNext_walk hi
    by_cases hlt : k < t.count
    · rw [decide_eq_true hlt] at c1
      have C1 := Lib.hid c1
      have Hb := Lib.hid hb
      have Hw := Lib.hid hw
      clear c1 hi hb hw
      go_wp2_with fail
      refine C1.out.mono ?_
      rintro e w3 ⟨rfl, h3, on3⟩
      have b3 := Hb.out.only on3 (by simp only [List.mem_singleton]; have := HZ.out; omega)
      have hw3 := Hw.out.trans (on3.below (fun b hb => by simp only [List.mem_singleton] at hb; have := HZ.out; omega) Hw.out.size)
      rw [show min (k + 1) (t.count + 1) = k + 1 by omega] at h3
      obtain ⟨p, hp⟩ : ∃ p, t.kvs[k]? = some p := ⟨_, List.getElem?_eq_getElem (by rw [BT.kvs_length]; exact hlt)⟩
      obtain ⟨pk, pv⟩ := p
      have c2 := rbItKey_walk h3 hp
      have hf := b3.frozen k
      have hc := b3.cell k
      have hsz : (partI (t.kvs.map Prod.fst) k).toArray.size = t.count := by simp [partI_length, BT.kvs_length]
      have b4 := Blk.set_ b3 k (.iface 3 (.int .i64 (Prod.fst (pk, pv))))
      rw [partI_set (by rw [List.getElem?_map, hp]; rfl)] at b4
      simp only [] at b4
      have on4 : Only [w.heap.size] w3 (w3.setCell ⟨w.heap.size, k, none⟩ (.iface 3 (.int .i64 pk))) := (Only.refl _ _).setCell (.inl (by simp)) _
      have h4 := h3.only on4 (fun b hb hm => by
        simp only [List.mem_singleton] at hb
        subst hb
        simp only [List.mem_cons] at hm
        rcases hm with e | e | e | e
        · have := HK.out ob (by simp); omega
        · have := HK.out tb (by simp); omega
        · have := HZ.out; omega
        · have := HK.out _ (List.mem_cons_of_mem _ (List.mem_cons_of_mem _ e)); omega)
      have hw4 := hw3.trans (on4.below (fun b hb => by simp only [List.mem_singleton] at hb; omega) hw3.size)
      have F4 := Lib.hid (show RbItAt o ob B _ tb w1.heap.size t (k + 1) ∧ Blk _ _ _ _ ∧ Below w.heap.size w _ from ⟨h4, b4, hw4⟩)
      clear h4 hw4 on4
      have C2 := Lib.hid c2
      have H3 := Lib.hid h3
      have B4 := Lib.hid b4
      have W3 := Lib.hid hw3
      clear C1 c2 h3 b4 hw3 on3 Hb Hw
      clear hp
      go_wp2_with fail
      refine C2.out.mono ?_
      rintro e w4 ⟨rfl, rfl⟩
      go_wp2_with fail
      go_roundw
      case rel => exact ⟨k + 1, by omega, by go_num, F4.out⟩
      case measure => simp [intOf]; omega
    · have hkn : k = t.count := by omega
      rw [decide_eq_false hlt] at c1
      have C1 := Lib.hid c1
      have Hb := Lib.hid hb
      have Hw := Lib.hid hw
      clear c1 hi hb hw
      go_wp2_with fail
      refine C1.out.mono ?_
      rintro e w3 ⟨rfl, h3, on3⟩
      have b3 := Hb.out.only on3 (by simp only [List.mem_singleton]; have := HZ.out; omega)
      have hw3 := Hw.out.trans (on3.below (fun b hb => by simp only [List.mem_singleton] at hb; have := HZ.out; omega) Hw.out.size)
      have e1 : k = (t.kvs.map Prod.fst).length := by rw [List.length_map, BT.kvs_length]; exact hkn
      rw [e1, partI_all] at b3
      have B3 := Lib.hid b3
      have W3 := Lib.hid hw3
      clear C1 b3 hw3 on3 Hb Hw h3 e1
      go_wp2_with fail
      go_ret
      exact ⟨rfl, B3.out, W3.out⟩
set_option maxRecDepth 100000 in
theorem rbValues_walk {o : Ord} {ob B tb : Nat} {w : World} {t : BT} (h : RbAt o ob B w tb t) (hl : t.count ≤ 100000) :
    Calls Tryz.prog 47 #[.pointer (some ⟨tb, 0, none⟩)] w fun e w' =>
      e = .returned (.slice (some ⟨w.heap.size, 0, none⟩) t.count t.count) ∧ Blk w' w.heap.size 20 (rowI (t.kvs.map Prod.snd)).toArray ∧ Below w.heap.size w w' := by
  obtain ⟨hh2, _, _⟩ := h.st.hc.header
  simp only [rb_os] at hh2
  have hmk := fun w => makeI_run w t.count hl
  have hkb : ∀ b ∈ ob :: tb :: t.ids, b < w.heap.size := h.lt
  have HK := Lib.hid hkb
  have H := Lib.hid h
  clear h hkb
  go_enter Tryz.func47, Tryz.ntmps47
  go_wp2_with fail
  refine (rbIterator_walk _ tb).mono ?_
  rintro e w1 ⟨rfl, rfl⟩
  have e0 := partI_zero (t.kvs.map Prod.snd)
  rw [List.length_map, BT.kvs_length] at e0
  rw [← e0]
  have hz : ((w.alloc (.cells (partI (t.kvs.map Prod.snd) 0).toArray 20)).alloc (.cells #[.pointer (some ⟨tb, 0, none⟩), .pointer none, .int .u8 0] 87)).heap.size = w.heap.size + 2 := by simp
  have at1 : RbAt o ob B ((w.alloc (.cells (partI (t.kvs.map Prod.snd) 0).toArray 20)).alloc (.cells #[.pointer (some ⟨tb, 0, none⟩), .pointer none, .int .u8 0] 87)) tb t := H.out.below (((Below.refl _ _).alloc (Nat.le_refl _) _).alloc (by simp) _)
  have b1 : Below w.heap.size w ((w.alloc (.cells (partI (t.kvs.map Prod.snd) 0).toArray 20)).alloc (.cells #[.pointer (some ⟨tb, 0, none⟩), .pointer none, .int .u8 0] 87)) := ((Below.refl _ _).alloc (Nat.le_refl _) _).alloc (by simp) _
  have k1 : Blk ((w.alloc (.cells (partI (t.kvs.map Prod.snd) 0).toArray 20)).alloc (.cells #[.pointer (some ⟨tb, 0, none⟩), .pointer none, .int .u8 0] 87)) w.heap.size 20 (partI (t.kvs.map Prod.snd) 0).toArray := Blk.alloc (Blk.new _ _ _) _
  have HZ := Lib.hid hz
  have AT1 := Lib.hid at1
  have B1 := Lib.hid b1
  have K1 := Lib.hid k1
  clear hz at1 b1 k1 e0 hmk
  generalize ((w.alloc (.cells (partI (t.kvs.map Prod.snd) 0).toArray 20)).alloc (.cells #[.pointer (some ⟨tb, 0, none⟩), .pointer none, .int .u8 0] 87)) = w1 at *
  have H2 := Lib.hid (show RbItAt o ob B (w1.alloc (.cells #[.pointer (some ⟨tb, 0, none⟩), .pointer none, .int .u8 0] 87)) tb w1.heap.size t 0 from ⟨AT1.out.below ((Below.refl _ _).alloc (Nat.le_refl _) _), Blk.new _ _ _, by omega, by have := H.out.lo.1; have := HK.out ob (by simp); have := HZ.out; omega⟩)
  have B2 := Lib.hid (B1.out.alloc (by have := HZ.out; omega) (.cells #[.pointer (some ⟨tb, 0, none⟩), .pointer none, .int .u8 0] 87))
  have K2 := Lib.hid (Blk.alloc K1.out (.cells #[.pointer (some ⟨tb, 0, none⟩), .pointer none, .int .u8 0] 87))
  clear AT1 B1 K1
  go_wp2_with fail
  go_loopw [5] (fun i wr => ∃ k : Nat, k ≤ t.count ∧ i = .int .i64 k ∧ RbItAt o ob B wr tb w1.heap.size t k ∧ Blk wr w.heap.size 20 (partI (t.kvs.map Prod.snd) k).toArray ∧ Below w.heap.size w wr) (fun i _ => t.count - (intOf i).toNat)
  case atStart => exact ⟨0, Nat.zero_le _, rfl, H2.out, K2.out, B2.out⟩
  case round =>
    clear hh2
    obtain ⟨k, hk, rfl, hi, hb, hw⟩ := hrel
    have c1 := rbItNext_walk hi
    by_cases hlt : k < t.count
    · rw [decide_eq_true hlt] at c1
      have C1 := Lib.hid c1
      have Hb := Lib.hid hb
      have Hw := Lib.hid hw
      clear c1 hi hb hw
      go_wp2_with fail
      refine C1.out.mono ?_
      rintro e w3 ⟨rfl, h3, on3⟩
      have b3 := Hb.out.only on3 (by simp only [List.mem_singleton]; have := HZ.out; omega)
      have hw3 := Hw.out.trans (on3.below (fun b hb => by simp only [List.mem_singleton] at hb; have := HZ.out; omega) Hw.out.size)
      rw [show min (k + 1) (t.count + 1) = k + 1 by omega] at h3
      obtain ⟨p, hp⟩ : ∃ p, t.kvs[k]? = some p := ⟨_, List.getElem?_eq_getElem (by rw [BT.kvs_length]; exact hlt)⟩
      obtain ⟨pk, pv⟩ := p
      have c2 := rbItValue_walk h3 hp
      have hf := b3.frozen k
      have hc := b3.cell k
      have hsz : (partI (t.kvs.map Prod.snd) k).toArray.size = t.count := by simp [partI_length, BT.kvs_length]
      have b4 := Blk.set_ b3 k (.iface 3 (.int .i64 (Prod.snd (pk, pv))))
      rw [partI_set (by rw [List.getElem?_map, hp]; rfl)] at b4
      simp only [] at b4
      have on4 : Only [w.heap.size] w3 (w3.setCell ⟨w.heap.size, k, none⟩ (.iface 3 (.int .i64 pv))) := (Only.refl _ _).setCell (.inl (by simp)) _
      have h4 := h3.only on4 (fun b hb hm => by
        simp only [List.mem_singleton] at hb
        subst hb
        simp only [List.mem_cons] at hm
        rcases hm with e | e | e | e
        · have := HK.out ob (by simp); omega
        · have := HK.out tb (by simp); omega
        · have := HZ.out; omega
        · have := HK.out _ (List.mem_cons_of_mem _ (List.mem_cons_of_mem _ e)); omega)
      have hw4 := hw3.trans (on4.below (fun b hb => by simp only [List.mem_singleton] at hb; omega) hw3.size)
      have F4 := Lib.hid (show RbItAt o ob B _ tb w1.heap.size t (k + 1) ∧ Blk _ _ _ _ ∧ Below w.heap.size w _ from ⟨h4, b4, hw4⟩)
      clear h4 hw4 on4
      have C2 := Lib.hid c2
      have H3 := Lib.hid h3
      have B4 := Lib.hid b4
      have W3 := Lib.hid hw3
      clear C1 c2 h3 b4 hw3 on3 Hb Hw
      clear hp
      go_wp2_with fail
      refine C2.out.mono ?_
      rintro e w4 ⟨rfl, rfl⟩
      go_wp2_with fail
      go_roundw
      case rel => exact ⟨k + 1, by omega, by go_num, F4.out⟩
      case measure => simp [intOf]; omega
    · have hkn : k = t.count := by omega
      rw [decide_eq_false hlt] at c1
      have C1 := Lib.hid c1
      have Hb := Lib.hid hb
      have Hw := Lib.hid hw
      clear c1 hi hb hw
      go_wp2_with fail
      refine C1.out.mono ?_
      rintro e w3 ⟨rfl, h3, on3⟩
      have b3 := Hb.out.only on3 (by simp only [List.mem_singleton]; have := HZ.out; omega)
      have hw3 := Hw.out.trans (on3.below (fun b hb => by simp only [List.mem_singleton] at hb; have := HZ.out; omega) Hw.out.size)
      have e1 : k = (t.kvs.map Prod.snd).length := by rw [List.length_map, BT.kvs_length]; exact hkn
      rw [e1, partI_all] at b3
      have B3 := Lib.hid b3
      have W3 := Lib.hid hw3
      clear C1 b3 hw3 on3 Hb Hw h3 e1
      go_wp2_with fail
      go_ret
      exact ⟨rfl, B3.out, W3.out⟩
end Go.Proofs.YtbdcepkahdecjaaGreat.Rb

namespace Go.Proofs.YtbdcepkahdecjaaGreat.Rb
open Go.RowKit Go.Proofs.YtbdcepkahdecjaaGreat
@[go_sem] theorem rb_method_Keys (n : Nat) (a : Addr) (w : World) : (method (n + 1) 35 (.pointer (some a)) "Keys").run Tryz.prog w = .ok (42, .pointer (some a)) w := by kernel_rfl
@[go_sem] theorem rb_method_Values (n : Nat) (a : Addr) (w : World) : (method (n + 1) 35 (.pointer (some a)) "Values").run Tryz.prog w = .ok (47, .pointer (some a)) w := by kernel_rfl
@[go_sem] theorem rb_method_Size (n : Nat) (a : Addr) (w : World) : (method (n + 1) 35 (.pointer (some a)) "Size").run Tryz.prog w = .ok (45, .pointer (some a)) w := by kernel_rfl
@[go_sem] theorem rb_method_Empty (n : Nat) (a : Addr) (w : World) : (method (n + 1) 35 (.pointer (some a)) "Empty").run Tryz.prog w = .ok (41, .pointer (some a)) w := by kernel_rfl
set_option maxRecDepth 100000 in
theorem rbStateOf_walk {o : Ord} {ob B tb : Nat} {w : World} {t : BT} (h : RbAt o ob B w tb t) (hl : t.count ≤ 100000) :
    Calls Tryz.prog 10 #[.iface 35 (.pointer (some ⟨tb, 0, none⟩))] w fun e w' => ∃ v, e = .returned v ∧ StateOwn w' w.heap.size v t.kvs ∧ Below w.heap.size w w' := by
  have b0 : Below w.heap.size w (w.alloc (.cells #[.slice none 0 0, .slice none 0 0, .int .i64 0, .bool false] 28)) := (Below.refl _ _).alloc (Nat.le_refl _) _
  have cb : Blk (w.alloc (.cells #[.slice none 0 0, .slice none 0 0, .int .i64 0, .bool false] 28)) w.heap.size 28 #[.slice none 0 0, .slice none 0 0, .int .i64 0, .bool false] := Blk.new _ _ _
  have h0 := h.below b0
  have hlen := BT.kvs_length t
  have H := Lib.hid h
  have B0 := Lib.hid b0
  have CB := Lib.hid cb
  have H0 := Lib.hid h0
  clear h b0 cb h0
  go_enter Tryz.func10, Tryz.ntmps10
  go_wp2_with fail
  generalize w.alloc (.cells #[.slice none 0 0, .slice none 0 0, .int .i64 0, .bool false] 28) = w0 at *
  refine (rbKeys_walk H0.out hl).mono ?_
  rintro e w1 ⟨rfl, hb1, b1⟩
  have C1 := Lib.hid (numbers_walk w1 _ (t.kvs.map Prod.fst) t.count (by rw [List.length_map, hlen]) hl hb1)
  have cb1 := Lib.hid (CB.out.below b1 CB.out.lt)
  have H1 := Lib.hid (H0.out.below b1)
  have B1 := Lib.hid (B0.out.trans (b1.mono B0.out.size))
  clear hb1 b1 CB H0 B0
  go_wp2_with fail
  refine C1.out.mono ?_
  rintro e w2 ⟨A1, c1, rfl, own1, b2⟩
  have r1 := Lib.hid own1
  have hs1 := Lib.hid (show w.heap.size < w1.heap.size from Nat.lt_of_lt_of_le cb1.out.lt (Nat.le_refl _))
  have cb2 := Lib.hid (cb1.out.below b2 cb1.out.lt)
  have H2 := Lib.hid (H1.out.below b2)
  have B2 := Lib.hid (B1.out.trans (b2.mono B1.out.size))
  clear own1 b2 cb1 H1 B1 C1
  go_wp2_with fail
  refine (rbValues_walk H2.out hl).mono ?_
  rintro e w3 ⟨rfl, hb3, b3⟩
  have C3 := Lib.hid (numbers_walk w3 _ (t.kvs.map Prod.snd) t.count (by rw [List.length_map, hlen]) hl hb3)
  have cb3 := Lib.hid (cb2.out.below b3 cb2.out.lt)
  have H3 := Lib.hid (H2.out.below b3)
  have r3 := Lib.hid (own_below r1.out b3)
  have hs3 := Lib.hid (show w.heap.size < w3.heap.size from cb3.out.lt)
  have B3 := Lib.hid (B2.out.trans (b3.mono B2.out.size))
  clear hb3 b3 cb2 H2 B2 r1
  go_wp2_with fail
  refine C3.out.mono ?_
  rintro e w4 ⟨A2, c2, rfl, own4, b4⟩
  have s4 := Lib.hid own4
  have cb4 := Lib.hid (cb3.out.below b4 cb3.out.lt)
  have H4 := Lib.hid (H3.out.below b4)
  have r4 := Lib.hid (own_below r3.out b4)
  have B4 := Lib.hid (B3.out.trans (b4.mono B3.out.size))
  clear own4 b4 cb3 H3 B3 r3 C3
  go_wp2_with fail
  refine (rbSize_walk H4.out).mono ?_
  rintro e w5 ⟨rfl, rfl⟩
  go_wp2_with fail
  refine (rbEmpty_walk H4.out).mono ?_
  rintro e w5 ⟨rfl, rfl⟩
  have hc0 := cb4.out.cell 0
  have hc1 := cb4.out.cell 1
  have hc2 := cb4.out.cell 2
  have hc3 := cb4.out.cell 3
  have hf := cb4.out.frozen
  go_wp2_with fail
  have fb := Blk.set_ (Blk.set_ (Blk.set_ (Blk.set_ cb4.out 0 (.slice A1 t.count c1)) 1 (.slice A2 t.count c2)) 2 (.int .i64 t.count)) 3 (.bool ((t.count : Int) == 0))
  have Fin : StateOwn (set4 w4 w.heap.size (.slice A1 t.count c1) (.slice A2 t.count c2) (.int .i64 t.count) (.bool ((t.count : Int) == 0))) w.heap.size (.agg #[.slice A1 t.count c1, .slice A2 t.count c2, .int .i64 t.count, .bool ((t.count : Int) == 0)]) t.kvs ∧ Below w.heap.size w (set4 w4 w.heap.size (.slice A1 t.count c1) (.slice A2 t.count c2) (.int .i64 t.count) (.bool ((t.count : Int) == 0))) := by
    have h0 : StateOwn w4 (w.heap.size + 1) (.agg #[.slice A1 t.count c1, .slice A2 t.count c2, .int .i64 t.count, .bool ((t.count : Int) == 0)]) t.kvs :=
      ⟨A1, c1, A2, c2, by rw [hlen], by rw [hlen]; exact own_base r4.out hs1.out, by rw [hlen]; exact own_base s4.out hs3.out⟩
    refine ⟨StateOwn.less ((((h0.far (p := ⟨w.heap.size, 0, none⟩) (Nat.lt_succ_self _) _).far (p := ⟨w.heap.size, 1, none⟩) (Nat.lt_succ_self _) _).far (p := ⟨w.heap.size, 2, none⟩) (Nat.lt_succ_self _) _).far (p := ⟨w.heap.size, 3, none⟩) (Nat.lt_succ_self _) _) (Nat.le_succ _), ?_⟩
    exact (((B4.out.setCell (p := ⟨w.heap.size, 0, none⟩) (Nat.le_refl _) _).setCell (p := ⟨w.heap.size, 1, none⟩) (Nat.le_refl _) _).setCell (p := ⟨w.heap.size, 2, none⟩) (Nat.le_refl _) _).setCell (p := ⟨w.heap.size, 3, none⟩) (Nat.le_refl _) _
  refine bodyPost_ret (results_cell_row rfl _ _ w.heap.size _ _ (0, 0) _ rfl fb Tryz.underlying28 rfl state_size) rfl ?_
  exact ⟨_, rfl, Fin.1, Fin.2⟩
set_option maxHeartbeats 2000000 in
set_option maxRecDepth 100000 in
theorem implRedBlackState_walk (o : Ord) (ho : o.fine) (n cap : Nat) (A : Option Addr) (acts : List Do) (w : World) (hn : acts.length = n) (hn1 : n ≤ 1000) (ha : ActsAt w w.heap.size A acts) :
    Calls Tryz.prog 5 #[.agg #[.int .i64 o.kind, .int .i64 o.m], .slice A n cap] w fun e w' => ∃ v, e = .returned v ∧ StateOwn w' w.heap.size v (run o acts) ∧ Below w.heap.size w w' := by
  have hr := run_length_le o acts
  have Hr := Lib.hid hr
  have Ha := Lib.hid ha
  clear ha hr
  have b0 : Below w.heap.size w ((w.alloc (.cells #[.int .i64 o.kind, .int .i64 o.m] 23)).alloc (.cells #[.slice none 0 0, .slice none 0 0, .int .i64 0, .bool false] 28)) := ((Below.refl _ _).alloc (Nat.le_refl _) _).alloc (by simp) _
  have s0 : ((w.alloc (.cells #[.int .i64 o.kind, .int .i64 o.m] 23)).alloc (.cells #[.slice none 0 0, .slice none 0 0, .int .i64 0, .bool false] 28)).heap.size = w.heap.size + 1 + 1 := by simp
  have cb : Blk ((w.alloc (.cells #[.int .i64 o.kind, .int .i64 o.m] 23)).alloc (.cells #[.slice none 0 0, .slice none 0 0, .int .i64 0, .bool false] 28)) (w.heap.size + 1) 28 #[.slice none 0 0, .slice none 0 0, .int .i64 0, .bool false] := Blk.new' (by simp) _ _
  have c0 : Blk ((w.alloc (.cells #[.int .i64 o.kind, .int .i64 o.m] 23)).alloc (.cells #[.slice none 0 0, .slice none 0 0, .int .i64 0, .bool false] 28)) w.heap.size 23 #[.int .i64 o.kind, .int .i64 o.m] := Blk.alloc (Blk.new _ _ _) _
  have hd0 := c0.cell 0
  have hd1 := c0.cell 1
  have B0 := Lib.hid b0
  have S0 := Lib.hid s0
  have CB := Lib.hid cb
  clear b0 s0 cb c0
  go_enter Tryz.func5, Tryz.ntmps5
  go_wp2_with fail
  generalize ((w.alloc (.cells #[.int .i64 o.kind, .int .i64 o.m] 23)).alloc (.cells #[.slice none 0 0, .slice none 0 0, .int .i64 0, .bool false] 28)) = w0 at *
  refine (rb_walk o ho n cap A acts w0 hn hn1 ((Ha.out.below B0.out).more (by rw [S0.out]; omega))).mono ?_
  rintro e w1 ⟨tb, rfl, ⟨ob, t, ht, hk⟩, b1⟩
  have hc := BT.kvs_length t
  rw [hk] at hc
  have hs := rbStateOf_walk ht (by rw [← hc]; have := Hr.out; omega)
  rw [hk] at hs
  have C1 := Lib.hid hs
  have lt1 := Lib.hid (show w.heap.size + 1 < w1.heap.size by have := b1.size; have := S0.out; omega)
  have cb1 := Lib.hid (CB.out.below b1 CB.out.lt)
  have B1 := Lib.hid (B0.out.trans (b1.mono B0.out.size))
  clear hs b1 B0 CB ht hk hc Ha hd0 hd1
  go_wp2_with fail
  refine C1.out.mono ?_
  rintro e w2 ⟨v, rfl, hst, b2⟩
  obtain ⟨A1, c1, A2, c2, rfl, own1, own2⟩ := hst
  have cb2 := Lib.hid (cb1.out.below b2 cb1.out.lt)
  have B2 := Lib.hid (B1.out.trans (b2.mono B1.out.size))
  have lt2 := cb2.out.lt
  have hc0 := cb2.out.cell 0
  have hc1 := cb2.out.cell 1
  have hc2 := cb2.out.cell 2
  have hc3 := cb2.out.cell 3
  have hf := cb2.out.frozen
  generalize hl : run o acts = l at *
  have HL := Lib.hid hl
  clear hl
  have fb := Blk.set_ (Blk.set_ (Blk.set_ (Blk.set_ cb2.out 0 (.slice A1 l.length c1)) 1 (.slice A2 l.length c2)) 2 (.int .i64 l.length)) 3 (.bool ((l.length : Int) == 0))
  have fin : StateOwn (set4 w2 (w.heap.size + 1) (.slice A1 l.length c1) (.slice A2 l.length c2) (.int .i64 l.length) (.bool ((l.length : Int) == 0))) w.heap.size (.agg #[.slice A1 l.length c1, .slice A2 l.length c2, .int .i64 l.length, .bool ((l.length : Int) == 0)]) l ∧ Below w.heap.size w (set4 w2 (w.heap.size + 1) (.slice A1 l.length c1) (.slice A2 l.length c2) (.int .i64 l.length) (.bool ((l.length : Int) == 0))) := by
    have h0 : StateOwn w2 w1.heap.size (.agg #[.slice A1 l.length c1, .slice A2 l.length c2, .int .i64 l.length, .bool ((l.length : Int) == 0)]) l :=
      ⟨A1, c1, A2, c2, rfl, own1, own2⟩
    refine ⟨StateOwn.less ((((h0.far (p := ⟨w.heap.size + 1, 0, none⟩) lt1.out _).far (p := ⟨w.heap.size + 1, 1, none⟩) lt1.out _).far (p := ⟨w.heap.size + 1, 2, none⟩) lt1.out _).far (p := ⟨w.heap.size + 1, 3, none⟩) lt1.out _) (by have := lt1.out; omega), ?_⟩
    exact (((B2.out.setCell (p := ⟨w.heap.size + 1, 0, none⟩) (Nat.le_succ _) _).setCell (p := ⟨w.heap.size + 1, 1, none⟩) (Nat.le_succ _) _).setCell (p := ⟨w.heap.size + 1, 2, none⟩) (Nat.le_succ _) _).setCell (p := ⟨w.heap.size + 1, 3, none⟩) (Nat.le_succ _) _
  have FB := Lib.hid fb
  have Fin := Lib.hid fin
  clear fb fin own1 own2
  generalize hn' : (l.length : Int) = n' at *
  clear b2 cb1 B1 C1
  go_wp2_with fail
  refine bodyPost_ret (results_cell_row rfl _ _ (w.heap.size + 1) _ _ (0, 0) _ rfl FB.out Tryz.underlying28 rfl state_size) rfl ?_
  exact ⟨_, rfl, by rw [HL.out]; exact Fin.out.1, Fin.out.2⟩
end Go.Proofs.YtbdcepkahdecjaaGreat.Rb

namespace Go.Proofs.YtbdcepkahdecjaaGreat.Rb
open Go.RowKit Go.Proofs.YtbdcepkahdecjaaGreat
set_option maxHeartbeats 2000000 in
set_option maxRecDepth 100000 in
theorem growsRedBlack_walk (w : World) : Calls Tryz.prog 9 #[] w fun e w' => e = .returned (.bool true) ∧ Below w.heap.size w w' := by
  have hr : run ⟨0, 0⟩ [⟨1, 5, 6⟩] = [(5, 6)] := by simp [run, step, ins]
  have c1 := fun (w : World) (A : Option Addr) (ha : ActsAt w w.heap.size A [⟨1, 5, 6⟩]) => implRedBlackState_walk ⟨0, 0⟩ (.inl rfl) 1 1 A [⟨1, 5, 6⟩] w rfl (by omega) ha
  rw [hr] at c1
  have C1 := Lib.hid c1
  clear c1 hr
  go_enter Tryz.func9, Tryz.ntmps9
  go_wp2_with fail
  have b0 : Below w.heap.size w (w.alloc (.cells #[.int .i64 1, .int .i64 5, .int .i64 6] 43)) := (Below.refl _ _).alloc (Nat.le_refl _) _
  have a0 : ActsAt (w.alloc (.cells #[.int .i64 1, .int .i64 5, .int .i64 6] 43)) (w.alloc (.cells #[.int .i64 1, .int .i64 5, .int .i64 6] 43)).heap.size (some ⟨w.heap.size, 0, none⟩) [⟨1, 5, 6⟩] := by
    have hb : Blk (w.alloc (.cells #[.int .i64 1, .int .i64 5, .int .i64 6] 43)) w.heap.size 43 #[.int .i64 1, .int .i64 5, .int .i64 6] := Blk.new _ _ _
    intro i d hd
    cases i with
    | zero =>
      simp only [List.getElem?_cons_zero, Option.some.injEq] at hd
      subst hd
      exact ⟨_, rfl, hb.lt, hb.cell 0, hb.cell 1, hb.cell 2⟩
    | succ i => simp at hd
  have A0 := Lib.hid a0
  have B0 := Lib.hid b0
  clear a0 b0
  refine (C1.out _ _ A0.out).mono ?_
  rintro e w1 ⟨v, rfl, hst, b1⟩
  have b1' := B0.out.trans (b1.mono B0.out.size)
  obtain ⟨A1, c1, A2, c2, rfl, own1, own2⟩ := hst
  have h1 := RowAt.of_own own1
  obtain ⟨a1, rfl, hlt, hc⟩ := h1.get (show (intRow ([((5 : Int), (6 : Int))].map Prod.fst))[0]? = some (.int .i64 5) from rfl)
  have hc0 : w1.cell? a1 = some (.int .i64 5) := by simpa [Addr.add] using hc
  have B1 := Lib.hid b1'
  have fin : Below w.heap.size w (w1.alloc (.cells #[.slice (some a1) 1 c1, .slice A2 1 c2, .int .i64 1, .bool false] 28)) := b1'.alloc b1'.size _
  have Fin := Lib.hid fin
  clear own1 own2 b1 b1' h1 C1 A0 B0 hc fin B1
  simp only [List.length_cons, List.length_nil]
  go_wp2_with fail
  go_ret
  exact ⟨rfl, Fin.out⟩
end Go.Proofs.YtbdcepkahdecjaaGreat.Rb

namespace Go.Proofs.YtbdcepkahdecjaaGreat.Rb
open Go.RowKit Go.Proofs.YtbdcepkahdecjaaGreat
section
variable {w0 w w' : World} {g B C : Nat} {o : Ord} {rows : List (Option Addr × List Value)} {sts : List (Value × KV)}
theorem keptState (h : Kept w0 g o rows sts B w) (ho : o.fine) (A : Option Addr) (acts : List Do) (n cap : Nat) (hn : acts.length = n) (hn1 : n ≤ 1000) (hm2 : (A, actCells acts) ∈ rows) :
    Calls Tryz.prog 5 #[.agg #[.int .i64 o.kind, .int .i64 o.m], .slice A n cap] w fun e w' => ∃ v, e = .returned v ∧ Kept w0 g o rows ((v, run o acts) :: sts) w'.heap.size w' := by
  refine (implRedBlackState_walk o ho n cap A acts w hn hn1 ((h.rows _ hm2).acts.more h.le)).mono ?_
  rintro e w' ⟨v, rfl, hs, b⟩
  exact ⟨v, rfl, (h.on b).st hs.at_⟩
theorem keptGrows (h : Kept w0 g o rows sts B w) : Calls Tryz.prog 9 #[] w fun e w' => e = .returned (.bool true) ∧ Kept w0 g o rows sts w'.heap.size w' := by
  refine (growsRedBlack_walk w).mono ?_
  rintro e w' ⟨rfl, b⟩
  exact ⟨rfl, h.on b⟩
end
end Go.Proofs.YtbdcepkahdecjaaGreat.Rb
