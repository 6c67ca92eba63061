/-
  The red-black tree's iterator: Iterator, Next, Prev, Begin, End, Key, Value. (Printed by gen_rbends.py: both sides alike.)
-/
import Derived.Test.YtmhkknobgcdkkaaIter
import Derived.Test.YtmhkknobgcdkkaaBases
import Derived.Test.YtmhkknobgcdkkaaRbEnds
import Derived.Test.YtmhkknobgcdkkaaScopeOnce
import Derived.Test.YtmhkknobgcdkkaaSpecSame
namespace Go.Proofs.Ytmhkknobgcdkkaa.Rb
open Go.RowKit Go.Proofs.Ytmhkknobgcdkkaa

abbrev itC (tb : Nat) (n : Option Nat) (p : Int) : Array Value := #[.pointer (some ⟨tb, 0, none⟩), ptr n, .int .u8 p]
theorem it_size : (Try.prog.info? 76).map (·.size) = some 3 := by kernel_rfl
theorem itSet {w : World} {itb tb : Nat} {n : Option Nat} {p : Int} (h : Blk w itb 76 (itC tb n p)) (m : Option Nat) : Blk (w.setCell ⟨itb, 1, none⟩ (ptr m)) itb 76 (itC tb m p) := Blk.set_ h 1 _
theorem itPos {w : World} {itb tb : Nat} {n : Option Nat} {p : Int} (h : Blk w itb 76 (itC tb n p)) (q : Int) : Blk (w.setCell ⟨itb, 2, none⟩ (.int .u8 q)) itb 76 (itC tb n q) := Blk.set_ h 2 _
/-- A store into the iterator's block leaves a tree as it was. -/
theorem itOff {w : World} {itb tb : Nat} {n : Option Nat} {p : Int} {H : Hd} {c : Ctx} {t : BT} (h : Blk w itb 76 (itC tb n p)) (s : St rbL w H c t) : itb ∉ allIds H c t := by
  have h1 := s.plug.off h (by decide) (by decide)
  intro hm
  refine h1 ?_
  have := (allIds_eq (c := c) (t := t) (c' := []) (t' := Ctx.plug c t) rfl itb).1 hm
  simpa [allIds, Ctx.ids] using this
theorem itKeep {w w' : World} {itb tb : Nat} {n : Option Nat} {p : Int} {H : Hd} {c : Ctx} {t : BT} (h : Blk w itb 76 (itC tb n p)) (s : St rbL w H c t) (o : Only [itb] w w') : St rbL w' H c t :=
  s.only o fun b hb hm => by
    simp only [List.mem_singleton] at hm
    subst hm
    exact itOff h s hb

theorem itNext_start (w : World) (itb : Nat) (H : Hd) (t : BT) (s : St rbL w H [] t) (hb : Blk w itb 76 (itC H.tb none 0)) :
    Calls Try.prog 92 #[.pointer (some ⟨itb, 0, none⟩)] w fun e w' => e = .returned (.bool t.lo.isSome) ∧ Blk w' itb 76 (itC H.tb t.lo (if t.lo.isSome then 1 else 2)) ∧ Only [itb] w w' := by
  have c := rbLeft_walk w H t s
  have hc0 : w.cell? ⟨itb, 0, none⟩ = some (.pointer (some ⟨H.tb, 0, none⟩)) := hb.cell 0
  have hc1 : w.cell? ⟨itb, 1, none⟩ = some (.pointer none) := hb.cell 1
  have hc2 : w.cell? ⟨itb, 2, none⟩ = some (.int .u8 0) := hb.cell 2
  have hf := hb.frozen
  cases hx : t.lo with
  | none =>
    rw [hx] at c
    simp only [ptr, Option.map_none] at c
    have C := Lib.hid c
    have fin : Blk ((w.setCell ⟨itb, 1, none⟩ (.pointer none)).setCell ⟨itb, 2, none⟩ (.int .u8 2)) itb 76 (itC H.tb none (if (none : Option Nat).isSome then 1 else 2)) ∧ Only [itb] w ((w.setCell ⟨itb, 1, none⟩ (.pointer none)).setCell ⟨itb, 2, none⟩ (.int .u8 2)) :=
      ⟨itPos (itSet hb none) 2, ((Only.refl _ _).setCell (.inl (by simp)) _).setCell (.inl (by simp)) _⟩
    have Fin := Lib.hid fin
    clear fin s hb c hx
    go_enter Try.func92, Try.ntmps92
    go_wp2_with fail
    refine wp_scope_once 0 rfl ?_
    go_wp2_with fail
    refine C.out.mono ?_
    rintro e w' ⟨rfl, rfl⟩
    clear C
    go_wp2_with fail
    try go_step3
    refine And.intro rfl ?_
    show Code.wp _ _ _ _ _
    go_wp2_with fail
    try go_step3
    go_wp2_with fail
    try rw [Exit.noGoto_ret]
    go_ret
    exact ⟨rfl, Fin.out⟩
  | some j =>
    rw [hx] at c
    simp only [ptr, Option.map_some] at c
    have C := Lib.hid c
    have fin : Blk ((w.setCell ⟨itb, 1, none⟩ (.pointer (some ⟨j, 0, none⟩))).setCell ⟨itb, 2, none⟩ (.int .u8 1)) itb 76 (itC H.tb (some j) (if (some j : Option Nat).isSome then 1 else 2)) ∧ Only [itb] w ((w.setCell ⟨itb, 1, none⟩ (.pointer (some ⟨j, 0, none⟩))).setCell ⟨itb, 2, none⟩ (.int .u8 1)) :=
      ⟨itPos (itSet hb (some j)) 1, ((Only.refl _ _).setCell (.inl (by simp)) _).setCell (.inl (by simp)) _⟩
    have Fin := Lib.hid fin
    clear fin s hb c hx
    go_enter Try.func92, Try.ntmps92
    go_wp2_with fail
    refine wp_scope_once 1 rfl ?_
    go_wp2_with fail
    refine C.out.mono ?_
    rintro e w' ⟨rfl, rfl⟩
    clear C
    go_wp2_with fail
    try go_step3
    refine And.intro rfl ?_
    show Code.wp _ _ _ _ _
    go_wp2_with fail
    try go_step3
    go_wp2_with fail
    try rw [Exit.noGoto_ret]
    go_ret
    exact ⟨rfl, Fin.out⟩
theorem itNext_end (w : World) (itb : Nat) (H : Hd) (hb : Blk w itb 76 (itC H.tb none 2)) :
    Calls Try.prog 92 #[.pointer (some ⟨itb, 0, none⟩)] w fun e w' => e = .returned (.bool false) ∧ Blk w' itb 76 (itC H.tb none 2) ∧ Only [itb] w w' := by
  have hc0 : w.cell? ⟨itb, 0, none⟩ = some (.pointer (some ⟨H.tb, 0, none⟩)) := hb.cell 0
  have hc1 : w.cell? ⟨itb, 1, none⟩ = some (.pointer none) := hb.cell 1
  have hc2 : w.cell? ⟨itb, 2, none⟩ = some (.int .u8 2) := hb.cell 2
  have hf := hb.frozen
  have fin : Blk ((w.setCell ⟨itb, 1, none⟩ (.pointer none)).setCell ⟨itb, 2, none⟩ (.int .u8 2)) itb 76 (itC H.tb none 2) ∧ Only [itb] w ((w.setCell ⟨itb, 1, none⟩ (.pointer none)).setCell ⟨itb, 2, none⟩ (.int .u8 2)) :=
    ⟨itPos (itSet hb none) 2, ((Only.refl _ _).setCell (.inl (by simp)) _).setCell (.inl (by simp)) _⟩
  have Fin := Lib.hid fin
  clear fin hb
  go_enter Try.func92, Try.ntmps92
  go_wp2_with fail
  refine wp_scope_once 0 rfl ?_
  go_wp2_with fail
  try go_step3
  refine And.intro rfl ?_
  show Code.wp _ _ _ _ _
  go_wp2_with fail
  try go_step3
  go_wp2_with fail
  try rw [Exit.noGoto_ret]
  go_ret
  exact ⟨rfl, Fin.out⟩

set_option maxHeartbeats 1000000 in
set_option maxRecDepth 100000 in
theorem itNext_down (w : World) (itb : Nat) (H : Hd) (c : Ctx) (i : Nat) (l : BT) (k v b : Int) (r : BT) (s : St rbL w H c (.node i l k v b r)) (hb : Blk w itb 76 (itC H.tb (some i) 1)) (hr : r ≠ .nil) :
    Calls Try.prog 92 #[.pointer (some ⟨itb, 0, none⟩)] w fun e w' => e = .returned (.bool r.lo.isSome) ∧ Blk w' itb 76 (itC H.tb r.lo (if r.lo.isSome then 1 else 2)) ∧ Only [itb] w w' := by
  have hc0 : w.cell? ⟨itb, 0, none⟩ = some (.pointer (some ⟨H.tb, 0, none⟩)) := hb.cell 0
  have hc1 : w.cell? ⟨itb, 1, none⟩ = some (.pointer (some ⟨i, 0, none⟩)) := hb.cell 1
  have hc2 : w.cell? ⟨itb, 2, none⟩ = some (.int .u8 1) := hb.cell 2
  have hf := hb.frozen
  obtain ⟨_, _, hl3, hr4⟩ := s.ht.1.cells_
  simp only [ptr] at hl3 hr4
  cases r with
  | nil => exact absurd rfl hr
  | node j jl jk jv jb jr =>
    have hB := Lib.hid hb
    have hS := Lib.hid s.downR
    clear hb s hr
    simp only [root_node, Option.map_some] at hr4
    generalize hT : BT.node j jl jk jv jb jr = T at *
    have HT := Lib.hid hT
    clear hT
    go_enter Try.func92, Try.ntmps92
    go_wp2_with fail
    refine wp_scope_once 1 rfl ?_
    go_wp2_with fail
    go_loopg [] (T.count + 1) (fun g wr => ∃ (c : Ctx) (i : Nat) (l : BT) (k v b : Int) (r : BT), Blk wr itb 76 (itC H.tb (some i) 1) ∧ Only [itb] w wr ∧ St rbL wr H c (.node i l k v b r) ∧ T.lo = (BT.node i l k v b r).lo ∧ l.count < g)
    case atStart =>
      have o1 : Only [itb] w (w.setCell ⟨itb, 1, none⟩ (.pointer (some ⟨j, 0, none⟩))) := (Only.refl _ _).setCell (.inl (by simp)) _
      have b1 := itSet hB.out (some j)
      refine ⟨.rf i l k v b :: c, j, jl, jk, jv, jb, jr, b1, o1, ?_, by rw [HT.out], by rw [← HT.out]; simp only [BT.count]; omega⟩
      have := itKeep hB.out hS.out o1
      rw [HT.out]; exact this
    case round =>
      clear hc0 hc1 hc2 hf hl3 hr4 hS HT hB
      obtain ⟨c, i, l, k, v, b, r, hb, ho, hst, he, hg⟩ := hrel
      have hc0 : wr.cell? ⟨itb, 0, none⟩ = some (.pointer (some ⟨H.tb, 0, none⟩)) := hb.cell 0
      have hc1 : wr.cell? ⟨itb, 1, none⟩ = some (.pointer (some ⟨i, 0, none⟩)) := hb.cell 1
      have hc2 : wr.cell? ⟨itb, 2, none⟩ = some (.int .u8 1) := hb.cell 2
      have hf := hb.frozen
      obtain ⟨_, _, hl3, hr4⟩ := hst.ht.1.cells_
      simp only [ptr] at hl3 hr4
      have HE := Lib.hid he
      have HO := Lib.hid ho
      have HB := Lib.hid hb
      clear he ho hb
      cases l with
      | nil =>
        have F := Lib.hid (show Blk (wr.setCell ⟨itb, 2, none⟩ (.int .u8 1)) itb 76 (itC H.tb (some i) 1) ∧ Only [itb] w (wr.setCell ⟨itb, 2, none⟩ (.int .u8 1)) from ⟨itPos HB.out 1, HO.out.setCell (.inl (by simp)) _⟩)
        simp only [BT.root, Option.map_none] at hl3
        clear hst HO HB
        go_wp2_with fail
        try go_step3
        refine And.intro rfl ?_
        show Code.wp _ _ _ _ _
        go_wp2_with fail
        try go_step3
        go_wp2_with fail
        try rw [Exit.noGoto_ret]
        go_ret
        have e1 : T.lo = some i := by rw [HE.out, BT.lo_nil]
        rw [e1]
        exact ⟨rfl, F.out⟩
      | node i' l' k' v' b' r' =>
        have o1 : Only [itb] wr (wr.setCell ⟨itb, 1, none⟩ (.pointer (some ⟨i', 0, none⟩))) := (Only.refl _ _).setCell (.inl (by simp)) _
        have F := Lib.hid (show Blk (wr.setCell ⟨itb, 1, none⟩ (.pointer (some ⟨i', 0, none⟩))) itb 76 (itC H.tb (some i') 1) ∧ Only [itb] w (wr.setCell ⟨itb, 1, none⟩ (.pointer (some ⟨i', 0, none⟩))) ∧ St rbL (wr.setCell ⟨itb, 1, none⟩ (.pointer (some ⟨i', 0, none⟩))) H _ _ from ⟨itSet HB.out (some i'), HO.out.trans o1, itKeep HB.out hst.downL o1⟩)
        simp only [root_node, Option.map_some] at hl3
        clear hst HO HB o1
        go_wp2_with fail
        go_roundg (l'.count + 1)
        case measure => simp only [BT.count] at hg; omega
        case rel => exact ⟨_, i', l', k', v', b', r', F.out.1, F.out.2.1, F.out.2.2, by rw [HE.out, BT.lo_node (by intro h; cases h)], by omega⟩

set_option maxHeartbeats 1000000 in
set_option maxRecDepth 100000 in
/-- Up: there is a node above. -/
theorem itNext_up (x : Nat) : ∀ (w : World) (itb : Nat) (H : Hd) (c : Ctx) (i : Nat) (l : BT) (k v b : Int) (r : BT) (_ : St rbL w H c (.node i l k v b r)) (_ : Blk w itb 76 (itC H.tb (some i) 1)) (_ : r = .nil) (_ : Ctx.upR c = some x),
    Calls Try.prog 92 #[.pointer (some ⟨itb, 0, none⟩)] w fun e w' => e = .returned (.bool true) ∧ Blk w' itb 76 (itC H.tb (some x) 1) ∧ Only [itb] w w' := by
  intro w itb H c i l k v b r s hb hr hx
  subst hr
  have hc0 : w.cell? ⟨itb, 0, none⟩ = some (.pointer (some ⟨H.tb, 0, none⟩)) := hb.cell 0
  have hc1 : w.cell? ⟨itb, 1, none⟩ = some (.pointer (some ⟨i, 0, none⟩)) := hb.cell 1
  have hc2 : w.cell? ⟨itb, 2, none⟩ = some (.int .u8 1) := hb.cell 2
  have hf := hb.frozen
  obtain ⟨_, _, hl3, hr4⟩ := s.ht.1.cells_
  simp only [BT.root, ptr, Option.map_none] at hr4
  have hB := Lib.hid hb
  have HX := Lib.hid hx
  generalize hT : BT.node i l k v b .nil = T at *
  have hS := Lib.hid s
  have HT := Lib.hid hT
  clear hb s hx hT
  go_enter Try.func92, Try.ntmps92
  go_wp2_with fail
  refine wp_scope_once 1 rfl ?_
  go_wp2_with fail
  go_loopg [] (c.length + 1) (fun g wr => ∃ (c' : Ctx) (t : BT) (i : Nat), t.root = some i ∧ Blk wr itb 76 (itC H.tb (some i) 1) ∧ Only [itb] w wr ∧ St rbL wr H c' t ∧ Ctx.upR c' = some x ∧ c'.length < g)
  case atStart => exact ⟨c, T, i, by rw [← HT.out]; rfl, hB.out, Only.refl _ _, hS.out, HX.out, by omega⟩
  case round =>
    clear hc0 hc1 hc2 hf hl3 hr4 hS HT hB HX
    obtain ⟨c, t, i, hi, hb, ho, hst, hx, hg⟩ := hrel
    have hc0 : wr.cell? ⟨itb, 0, none⟩ = some (.pointer (some ⟨H.tb, 0, none⟩)) := hb.cell 0
    have hc1 : wr.cell? ⟨itb, 1, none⟩ = some (.pointer (some ⟨i, 0, none⟩)) := hb.cell 1
    have hc2 : wr.cell? ⟨itb, 2, none⟩ = some (.int .u8 1) := hb.cell 2
    have hf := hb.frozen
    have HX := Lib.hid hx
    have HO := Lib.hid ho
    have HB := Lib.hid hb
    cases t with
    | nil => cases hi
    | node i0 l0 k0 v0 b0 r0 =>
      simp only [root_node, Option.some.injEq] at hi
      subst hi
      have i5 : wr.cell? ⟨i0, 5, none⟩ = some (ptr c.par) := hst.ht.1.cellP
      cases c with
      | nil => cases hx
      | cons f c =>
        have o1 : Only [itb] wr (wr.setCell ⟨itb, 1, none⟩ (.pointer (some ⟨f.id, 0, none⟩))) := (Only.refl _ _).setCell (.inl (by simp)) _
        have b1 := itSet HB.out (some f.id)
        have s1 := itKeep HB.out hst o1
        have ib := itOff HB.out hst
        have hni : ¬ i0 = itb := fun e => ib (by simp [allIds, BT.ids, e])
        have hnf : ¬ f.id = itb := fun e => ib (by cases f <;> simp [allIds, Ctx.ids, Fr.ids, Fr.id] at e ⊢ <;> simp [e])
        simp only [Ctx.par, ptr, Option.map_some] at i5
        cases f with
        | lf p k v b u =>
          simp only [Fr.id] at *
          simp only [Ctx.upR, Option.some.injEq] at hx
          subst hx
          have q3 : (wr.setCell ⟨itb, 1, none⟩ (.pointer (some ⟨p, 0, none⟩))).cell? ⟨p, 3, none⟩ = some (.pointer (some ⟨i0, 0, none⟩)) := (Nd.cells_ s1.upL.ht.1).2.2.1
          have qs := rbPtr_same
          have n1 : (wr.setCell ⟨itb, 1, none⟩ (.pointer (some ⟨p, 0, none⟩))).cell? ⟨itb, 1, none⟩ = some (.pointer (some ⟨p, 0, none⟩)) := b1.cell 1
          have n2 : (wr.setCell ⟨itb, 1, none⟩ (.pointer (some ⟨p, 0, none⟩))).cell? ⟨itb, 2, none⟩ = some (.int .u8 1) := b1.cell 2
          have nf := b1.frozen
          have F := Lib.hid (show Blk ((wr.setCell ⟨itb, 1, none⟩ (.pointer (some ⟨p, 0, none⟩))).setCell ⟨itb, 2, none⟩ (.int .u8 1)) itb 76 (itC H.tb (some p) 1) ∧ Only [itb] w ((wr.setCell ⟨itb, 1, none⟩ (.pointer (some ⟨p, 0, none⟩))).setCell ⟨itb, 2, none⟩ (.int .u8 1)) from ⟨itPos b1 1, (HO.out.trans o1).setCell (.inl (by simp)) _⟩)
          clear hst hb ho HO HB o1 b1 s1 ib HX
          go_wp2_with fail
          try go_step3
          refine And.intro rfl ?_
          show Code.wp _ _ _ _ _
          go_wp2_with fail
          try go_step3
          go_wp2_with fail
          try rw [Exit.noGoto_ret]
          go_ret
          exact ⟨rfl, F.out⟩
        | rf p u k v b =>
          simp only [Fr.id] at *
          have hx' : Ctx.upR c = some x := hx
          have q3 : (wr.setCell ⟨itb, 1, none⟩ (.pointer (some ⟨p, 0, none⟩))).cell? ⟨p, 3, none⟩ = some (ptr u.root) := (Nd.cells_ s1.upR.ht.1).2.2.1
          have hn := s1.upR.ndt
          simp only [BT.ids, List.nodup_cons, List.nodup_append, List.mem_append, List.mem_cons] at hn
          have qn := rbPtr_root s1.ht.1 s1.upR.ht.2.1 (by grind)
          have n1 : (wr.setCell ⟨itb, 1, none⟩ (.pointer (some ⟨p, 0, none⟩))).cell? ⟨itb, 1, none⟩ = some (.pointer (some ⟨p, 0, none⟩)) := b1.cell 1
          have n2 : (wr.setCell ⟨itb, 1, none⟩ (.pointer (some ⟨p, 0, none⟩))).cell? ⟨itb, 2, none⟩ = some (.int .u8 1) := b1.cell 2
          simp only [ptr] at q3 qn
          have nf := b1.frozen
          have F := Lib.hid (show Blk (wr.setCell ⟨itb, 1, none⟩ (.pointer (some ⟨p, 0, none⟩))) itb 76 (itC H.tb (some p) 1) ∧ Only [itb] w (wr.setCell ⟨itb, 1, none⟩ (.pointer (some ⟨p, 0, none⟩))) ∧ St rbL (wr.setCell ⟨itb, 1, none⟩ (.pointer (some ⟨p, 0, none⟩))) H _ _ from ⟨b1, HO.out.trans o1, s1.upR⟩)
          generalize Value.pointer (u.root.map (fun n => (⟨n, 0, none⟩ : Addr))) = yu at *
          clear hst hb ho HO HB o1 b1 s1 ib HX hn hx
          go_wp2_with fail
          go_roundg (c.length + 1)
          case measure => simp only [List.length_cons] at hg; omega
          case rel => exact ⟨c, _, p, rfl, F.out.1, F.out.2.1, F.out.2.2, hx', by omega⟩

set_option maxHeartbeats 1000000 in
set_option maxRecDepth 100000 in
/-- Up: there is none above. -/
theorem itNext_out (w : World) (itb : Nat) (H : Hd) (c : Ctx) (i : Nat) (l : BT) (k v b : Int) (r : BT) (s : St rbL w H c (.node i l k v b r)) (hb : Blk w itb 76 (itC H.tb (some i) 1)) (hr : r = .nil) (hx : Ctx.upR c = none) :
    Calls Try.prog 92 #[.pointer (some ⟨itb, 0, none⟩)] w fun e w' => e = .returned (.bool false) ∧ Blk w' itb 76 (itC H.tb none 2) ∧ Only [itb] w w' := by
  subst hr
  have hc0 : w.cell? ⟨itb, 0, none⟩ = some (.pointer (some ⟨H.tb, 0, none⟩)) := hb.cell 0
  have hc1 : w.cell? ⟨itb, 1, none⟩ = some (.pointer (some ⟨i, 0, none⟩)) := hb.cell 1
  have hc2 : w.cell? ⟨itb, 2, none⟩ = some (.int .u8 1) := hb.cell 2
  have hf := hb.frozen
  obtain ⟨_, _, hl3, hr4⟩ := s.ht.1.cells_
  simp only [BT.root, ptr, Option.map_none] at hr4
  have hB := Lib.hid hb
  have HX := Lib.hid hx
  generalize hT : BT.node i l k v b .nil = T at *
  have hS := Lib.hid s
  have HT := Lib.hid hT
  clear hb s hx hT
  go_enter Try.func92, Try.ntmps92
  go_wp2_with fail
  go_step3
  go_wp2_with fail
  go_loopg [] (c.length + 1) (fun g wr => ∃ (c' : Ctx) (t : BT) (i : Nat), t.root = some i ∧ Blk wr itb 76 (itC H.tb (some i) 1) ∧ Only [itb] w wr ∧ St rbL wr H c' t ∧ Ctx.upR c' = none ∧ c'.length < g)
  case atStart => exact ⟨c, T, i, by rw [← HT.out]; rfl, hB.out, Only.refl _ _, hS.out, HX.out, by omega⟩
  case round =>
    clear hc0 hc1 hc2 hf hl3 hr4 hS HT hB HX
    obtain ⟨c, t, i, hi, hb, ho, hst, hx, hg⟩ := hrel
    have hc0 : wr.cell? ⟨itb, 0, none⟩ = some (.pointer (some ⟨H.tb, 0, none⟩)) := hb.cell 0
    have hc1 : wr.cell? ⟨itb, 1, none⟩ = some (.pointer (some ⟨i, 0, none⟩)) := hb.cell 1
    have hc2 : wr.cell? ⟨itb, 2, none⟩ = some (.int .u8 1) := hb.cell 2
    have hf := hb.frozen
    have HO := Lib.hid ho
    have HB := Lib.hid hb
    cases t with
    | nil => cases hi
    | node i0 l0 k0 v0 b0 r0 =>
      simp only [root_node, Option.some.injEq] at hi
      subst hi
      have i5 : wr.cell? ⟨i0, 5, none⟩ = some (ptr c.par) := hst.ht.1.cellP
      cases c with
      | nil =>
        have F := Lib.hid (show Blk ((wr.setCell ⟨itb, 1, none⟩ (.pointer none)).setCell ⟨itb, 2, none⟩ (.int .u8 2)) itb 76 (itC H.tb none 2) ∧ Only [itb] w ((wr.setCell ⟨itb, 1, none⟩ (.pointer none)).setCell ⟨itb, 2, none⟩ (.int .u8 2)) from ⟨itPos (itSet HB.out none) 2, (HO.out.setCell (.inl (by simp)) _).setCell (.inl (by simp)) _⟩)
        simp only [Ctx.par, ptr, Option.map_none] at i5
        clear hst hb ho HO HB hx
        go_wp2_with fail
        try go_step3
        go_wp2_with fail
        try rw [Exit.noGoto_ret]
        go_ret
        exact ⟨rfl, F.out⟩
      | cons f c =>
        have o1 : Only [itb] wr (wr.setCell ⟨itb, 1, none⟩ (.pointer (some ⟨f.id, 0, none⟩))) := (Only.refl _ _).setCell (.inl (by simp)) _
        have b1 := itSet HB.out (some f.id)
        have s1 := itKeep HB.out hst o1
        have ib := itOff HB.out hst
        have hni : ¬ i0 = itb := fun e => ib (by simp [allIds, BT.ids, e])
        have hnf : ¬ f.id = itb := fun e => ib (by cases f <;> simp [allIds, Ctx.ids, Fr.ids, Fr.id] at e ⊢ <;> simp [e])
        simp only [Ctx.par, ptr, Option.map_some] at i5
        cases f with
        | lf p k v b u => simp [Ctx.upR] at hx
        | rf p u k v b =>
          simp only [Fr.id] at *
          have hx' : Ctx.upR c = none := hx
          have q3 : (wr.setCell ⟨itb, 1, none⟩ (.pointer (some ⟨p, 0, none⟩))).cell? ⟨p, 3, none⟩ = some (ptr u.root) := (Nd.cells_ s1.upR.ht.1).2.2.1
          have hn := s1.upR.ndt
          simp only [BT.ids, List.nodup_cons, List.nodup_append, List.mem_append, List.mem_cons] at hn
          have qn := rbPtr_root s1.ht.1 s1.upR.ht.2.1 (by grind)
          have n1 : (wr.setCell ⟨itb, 1, none⟩ (.pointer (some ⟨p, 0, none⟩))).cell? ⟨itb, 1, none⟩ = some (.pointer (some ⟨p, 0, none⟩)) := b1.cell 1
          have n2 : (wr.setCell ⟨itb, 1, none⟩ (.pointer (some ⟨p, 0, none⟩))).cell? ⟨itb, 2, none⟩ = some (.int .u8 1) := b1.cell 2
          simp only [ptr] at q3 qn
          have nf := b1.frozen
          have F := Lib.hid (show Blk (wr.setCell ⟨itb, 1, none⟩ (.pointer (some ⟨p, 0, none⟩))) itb 76 (itC H.tb (some p) 1) ∧ Only [itb] w (wr.setCell ⟨itb, 1, none⟩ (.pointer (some ⟨p, 0, none⟩))) ∧ St rbL (wr.setCell ⟨itb, 1, none⟩ (.pointer (some ⟨p, 0, none⟩))) H _ _ from ⟨b1, HO.out.trans o1, s1.upR⟩)
          generalize Value.pointer (u.root.map (fun n => (⟨n, 0, none⟩ : Addr))) = yu at *
          clear hst hb ho HO HB o1 b1 s1 ib hn hx
          go_wp2_with fail
          go_roundg (c.length + 1)
          case measure => simp only [List.length_cons] at hg; omega
          case rel => exact ⟨c, _, p, rfl, F.out.1, F.out.2.1, F.out.2.2, hx', by omega⟩

theorem itNext_on (w : World) (itb : Nat) (H : Hd) (c : Ctx) (i : Nat) (l : BT) (k v b : Int) (r : BT) (s : St rbL w H c (.node i l k v b r)) (hb : Blk w itb 76 (itC H.tb (some i) 1)) :
    Calls Try.prog 92 #[.pointer (some ⟨itb, 0, none⟩)] w fun e w' => e = .returned (.bool (nextId c r).isSome) ∧ Blk w' itb 76 (itC H.tb (nextId c r) (if (nextId c r).isSome then 1 else 2)) ∧ Only [itb] w w' := by
  by_cases hr : r = .nil
  · have e : nextId c r = Ctx.upR c := by subst hr; rfl
    rw [e]
    cases hx : Ctx.upR c with
    | none => exact itNext_out w itb H c i l k v b r s hb hr hx
    | some x => exact itNext_up x w itb H c i l k v b r s hb hr hx
  · have e : nextId c r = r.lo := by cases r with | nil => exact absurd rfl hr | node => rfl
    rw [e]
    exact itNext_down w itb H c i l k v b r s hb hr

theorem itPrev_start (w : World) (itb : Nat) (H : Hd) (t : BT) (s : St rbL w H [] t) (hb : Blk w itb 76 (itC H.tb none 2)) :
    Calls Try.prog 121 #[.pointer (some ⟨itb, 0, none⟩)] w fun e w' => e = .returned (.bool t.hi.isSome) ∧ Blk w' itb 76 (itC H.tb t.hi (if t.hi.isSome then 1 else 0)) ∧ Only [itb] w w' := by
  have c := rbRight_walk w H t s
  have hc0 : w.cell? ⟨itb, 0, none⟩ = some (.pointer (some ⟨H.tb, 0, none⟩)) := hb.cell 0
  have hc1 : w.cell? ⟨itb, 1, none⟩ = some (.pointer none) := hb.cell 1
  have hc2 : w.cell? ⟨itb, 2, none⟩ = some (.int .u8 2) := hb.cell 2
  have hf := hb.frozen
  cases hx : t.hi with
  | none =>
    rw [hx] at c
    simp only [ptr, Option.map_none] at c
    have C := Lib.hid c
    have fin : Blk ((w.setCell ⟨itb, 1, none⟩ (.pointer none)).setCell ⟨itb, 2, none⟩ (.int .u8 0)) itb 76 (itC H.tb none (if (none : Option Nat).isSome then 1 else 0)) ∧ Only [itb] w ((w.setCell ⟨itb, 1, none⟩ (.pointer none)).setCell ⟨itb, 2, none⟩ (.int .u8 0)) :=
      ⟨itPos (itSet hb none) 0, ((Only.refl _ _).setCell (.inl (by simp)) _).setCell (.inl (by simp)) _⟩
    have Fin := Lib.hid fin
    clear fin s hb c hx
    go_enter Try.func121, Try.ntmps121
    go_wp2_with fail
    refine wp_scope_once 0 rfl ?_
    go_wp2_with fail
    refine C.out.mono ?_
    rintro e w' ⟨rfl, rfl⟩
    clear C
    go_wp2_with fail
    try go_step3
    refine And.intro rfl ?_
    show Code.wp _ _ _ _ _
    go_wp2_with fail
    try go_step3
    go_wp2_with fail
    try rw [Exit.noGoto_ret]
    go_ret
    exact ⟨rfl, Fin.out⟩
  | some j =>
    rw [hx] at c
    simp only [ptr, Option.map_some] at c
    have C := Lib.hid c
    have fin : Blk ((w.setCell ⟨itb, 1, none⟩ (.pointer (some ⟨j, 0, none⟩))).setCell ⟨itb, 2, none⟩ (.int .u8 1)) itb 76 (itC H.tb (some j) (if (some j : Option Nat).isSome then 1 else 0)) ∧ Only [itb] w ((w.setCell ⟨itb, 1, none⟩ (.pointer (some ⟨j, 0, none⟩))).setCell ⟨itb, 2, none⟩ (.int .u8 1)) :=
      ⟨itPos (itSet hb (some j)) 1, ((Only.refl _ _).setCell (.inl (by simp)) _).setCell (.inl (by simp)) _⟩
    have Fin := Lib.hid fin
    clear fin s hb c hx
    go_enter Try.func121, Try.ntmps121
    go_wp2_with fail
    refine wp_scope_once 1 rfl ?_
    go_wp2_with fail
    refine C.out.mono ?_
    rintro e w' ⟨rfl, rfl⟩
    clear C
    go_wp2_with fail
    try go_step3
    refine And.intro rfl ?_
    show Code.wp _ _ _ _ _
    go_wp2_with fail
    try go_step3
    go_wp2_with fail
    try rw [Exit.noGoto_ret]
    go_ret
    exact ⟨rfl, Fin.out⟩
theorem itPrev_end (w : World) (itb : Nat) (H : Hd) (hb : Blk w itb 76 (itC H.tb none 0)) :
    Calls Try.prog 121 #[.pointer (some ⟨itb, 0, none⟩)] w fun e w' => e = .returned (.bool false) ∧ Blk w' itb 76 (itC H.tb none 0) ∧ Only [itb] w w' := by
  have hc0 : w.cell? ⟨itb, 0, none⟩ = some (.pointer (some ⟨H.tb, 0, none⟩)) := hb.cell 0
  have hc1 : w.cell? ⟨itb, 1, none⟩ = some (.pointer none) := hb.cell 1
  have hc2 : w.cell? ⟨itb, 2, none⟩ = some (.int .u8 0) := hb.cell 2
  have hf := hb.frozen
  have fin : Blk ((w.setCell ⟨itb, 1, none⟩ (.pointer none)).setCell ⟨itb, 2, none⟩ (.int .u8 0)) itb 76 (itC H.tb none 0) ∧ Only [itb] w ((w.setCell ⟨itb, 1, none⟩ (.pointer none)).setCell ⟨itb, 2, none⟩ (.int .u8 0)) :=
    ⟨itPos (itSet hb none) 0, ((Only.refl _ _).setCell (.inl (by simp)) _).setCell (.inl (by simp)) _⟩
  have Fin := Lib.hid fin
  clear fin hb
  go_enter Try.func121, Try.ntmps121
  go_wp2_with fail
  refine wp_scope_once 0 rfl ?_
  go_wp2_with fail
  try go_step3
  refine And.intro rfl ?_
  show Code.wp _ _ _ _ _
  go_wp2_with fail
  try go_step3
  go_wp2_with fail
  try rw [Exit.noGoto_ret]
  go_ret
  exact ⟨rfl, Fin.out⟩

set_option maxHeartbeats 1000000 in
set_option maxRecDepth 100000 in
theorem itPrev_down (w : World) (itb : Nat) (H : Hd) (c : Ctx) (i : Nat) (l : BT) (k v b : Int) (r : BT) (s : St rbL w H c (.node i l k v b r)) (hb : Blk w itb 76 (itC H.tb (some i) 1)) (hr : l ≠ .nil) :
    Calls Try.prog 121 #[.pointer (some ⟨itb, 0, none⟩)] w fun e w' => e = .returned (.bool l.hi.isSome) ∧ Blk w' itb 76 (itC H.tb l.hi (if l.hi.isSome then 1 else 0)) ∧ Only [itb] w w' := by
  have hc0 : w.cell? ⟨itb, 0, none⟩ = some (.pointer (some ⟨H.tb, 0, none⟩)) := hb.cell 0
  have hc1 : w.cell? ⟨itb, 1, none⟩ = some (.pointer (some ⟨i, 0, none⟩)) := hb.cell 1
  have hc2 : w.cell? ⟨itb, 2, none⟩ = some (.int .u8 1) := hb.cell 2
  have hf := hb.frozen
  obtain ⟨_, _, hl3, hr4⟩ := s.ht.1.cells_
  simp only [ptr] at hl3 hr4
  cases l with
  | nil => exact absurd rfl hr
  | node j jl jk jv jb jr =>
    have hB := Lib.hid hb
    have hS := Lib.hid s.downL
    clear hb s hr
    simp only [root_node, Option.map_some] at hl3
    generalize hT : BT.node j jl jk jv jb jr = T at *
    have HT := Lib.hid hT
    clear hT
    go_enter Try.func121, Try.ntmps121
    go_wp2_with fail
    refine wp_scope_once 1 rfl ?_
    go_wp2_with fail
    go_loopg [] (T.count + 1) (fun g wr => ∃ (c : Ctx) (i : Nat) (l : BT) (k v b : Int) (r : BT), Blk wr itb 76 (itC H.tb (some i) 1) ∧ Only [itb] w wr ∧ St rbL wr H c (.node i l k v b r) ∧ T.hi = (BT.node i l k v b r).hi ∧ r.count < g)
    case atStart =>
      have o1 : Only [itb] w (w.setCell ⟨itb, 1, none⟩ (.pointer (some ⟨j, 0, none⟩))) := (Only.refl _ _).setCell (.inl (by simp)) _
      have b1 := itSet hB.out (some j)
      refine ⟨.lf i k v b r :: c, j, jl, jk, jv, jb, jr, b1, o1, ?_, by rw [HT.out], by rw [← HT.out]; simp only [BT.count]; omega⟩
      have := itKeep hB.out hS.out o1
      rw [HT.out]; exact this
    case round =>
      clear hc0 hc1 hc2 hf hl3 hr4 hS HT hB
      obtain ⟨c, i, l, k, v, b, r, hb, ho, hst, he, hg⟩ := hrel
      have hc0 : wr.cell? ⟨itb, 0, none⟩ = some (.pointer (some ⟨H.tb, 0, none⟩)) := hb.cell 0
      have hc1 : wr.cell? ⟨itb, 1, none⟩ = some (.pointer (some ⟨i, 0, none⟩)) := hb.cell 1
      have hc2 : wr.cell? ⟨itb, 2, none⟩ = some (.int .u8 1) := hb.cell 2
      have hf := hb.frozen
      obtain ⟨_, _, hl3, hr4⟩ := hst.ht.1.cells_
      simp only [ptr] at hl3 hr4
      have HE := Lib.hid he
      have HO := Lib.hid ho
      have HB := Lib.hid hb
      clear he ho hb
      cases r with
      | nil =>
        have F := Lib.hid (show Blk (wr.setCell ⟨itb, 2, none⟩ (.int .u8 1)) itb 76 (itC H.tb (some i) 1) ∧ Only [itb] w (wr.setCell ⟨itb, 2, none⟩ (.int .u8 1)) from ⟨itPos HB.out 1, HO.out.setCell (.inl (by simp)) _⟩)
        simp only [BT.root, Option.map_none] at hr4
        clear hst HO HB
        go_wp2_with fail
        try go_step3
        refine And.intro rfl ?_
        show Code.wp _ _ _ _ _
        go_wp2_with fail
        try go_step3
        go_wp2_with fail
        try rw [Exit.noGoto_ret]
        go_ret
        have e1 : T.hi = some i := by rw [HE.out, BT.hi_nil]
        rw [e1]
        exact ⟨rfl, F.out⟩
      | node i' l' k' v' b' r' =>
        have o1 : Only [itb] wr (wr.setCell ⟨itb, 1, none⟩ (.pointer (some ⟨i', 0, none⟩))) := (Only.refl _ _).setCell (.inl (by simp)) _
        have F := Lib.hid (show Blk (wr.setCell ⟨itb, 1, none⟩ (.pointer (some ⟨i', 0, none⟩))) itb 76 (itC H.tb (some i') 1) ∧ Only [itb] w (wr.setCell ⟨itb, 1, none⟩ (.pointer (some ⟨i', 0, none⟩))) ∧ St rbL (wr.setCell ⟨itb, 1, none⟩ (.pointer (some ⟨i', 0, none⟩))) H _ _ from ⟨itSet HB.out (some i'), HO.out.trans o1, itKeep HB.out hst.downR o1⟩)
        simp only [root_node, Option.map_some] at hr4
        clear hst HO HB o1
        go_wp2_with fail
        go_roundg (r'.count + 1)
        case measure => simp only [BT.count] at hg; omega
        case rel => exact ⟨_, i', l', k', v', b', r', F.out.1, F.out.2.1, F.out.2.2, by rw [HE.out, BT.hi_node (by intro h; cases h)], by omega⟩

set_option maxHeartbeats 1000000 in
set_option maxRecDepth 100000 in
/-- Up: there is a node above. -/
theorem itPrev_up (x : Nat) : ∀ (w : World) (itb : Nat) (H : Hd) (c : Ctx) (i : Nat) (l : BT) (k v b : Int) (r : BT) (_ : St rbL w H c (.node i l k v b r)) (_ : Blk w itb 76 (itC H.tb (some i) 1)) (_ : l = .nil) (_ : Ctx.upL c = some x),
    Calls Try.prog 121 #[.pointer (some ⟨itb, 0, none⟩)] w fun e w' => e = .returned (.bool true) ∧ Blk w' itb 76 (itC H.tb (some x) 1) ∧ Only [itb] w w' := by
  intro w itb H c i l k v b r s hb hr hx
  subst hr
  have hc0 : w.cell? ⟨itb, 0, none⟩ = some (.pointer (some ⟨H.tb, 0, none⟩)) := hb.cell 0
  have hc1 : w.cell? ⟨itb, 1, none⟩ = some (.pointer (some ⟨i, 0, none⟩)) := hb.cell 1
  have hc2 : w.cell? ⟨itb, 2, none⟩ = some (.int .u8 1) := hb.cell 2
  have hf := hb.frozen
  obtain ⟨_, _, hl3, hr4⟩ := s.ht.1.cells_
  simp only [BT.root, ptr, Option.map_none] at hl3
  have hB := Lib.hid hb
  have HX := Lib.hid hx
  generalize hT : BT.node i .nil k v b r = T at *
  have hS := Lib.hid s
  have HT := Lib.hid hT
  clear hb s hx hT
  go_enter Try.func121, Try.ntmps121
  go_wp2_with fail
  refine wp_scope_once 1 rfl ?_
  go_wp2_with fail
  go_loopg [] (c.length + 1) (fun g wr => ∃ (c' : Ctx) (t : BT) (i : Nat), t.root = some i ∧ Blk wr itb 76 (itC H.tb (some i) 1) ∧ Only [itb] w wr ∧ St rbL wr H c' t ∧ Ctx.upL c' = some x ∧ c'.length < g)
  case atStart => exact ⟨c, T, i, by rw [← HT.out]; rfl, hB.out, Only.refl _ _, hS.out, HX.out, by omega⟩
  case round =>
    clear hc0 hc1 hc2 hf hl3 hr4 hS HT hB HX
    obtain ⟨c, t, i, hi, hb, ho, hst, hx, hg⟩ := hrel
    have hc0 : wr.cell? ⟨itb, 0, none⟩ = some (.pointer (some ⟨H.tb, 0, none⟩)) := hb.cell 0
    have hc1 : wr.cell? ⟨itb, 1, none⟩ = some (.pointer (some ⟨i, 0, none⟩)) := hb.cell 1
    have hc2 : wr.cell? ⟨itb, 2, none⟩ = some (.int .u8 1) := hb.cell 2
    have hf := hb.frozen
    have HX := Lib.hid hx
    have HO := Lib.hid ho
    have HB := Lib.hid hb
    cases t with
    | nil => cases hi
    | node i0 l0 k0 v0 b0 r0 =>
      simp only [root_node, Option.some.injEq] at hi
      subst hi
      have i5 : wr.cell? ⟨i0, 5, none⟩ = some (ptr c.par) := hst.ht.1.cellP
      cases c with
      | nil => cases hx
      | cons f c =>
        have o1 : Only [itb] wr (wr.setCell ⟨itb, 1, none⟩ (.pointer (some ⟨f.id, 0, none⟩))) := (Only.refl _ _).setCell (.inl (by simp)) _
        have b1 := itSet HB.out (some f.id)
        have s1 := itKeep HB.out hst o1
        have ib := itOff HB.out hst
        have hni : ¬ i0 = itb := fun e => ib (by simp [allIds, BT.ids, e])
        have hnf : ¬ f.id = itb := fun e => ib (by cases f <;> simp [allIds, Ctx.ids, Fr.ids, Fr.id] at e ⊢ <;> simp [e])
        simp only [Ctx.par, ptr, Option.map_some] at i5
        cases f with
        | rf p u k v b =>
          simp only [Fr.id] at *
          simp only [Ctx.upL, Option.some.injEq] at hx
          subst hx
          have q3 : (wr.setCell ⟨itb, 1, none⟩ (.pointer (some ⟨p, 0, none⟩))).cell? ⟨p, 4, none⟩ = some (.pointer (some ⟨i0, 0, none⟩)) := (Nd.cells_ s1.upR.ht.1).2.2.2
          have qs := rbPtr_same
          have n1 : (wr.setCell ⟨itb, 1, none⟩ (.pointer (some ⟨p, 0, none⟩))).cell? ⟨itb, 1, none⟩ = some (.pointer (some ⟨p, 0, none⟩)) := b1.cell 1
          have n2 : (wr.setCell ⟨itb, 1, none⟩ (.pointer (some ⟨p, 0, none⟩))).cell? ⟨itb, 2, none⟩ = some (.int .u8 1) := b1.cell 2
          have nf := b1.frozen
          have F := Lib.hid (show Blk ((wr.setCell ⟨itb, 1, none⟩ (.pointer (some ⟨p, 0, none⟩))).setCell ⟨itb, 2, none⟩ (.int .u8 1)) itb 76 (itC H.tb (some p) 1) ∧ Only [itb] w ((wr.setCell ⟨itb, 1, none⟩ (.pointer (some ⟨p, 0, none⟩))).setCell ⟨itb, 2, none⟩ (.int .u8 1)) from ⟨itPos b1 1, (HO.out.trans o1).setCell (.inl (by simp)) _⟩)
          clear hst hb ho HO HB o1 b1 s1 ib HX
          go_wp2_with fail
          try go_step3
          refine And.intro rfl ?_
          show Code.wp _ _ _ _ _
          go_wp2_with fail
          try go_step3
          go_wp2_with fail
          try rw [Exit.noGoto_ret]
          go_ret
          exact ⟨rfl, F.out⟩
        | lf p k v b u =>
          simp only [Fr.id] at *
          have hx' : Ctx.upL c = some x := hx
          have q3 : (wr.setCell ⟨itb, 1, none⟩ (.pointer (some ⟨p, 0, none⟩))).cell? ⟨p, 4, none⟩ = some (ptr u.root) := (Nd.cells_ s1.upL.ht.1).2.2.2
          have hn := s1.upL.ndt
          simp only [BT.ids, List.nodup_cons, List.nodup_append, List.mem_append, List.mem_cons] at hn
          have qn := rbPtr_root s1.ht.1 s1.upL.ht.2.2 (by grind)
          have n1 : (wr.setCell ⟨itb, 1, none⟩ (.pointer (some ⟨p, 0, none⟩))).cell? ⟨itb, 1, none⟩ = some (.pointer (some ⟨p, 0, none⟩)) := b1.cell 1
          have n2 : (wr.setCell ⟨itb, 1, none⟩ (.pointer (some ⟨p, 0, none⟩))).cell? ⟨itb, 2, none⟩ = some (.int .u8 1) := b1.cell 2
          simp only [ptr] at q3 qn
          have nf := b1.frozen
          have F := Lib.hid (show Blk (wr.setCell ⟨itb, 1, none⟩ (.pointer (some ⟨p, 0, none⟩))) itb 76 (itC H.tb (some p) 1) ∧ Only [itb] w (wr.setCell ⟨itb, 1, none⟩ (.pointer (some ⟨p, 0, none⟩))) ∧ St rbL (wr.setCell ⟨itb, 1, none⟩ (.pointer (some ⟨p, 0, none⟩))) H _ _ from ⟨b1, HO.out.trans o1, s1.upL⟩)
          generalize Value.pointer (u.root.map (fun n => (⟨n, 0, none⟩ : Addr))) = yu at *
          clear hst hb ho HO HB o1 b1 s1 ib HX hn hx
          go_wp2_with fail
          go_roundg (c.length + 1)
          case measure => simp only [List.length_cons] at hg; omega
          case rel => exact ⟨c, _, p, rfl, F.out.1, F.out.2.1, F.out.2.2, hx', by omega⟩

set_option maxHeartbeats 1000000 in
set_option maxRecDepth 100000 in
/-- Up: there is none above. -/
theorem itPrev_out (w : World) (itb : Nat) (H : Hd) (c : Ctx) (i : Nat) (l : BT) (k v b : Int) (r : BT) (s : St rbL w H c (.node i l k v b r)) (hb : Blk w itb 76 (itC H.tb (some i) 1)) (hr : l = .nil) (hx : Ctx.upL c = none) :
    Calls Try.prog 121 #[.pointer (some ⟨itb, 0, none⟩)] w fun e w' => e = .returned (.bool false) ∧ Blk w' itb 76 (itC H.tb none 0) ∧ Only [itb] w w' := by
  subst hr
  have hc0 : w.cell? ⟨itb, 0, none⟩ = some (.pointer (some ⟨H.tb, 0, none⟩)) := hb.cell 0
  have hc1 : w.cell? ⟨itb, 1, none⟩ = some (.pointer (some ⟨i, 0, none⟩)) := hb.cell 1
  have hc2 : w.cell? ⟨itb, 2, none⟩ = some (.int .u8 1) := hb.cell 2
  have hf := hb.frozen
  obtain ⟨_, _, hl3, hr4⟩ := s.ht.1.cells_
  simp only [BT.root, ptr, Option.map_none] at hl3
  have hB := Lib.hid hb
  have HX := Lib.hid hx
  generalize hT : BT.node i .nil k v b r = T at *
  have hS := Lib.hid s
  have HT := Lib.hid hT
  clear hb s hx hT
  go_enter Try.func121, Try.ntmps121
  go_wp2_with fail
  go_step3
  go_wp2_with fail
  go_loopg [] (c.length + 1) (fun g wr => ∃ (c' : Ctx) (t : BT) (i : Nat), t.root = some i ∧ Blk wr itb 76 (itC H.tb (some i) 1) ∧ Only [itb] w wr ∧ St rbL wr H c' t ∧ Ctx.upL c' = none ∧ c'.length < g)
  case atStart => exact ⟨c, T, i, by rw [← HT.out]; rfl, hB.out, Only.refl _ _, hS.out, HX.out, by omega⟩
  case round =>
    clear hc0 hc1 hc2 hf hl3 hr4 hS HT hB HX
    obtain ⟨c, t, i, hi, hb, ho, hst, hx, hg⟩ := hrel
    have hc0 : wr.cell? ⟨itb, 0, none⟩ = some (.pointer (some ⟨H.tb, 0, none⟩)) := hb.cell 0
    have hc1 : wr.cell? ⟨itb, 1, none⟩ = some (.pointer (some ⟨i, 0, none⟩)) := hb.cell 1
    have hc2 : wr.cell? ⟨itb, 2, none⟩ = some (.int .u8 1) := hb.cell 2
    have hf := hb.frozen
    have HO := Lib.hid ho
    have HB := Lib.hid hb
    cases t with
    | nil => cases hi
    | node i0 l0 k0 v0 b0 r0 =>
      simp only [root_node, Option.some.injEq] at hi
      subst hi
      have i5 : wr.cell? ⟨i0, 5, none⟩ = some (ptr c.par) := hst.ht.1.cellP
      cases c with
      | nil =>
        have F := Lib.hid (show Blk ((wr.setCell ⟨itb, 1, none⟩ (.pointer none)).setCell ⟨itb, 2, none⟩ (.int .u8 0)) itb 76 (itC H.tb none 0) ∧ Only [itb] w ((wr.setCell ⟨itb, 1, none⟩ (.pointer none)).setCell ⟨itb, 2, none⟩ (.int .u8 0)) from ⟨itPos (itSet HB.out none) 0, (HO.out.setCell (.inl (by simp)) _).setCell (.inl (by simp)) _⟩)
        simp only [Ctx.par, ptr, Option.map_none] at i5
        clear hst hb ho HO HB hx
        go_wp2_with fail
        try go_step3
        go_wp2_with fail
        try rw [Exit.noGoto_ret]
        go_ret
        exact ⟨rfl, F.out⟩
      | cons f c =>
        have o1 : Only [itb] wr (wr.setCell ⟨itb, 1, none⟩ (.pointer (some ⟨f.id, 0, none⟩))) := (Only.refl _ _).setCell (.inl (by simp)) _
        have b1 := itSet HB.out (some f.id)
        have s1 := itKeep HB.out hst o1
        have ib := itOff HB.out hst
        have hni : ¬ i0 = itb := fun e => ib (by simp [allIds, BT.ids, e])
        have hnf : ¬ f.id = itb := fun e => ib (by cases f <;> simp [allIds, Ctx.ids, Fr.ids, Fr.id] at e ⊢ <;> simp [e])
        simp only [Ctx.par, ptr, Option.map_some] at i5
        cases f with
        | rf p u k v b => simp [Ctx.upL] at hx
        | lf p k v b u =>
          simp only [Fr.id] at *
          have hx' : Ctx.upL c = none := hx
          have q3 : (wr.setCell ⟨itb, 1, none⟩ (.pointer (some ⟨p, 0, none⟩))).cell? ⟨p, 4, none⟩ = some (ptr u.root) := (Nd.cells_ s1.upL.ht.1).2.2.2
          have hn := s1.upL.ndt
          simp only [BT.ids, List.nodup_cons, List.nodup_append, List.mem_append, List.mem_cons] at hn
          have qn := rbPtr_root s1.ht.1 s1.upL.ht.2.2 (by grind)
          have n1 : (wr.setCell ⟨itb, 1, none⟩ (.pointer (some ⟨p, 0, none⟩))).cell? ⟨itb, 1, none⟩ = some (.pointer (some ⟨p, 0, none⟩)) := b1.cell 1
          have n2 : (wr.setCell ⟨itb, 1, none⟩ (.pointer (some ⟨p, 0, none⟩))).cell? ⟨itb, 2, none⟩ = some (.int .u8 1) := b1.cell 2
          simp only [ptr] at q3 qn
          have nf := b1.frozen
          have F := Lib.hid (show Blk (wr.setCell ⟨itb, 1, none⟩ (.pointer (some ⟨p, 0, none⟩))) itb 76 (itC H.tb (some p) 1) ∧ Only [itb] w (wr.setCell ⟨itb, 1, none⟩ (.pointer (some ⟨p, 0, none⟩))) ∧ St rbL (wr.setCell ⟨itb, 1, none⟩ (.pointer (some ⟨p, 0, none⟩))) H _ _ from ⟨b1, HO.out.trans o1, s1.upL⟩)
          generalize Value.pointer (u.root.map (fun n => (⟨n, 0, none⟩ : Addr))) = yu at *
          clear hst hb ho HO HB o1 b1 s1 ib hn hx
          go_wp2_with fail
          go_roundg (c.length + 1)
          case measure => simp only [List.length_cons] at hg; omega
          case rel => exact ⟨c, _, p, rfl, F.out.1, F.out.2.1, F.out.2.2, hx', by omega⟩

theorem itPrev_on (w : World) (itb : Nat) (H : Hd) (c : Ctx) (i : Nat) (l : BT) (k v b : Int) (r : BT) (s : St rbL w H c (.node i l k v b r)) (hb : Blk w itb 76 (itC H.tb (some i) 1)) :
    Calls Try.prog 121 #[.pointer (some ⟨itb, 0, none⟩)] w fun e w' => e = .returned (.bool (prevId c l).isSome) ∧ Blk w' itb 76 (itC H.tb (prevId c l) (if (prevId c l).isSome then 1 else 0)) ∧ Only [itb] w w' := by
  by_cases hr : l = .nil
  · have e : prevId c l = Ctx.upL c := by subst hr; rfl
    rw [e]
    cases hx : Ctx.upL c with
    | none => exact itPrev_out w itb H c i l k v b r s hb hr hx
    | some x => exact itPrev_up x w itb H c i l k v b r s hb hr hx
  · have e : prevId c l = l.hi := by cases l with | nil => exact absurd rfl hr | node => rfl
    rw [e]
    exact itPrev_down w itb H c i l k v b r s hb hr

theorem itBegin_walk (w : World) (itb tb : Nat) (n : Option Nat) (p : Int) (hb : Blk w itb 76 (itC tb n p)) :
    Calls Try.prog 116 #[.pointer (some ⟨itb, 0, none⟩)] w fun e w' => e = .returned (.tuple #[]) ∧ Blk w' itb 76 (itC tb none 0) ∧ Only [itb] w w' := by
  have hc1 : w.cell? ⟨itb, 1, none⟩ = some (ptr n) := hb.cell 1
  have hc2 : w.cell? ⟨itb, 2, none⟩ = some (.int .u8 p) := hb.cell 2
  have hf := hb.frozen
  generalize ptr n = y at hc1
  have fin : Blk ((w.setCell ⟨itb, 1, none⟩ (.pointer none)).setCell ⟨itb, 2, none⟩ (.int .u8 0)) itb 76 (itC tb none 0) ∧ Only [itb] w ((w.setCell ⟨itb, 1, none⟩ (.pointer none)).setCell ⟨itb, 2, none⟩ (.int .u8 0)) :=
    ⟨itPos (itSet hb none) 0, ((Only.refl _ _).setCell (.inl (by simp)) _).setCell (.inl (by simp)) _⟩
  have Fin := Lib.hid fin
  clear fin hb
  go_enter Try.func116, Try.ntmps116
  go_wp2_with fail
  go_end0
  exact ⟨rfl, Fin.out⟩
theorem itEnd_walk (w : World) (itb tb : Nat) (n : Option Nat) (p : Int) (hb : Blk w itb 76 (itC tb n p)) :
    Calls Try.prog 117 #[.pointer (some ⟨itb, 0, none⟩)] w fun e w' => e = .returned (.tuple #[]) ∧ Blk w' itb 76 (itC tb none 2) ∧ Only [itb] w w' := by
  have hc1 : w.cell? ⟨itb, 1, none⟩ = some (ptr n) := hb.cell 1
  have hc2 : w.cell? ⟨itb, 2, none⟩ = some (.int .u8 p) := hb.cell 2
  have hf := hb.frozen
  generalize ptr n = y at hc1
  have fin : Blk ((w.setCell ⟨itb, 1, none⟩ (.pointer none)).setCell ⟨itb, 2, none⟩ (.int .u8 2)) itb 76 (itC tb none 2) ∧ Only [itb] w ((w.setCell ⟨itb, 1, none⟩ (.pointer none)).setCell ⟨itb, 2, none⟩ (.int .u8 2)) :=
    ⟨itPos (itSet hb none) 2, ((Only.refl _ _).setCell (.inl (by simp)) _).setCell (.inl (by simp)) _⟩
  have Fin := Lib.hid fin
  clear fin hb
  go_enter Try.func117, Try.ntmps117
  go_wp2_with fail
  go_end0
  exact ⟨rfl, Fin.out⟩
theorem itKey_walk (w : World) (itb tb : Nat) (H : Hd) (c : Ctx) (i : Nat) (l : BT) (k v b : Int) (r : BT) (s : St rbL w H c (.node i l k v b r)) (hb : Blk w itb 76 (itC tb (some i) 1)) :
    Calls Try.prog 93 #[.pointer (some ⟨itb, 0, none⟩)] w fun e w' => e = .returned (.iface 3 (.int .i64 k)) ∧ w' = w := by
  have hc1 : w.cell? ⟨itb, 1, none⟩ = some (.pointer (some ⟨i, 0, none⟩)) := hb.cell 1
  obtain ⟨hk0, hv1, _, _⟩ := s.ht.1.cells_
  clear s hb
  go_enter Try.func93, Try.ntmps93
  go_wp2_with fail
  go_ret
  exact ⟨rfl, rfl⟩
theorem itValue_walk (w : World) (itb tb : Nat) (H : Hd) (c : Ctx) (i : Nat) (l : BT) (k v b : Int) (r : BT) (s : St rbL w H c (.node i l k v b r)) (hb : Blk w itb 76 (itC tb (some i) 1)) :
    Calls Try.prog 100 #[.pointer (some ⟨itb, 0, none⟩)] w fun e w' => e = .returned (.iface 3 (.int .i64 v)) ∧ w' = w := by
  have hc1 : w.cell? ⟨itb, 1, none⟩ = some (.pointer (some ⟨i, 0, none⟩)) := hb.cell 1
  obtain ⟨hk0, hv1, _, _⟩ := s.ht.1.cells_
  clear s hb
  go_enter Try.func100, Try.ntmps100
  go_wp2_with fail
  go_ret
  exact ⟨rfl, rfl⟩

end Go.Proofs.Ytmhkknobgcdkkaa.Rb
