/-
  Several texts as one (AvlEnds, AvlIter, AvlMake, AvlKeys, AvlState): each says its own in its remarks.
-/
import Derived.Test.YtbdcepkahdecjaaGreatPures
import Derived.Test.YtbdcepkahdecjaaGreatAvlCore
import Derived.Deep.LoopGhost
import Derived.LaidEqlPtr
import Derived.Test.YtbdcepkahdecjaaGreatIter
import Derived.Test.YtbdcepkahdecjaaGreatBases
import Derived.Test.YtbdcepkahdecjaaGreatRows0
import Derived.Test.YtbdcepkahdecjaaGreatSpecSame
namespace Go.Proofs.YtbdcepkahdecjaaGreat
open Go.RowKit
theorem xor_i64_1 : bits BinOp.xor IntKind.i64 1 1 = 0 := by kernel_rfl
theorem avlNode_size : (Tryz.prog.info? 112).map (fun i => i.size) = some 6 := by kernel_rfl
theorem avlPtr_same (w : World) (a : Addr) : (binOp .eql 63 (.pointer (some a)) (.pointer (some a))).run Tryz.prog w = .ok (.bool true) w := by
  obtain ⟨j, hj, _⟩ := Option.map_eq_some_iff.1 avlNode_size
  exact run_eql_ptr_same w a Tryz.underlying63 hj
theorem avlPtr_other (w : World) {i j : Nat} (h : i ≠ j) {ca cb : Array Value} {ta tb : TypeId} (hi : Blk w i ta ca) (hj : Blk w j tb cb) :
    (binOp .eql 63 (.pointer (some ⟨i, 0, none⟩)) (.pointer (some ⟨j, 0, none⟩))).run Tryz.prog w = .ok (.bool false) w := by
  obtain ⟨x, hx, hs⟩ := Option.map_eq_some_iff.1 avlNode_size
  exact run_eql_ptr_other w Tryz.underlying63 hx (by rw [hs]; decide) (fun e => h (by injection e)) hi hj
theorem avlPtr_nil (w : World) (a : Addr) : (binOp .eql 63 (.pointer none) (.pointer (some a))).run Tryz.prog w = .ok (.bool false) w := by kernel_rfl
theorem avlBottom0_walk (w : World) (H : Hd) (t : BT) (s : St avlL w H [] t) :
    Calls Tryz.prog 150 #[.pointer (some ⟨H.tb, 0, none⟩), .int .i64 0] w fun e w' => e = .returned (ptr t.lo) ∧ w' = w := by
  obtain ⟨hsl, _⟩ := s.hc.slot_cell
  simp only [slot, ptr] at hsl
  have hS := Lib.hid s
  clear s
  cases t with
  | nil =>
    simp only [BT.root, Option.map_none] at hsl
    go_enter Tryz.func150, Tryz.ntmps150
    go_wp2_with fail
    go_ret
    exact ⟨rfl, rfl⟩
  | node i l k v b r =>
    obtain ⟨_, _, hl3, hr4⟩ := hS.out.ht.1.cells_
    simp only [BT.root, Option.map_some] at hsl
    generalize hT : BT.node i l k v b r = T at hS
    have HT := Lib.hid hT
    simp only [ptr] at hl3 hr4
    clear hT
    go_enter Tryz.func150, Tryz.ntmps150
    go_wp2_with fail
    go_loopg [5, 6] (T.count + 1) (fun g p q wr => ∃ (c : Ctx) (i : Nat) (l : BT) (k v b : Int) (r : BT), p = ptr (some i) ∧ q = ptr l.root ∧ wr = w ∧ St avlL w H c (.node i l k v b r) ∧ T.lo = (BT.node i l k v b r).lo ∧ l.count < g)
    case atStart => exact ⟨[], i, l, k, v, b, r, rfl, rfl, rfl, by rw [HT.out]; exact hS.out, by rw [HT.out], by rw [← HT.out]; simp only [BT.count]; omega⟩
    case round =>
      clear hsl hl3 hr4 HT
      obtain ⟨c, i, l, k, v, b, r, hp, hq, hw, hst, he, hg⟩ := hrel
      subst hw
      have HS := Lib.hid hst
      have HE := Lib.hid he
      clear he
      cases l with
      | nil =>
        simp only [BT.root, ptr, Option.map_none, Option.map_some] at hp hq
        subst hp hq
        clear hst
        go_wp2_with fail
        go_ret
        exact ⟨by rw [HE.out, BT.lo_nil]; rfl, rfl⟩
      | node i' l' k' v' b' r' =>
        have hst' := hst.downL
        obtain ⟨_, _, hl3, hr4⟩ := hst'.ht.1.cells_
        simp only [BT.root, ptr, Option.map_some] at hp hq
        simp only [ptr] at hl3 hr4
        subst hp hq
        have HS' := Lib.hid hst'
        clear hst hst'
        go_wp2_with fail
        go_roundg (l'.count + 1)
        case measure => simp only [BT.count] at hg; omega
        case rel => exact ⟨_, i', l', k', v', b', r', rfl, rfl, rfl, HS'.out, by rw [HE.out, BT.lo_node (by intro h; cases h)], by omega⟩
theorem avlLeft_walk (w : World) (H : Hd) (t : BT) (s : St avlL w H [] t) :
    Calls Tryz.prog 149 #[.pointer (some ⟨H.tb, 0, none⟩)] w fun e w' => e = .returned (ptr t.lo) ∧ w' = w := by
  have c := Lib.hid (avlBottom0_walk w H t s)
  clear s
  generalize t.lo = x at *
  go_enter Tryz.func149, Tryz.ntmps149
  go_wp2_with fail
  refine c.out.mono ?_
  rintro e w' ⟨rfl, rfl⟩
  clear c
  go_wp2_with fail
  go_ret
  exact ⟨rfl, rfl⟩
set_option maxRecDepth 100000 in
theorem avlWalk1_walk (w : World) (H : Hd) (c : Ctx) (i : Nat) (l : BT) (k v b : Int) (r : BT) (s : St avlL w H c (.node i l k v b r)) :
    Calls Tryz.prog 135 #[.pointer (some ⟨i, 0, none⟩), .int .i64 1] w fun e w' => e = .returned (ptr (nextId c r)) ∧ w' = w := by
  obtain ⟨_, _, hl3, hr4⟩ := s.ht.1.cells_
  have hp2 := s.ht.1.cellP
  simp only [ptr, Lay.op, if_true] at hl3 hr4 hp2
  cases r with
  | nil =>
    have hS := Lib.hid s
    clear s
    simp only [BT.root, Option.map_none, nextId] at *
    generalize hX : Ctx.upR c = X at *
    have HX := Lib.hid hX
    generalize hT : BT.node i l k v b .nil = T at hS
    have HT := Lib.hid hT
    clear hT hX
    go_enter Tryz.func135, Tryz.ntmps135
    go_wp2_with fail
    go_loopg [0, 5] (c.length + 1) (fun g p q wr => ∃ (c' : Ctx) (s : BT) (i : Nat), s.root = some i ∧ p = ptr (some i) ∧ q = ptr (Ctx.par c') ∧ wr = w ∧ St avlL w H c' s ∧ X = Ctx.upR c' ∧ c'.length < g)
    case atStart => exact ⟨c, T, i, by rw [← HT.out]; rfl, rfl, rfl, rfl, hS.out, HX.out.symm, by omega⟩
    case round =>
      clear hl3 hr4 hp2 hS HX HT
      obtain ⟨c, s, i0, h0, hp, hq, hw, hst, he, hg⟩ := hrel
      subst hw
      have HE := Lib.hid he
      clear he
      cases c with
      | nil =>
        simp only [Ctx.par, ptr, Option.map_none, Option.map_some] at hp hq
        subst hp hq
        clear hst
        go_wp2_with fail
        go_ret
        exact ⟨by rw [HE.out]; rfl, rfl⟩
      | cons f c =>
        cases f with
        | rf i l k v b =>
          have hst' := hst.upR
          obtain ⟨_, _, hl3, hr4⟩ := hst'.ht.1.cells_
          have hp2 := hst'.ht.1.cellP
          simp only [Ctx.par, Fr.id, ptr, Option.map_some] at hp hq
          simp only [ptr, Lay.op, if_true, h0, Option.map_some] at hl3 hr4 hp2
          subst hp hq
          have HS := Lib.hid hst'
          have H0 := Lib.hid h0
          clear hst hst' h0
          have qs := avlPtr_same
          go_wp2_with fail
          go_roundg (c.length + 1)
          case measure => simp only [List.length_cons] at hg; omega
          case rel => exact ⟨c, _, i, rfl, rfl, rfl, rfl, HS.out, HE.out, by omega⟩
        | lf i k v b r =>
          have hst' := hst.upL
          obtain ⟨_, _, hl3, hr4⟩ := hst'.ht.1.cells_
          simp only [Ctx.par, Fr.id, ptr, Option.map_some] at hp hq
          cases r with
          | nil =>
            simp only [BT.root, ptr, Option.map_none] at hl3 hr4
            subst hp hq
            have qn := avlPtr_nil
            clear hst hst' h0
            go_wp2_with fail
            go_ret
            exact ⟨by rw [HE.out]; rfl, rfl⟩
          | node j jl jk jv jb jr =>
            have hne : j ≠ i0 := by
              have hn := hst'.ndt
              cases s with
              | nil => cases h0
              | node x xl xk xv xb xr =>
                simp only [BT.root, Option.some.injEq] at h0
                simp only [BT.ids, List.nodup_cons, List.nodup_append, List.mem_append, List.mem_cons] at hn
                subst h0
                exact fun e => hn.2.2.2 _ (.inl rfl) _ (.inl rfl) e.symm
            have hs0 : ∃ cs, Blk wr i0 112 cs := by
              have hs := hst.ht
              cases s with
              | nil => cases h0
              | node x xl xk xv xb xr =>
                simp only [BT.root, Option.some.injEq] at h0
                subst h0
                exact ⟨_, hs.1⟩
            obtain ⟨cs, hs0⟩ := hs0
            have hsj := hst'.ht.2.2.1
            have qo := avlPtr_other wr hne hsj hs0
            simp only [BT.root, ptr, Option.map_some] at hl3 hr4
            subst hp hq
            clear hst hst' h0 hs0 hsj hne
            go_wp2_with fail
            go_ret
            exact ⟨by rw [HE.out]; rfl, rfl⟩
  | node j jl jk jv jb jr =>
    have hst := s.downR
    have hS := Lib.hid hst
    clear s hst
    simp only [BT.root, Option.map_some, nextId] at *
    generalize hT : BT.node j jl jk jv jb jr = T at *
    have HT := Lib.hid hT
    have hTj : T.root = some j := by rw [← hT]; rfl
    have HTj := Lib.hid hTj
    clear hT hTj
    go_enter Tryz.func135, Tryz.ntmps135
    go_wp2_with fail
    go_loopg [0] (T.count + 1) (fun g p wr => ∃ (c : Ctx) (i : Nat) (l : BT) (k v b : Int) (r : BT), p = ptr (some i) ∧ wr = w ∧ St avlL w H c (.node i l k v b r) ∧ T.lo = (BT.node i l k v b r).lo ∧ l.count < g)
    case atStart => exact ⟨_, j, jl, jk, jv, jb, jr, rfl, rfl, by rw [HT.out]; exact hS.out, by rw [HT.out], by rw [← HT.out]; simp only [BT.count]; omega⟩
    case round =>
      clear hl3 hr4 hp2 HTj hS HT
      obtain ⟨c, i, l, k, v, b, r, hp, hw, hst, he, hg⟩ := hrel
      subst hw
      have HE := Lib.hid he
      have hx := xor_i64_1
      clear he
      obtain ⟨_, _, hl3, hr4⟩ := hst.ht.1.cells_
      cases l with
      | nil =>
        simp only [BT.root, ptr, Option.map_none, Option.map_some] at hp hl3 hr4
        subst hp
        clear hst
        go_wp2_with fail
        go_ret
        exact ⟨by rw [HE.out, BT.lo_nil]; rfl, rfl⟩
      | node i' l' k' v' b' r' =>
        have hst' := hst.downL
        simp only [BT.root, ptr, Option.map_some] at hp hl3 hr4
        subst hp
        have HS' := Lib.hid hst'
        clear hst hst'
        go_wp2_with fail
        go_roundg (l'.count + 1)
        case measure => simp only [BT.count] at hg; omega
        case rel => exact ⟨_, i', l', k', v', b', r', rfl, rfl, HS'.out, by rw [HE.out, BT.lo_node (by intro h; cases h)], by omega⟩
theorem avlNodeNext_walk (w : World) (H : Hd) (c : Ctx) (i : Nat) (l : BT) (k v b : Int) (r : BT) (s : St avlL w H c (.node i l k v b r)) :
    Calls Tryz.prog 132 #[.pointer (some ⟨i, 0, none⟩)] w fun e w' => e = .returned (ptr (nextId c r)) ∧ w' = w := by
  have h := Lib.hid (avlWalk1_walk w H c i l k v b r s)
  clear s
  generalize nextId c r = x at *
  go_enter Tryz.func132, Tryz.ntmps132
  go_wp2_with fail
  refine h.out.mono ?_
  rintro e w' ⟨rfl, rfl⟩
  clear h
  go_wp2_with fail
  go_ret
  exact ⟨rfl, rfl⟩
end Go.Proofs.YtbdcepkahdecjaaGreat

namespace Go.Proofs.YtbdcepkahdecjaaGreat
open Go.RowKit
theorem itNext_start (w : World) (itb : Nat) (H : Hd) (t : BT) (s : St avlL w H [] t) (hb : Blk w itb 108 #[.pointer (some ⟨H.tb, 0, none⟩), .pointer none, .int .u8 0]) :
    Calls Tryz.prog 144 #[.pointer (some ⟨itb, 0, none⟩)] w fun e w' => e = .returned (.bool t.lo.isSome) ∧ Blk w' itb 108 #[.pointer (some ⟨H.tb, 0, none⟩), ptr t.lo, .int .u8 (if t.lo.isSome then 1 else 2)] ∧ Only [itb] w w' := by
  have ho := s.off hb (by decide) (by decide)
  have hb1 := Blk.set_ hb 2 (.int .u8 1)
  have on1 : Only [itb] w (w.setCell ⟨itb, 2, none⟩ (.int .u8 1)) := (Only.refl _ _).setCell (.inl (by simp)) _
  have c := avlLeft_walk _ H t (s.only1 ho on1)
  have hc0 := hb.cell 0
  have hc1 := hb.cell 1
  have hc2 := hb.cell 2
  have hf := hb.frozen
  cases hx : t.lo with
  | none =>
    rw [hx] at c
    simp only [ptr, Option.map_none] at c
    have C := Lib.hid c
    have fin : Blk (((w.setCell ⟨itb, 2, none⟩ (.int .u8 1)).setCell ⟨itb, 1, none⟩ (.pointer none)).setCell ⟨itb, 2, none⟩ (.int .u8 2)) itb 108 #[.pointer (some ⟨H.tb, 0, none⟩), ptr none, .int .u8 (if (none : Option Nat).isSome then 1 else 2)] ∧ Only [itb] w (((w.setCell ⟨itb, 2, none⟩ (.int .u8 1)).setCell ⟨itb, 1, none⟩ (.pointer none)).setCell ⟨itb, 2, none⟩ (.int .u8 2)) :=
      ⟨Blk.set_ (Blk.set_ hb1 1 (.pointer none)) 2 (.int .u8 2), (on1.setCell (.inl (by simp)) _).setCell (.inl (by simp)) _⟩
    have Fin := Lib.hid fin
    clear fin s hb ho hb1 on1 c hx
    go_enter Tryz.func144, Tryz.ntmps144
    go_wp2_with fail
    refine C.out.mono ?_
    rintro e w' ⟨rfl, rfl⟩
    clear C
    go_wp2_with fail
    go_ret
    exact ⟨rfl, Fin.out⟩
  | some j =>
    rw [hx] at c
    simp only [ptr, Option.map_some] at c
    have C := Lib.hid c
    have fin : Blk ((w.setCell ⟨itb, 2, none⟩ (.int .u8 1)).setCell ⟨itb, 1, none⟩ (.pointer (some ⟨j, 0, none⟩))) itb 108 #[.pointer (some ⟨H.tb, 0, none⟩), ptr (some j), .int .u8 (if (some j : Option Nat).isSome then 1 else 2)] ∧ Only [itb] w ((w.setCell ⟨itb, 2, none⟩ (.int .u8 1)).setCell ⟨itb, 1, none⟩ (.pointer (some ⟨j, 0, none⟩))) :=
      ⟨Blk.set_ hb1 1 _, (on1.setCell (.inl (by simp)) _)⟩
    have Fin := Lib.hid fin
    clear fin s hb ho hb1 on1 c hx
    go_enter Tryz.func144, Tryz.ntmps144
    go_wp2_with fail
    refine C.out.mono ?_
    rintro e w' ⟨rfl, rfl⟩
    clear C
    go_wp2_with fail
    go_ret
    exact ⟨rfl, Fin.out⟩
theorem itNext_on (w : World) (itb : Nat) (H : Hd) (c : Ctx) (i : Nat) (l : BT) (k v b : Int) (r : BT) (s : St avlL w H c (.node i l k v b r)) (hb : Blk w itb 108 #[.pointer (some ⟨H.tb, 0, none⟩), .pointer (some ⟨i, 0, none⟩), .int .u8 1]) :
    Calls Tryz.prog 144 #[.pointer (some ⟨itb, 0, none⟩)] w fun e w' => e = .returned (.bool (nextId c r).isSome) ∧ Blk w' itb 108 #[.pointer (some ⟨H.tb, 0, none⟩), ptr (nextId c r), .int .u8 (if (nextId c r).isSome then 1 else 2)] ∧ Only [itb] w w' := by
  have cn := avlNodeNext_walk _ H c i l k v b r s
  have hc0 := hb.cell 0
  have hc1 := hb.cell 1
  have hc2 := hb.cell 2
  have hf := hb.frozen
  generalize nextId c r = x at *
  cases x with
  | none =>
    simp only [ptr, Option.map_none] at cn
    have C := Lib.hid cn
    have fin : Blk ((w.setCell ⟨itb, 1, none⟩ (.pointer none)).setCell ⟨itb, 2, none⟩ (.int .u8 2)) itb 108 #[.pointer (some ⟨H.tb, 0, none⟩), ptr none, .int .u8 (if (none : Option Nat).isSome then 1 else 2)] ∧ Only [itb] w ((w.setCell ⟨itb, 1, none⟩ (.pointer none)).setCell ⟨itb, 2, none⟩ (.int .u8 2)) :=
      ⟨Blk.set_ (Blk.set_ hb 1 (.pointer none)) 2 (.int .u8 2), ((Only.refl _ _).setCell (.inl (by simp)) _).setCell (.inl (by simp)) _⟩
    have Fin := Lib.hid fin
    clear fin s hb cn
    go_enter Tryz.func144, Tryz.ntmps144
    go_wp2_with fail
    refine C.out.mono ?_
    rintro e w' ⟨rfl, rfl⟩
    clear C
    go_wp2_with fail
    go_ret
    exact ⟨rfl, Fin.out⟩
  | some j =>
    simp only [ptr, Option.map_some] at cn
    have C := Lib.hid cn
    have fin : Blk (w.setCell ⟨itb, 1, none⟩ (.pointer (some ⟨j, 0, none⟩))) itb 108 #[.pointer (some ⟨H.tb, 0, none⟩), ptr (some j), .int .u8 (if (some j : Option Nat).isSome then 1 else 2)] ∧ Only [itb] w (w.setCell ⟨itb, 1, none⟩ (.pointer (some ⟨j, 0, none⟩))) :=
      ⟨Blk.set_ hb 1 _, ((Only.refl _ _).setCell (.inl (by simp)) _)⟩
    have Fin := Lib.hid fin
    clear fin s hb cn
    go_enter Tryz.func144, Tryz.ntmps144
    go_wp2_with fail
    refine C.out.mono ?_
    rintro e w' ⟨rfl, rfl⟩
    clear C
    go_wp2_with fail
    go_ret
    exact ⟨rfl, Fin.out⟩
theorem itNext_end (w : World) (itb : Nat) (H : Hd) (hb : Blk w itb 108 #[.pointer (some ⟨H.tb, 0, none⟩), .pointer none, .int .u8 2]) :
    Calls Tryz.prog 144 #[.pointer (some ⟨itb, 0, none⟩)] w fun e w' => e = .returned (.bool false) ∧ Blk w' itb 108 #[.pointer (some ⟨H.tb, 0, none⟩), .pointer none, .int .u8 2] ∧ Only [itb] w w' := by
  have hc0 := hb.cell 0
  have hc1 := hb.cell 1
  have hc2 := hb.cell 2
  have hf := hb.frozen
  have fin : Blk (w.setCell ⟨itb, 2, none⟩ (.int .u8 2)) itb 108 #[.pointer (some ⟨H.tb, 0, none⟩), .pointer none, .int .u8 2] ∧ Only [itb] w (w.setCell ⟨itb, 2, none⟩ (.int .u8 2)) :=
    ⟨Blk.set_ hb 2 _, ((Only.refl _ _).setCell (.inl (by simp)) _)⟩
  have Fin := Lib.hid fin
  clear fin hb
  go_enter Tryz.func144, Tryz.ntmps144
  go_wp2_with fail
  go_ret
  exact ⟨rfl, Fin.out⟩
theorem itKey_walk (w : World) (itb : Nat) (H : Hd) (c : Ctx) (i : Nat) (l : BT) (k v b : Int) (r : BT) (s : St avlL w H c (.node i l k v b r)) (hb : Blk w itb 108 #[.pointer (some ⟨H.tb, 0, none⟩), .pointer (some ⟨i, 0, none⟩), .int .u8 1]) :
    Calls Tryz.prog 142 #[.pointer (some ⟨itb, 0, none⟩)] w fun e w' => e = .returned (.iface 3 (.int .i64 k)) ∧ w' = w := by
  have hc1 := hb.cell 1
  obtain ⟨hk0, hv1, _, _⟩ := s.ht.1.cells_
  clear s hb
  go_enter Tryz.func142, Tryz.ntmps142
  go_wp2_with fail
  go_ret
  exact ⟨rfl, rfl⟩
theorem itValue_walk (w : World) (itb : Nat) (H : Hd) (c : Ctx) (i : Nat) (l : BT) (k v b : Int) (r : BT) (s : St avlL w H c (.node i l k v b r)) (hb : Blk w itb 108 #[.pointer (some ⟨H.tb, 0, none⟩), .pointer (some ⟨i, 0, none⟩), .int .u8 1]) :
    Calls Tryz.prog 148 #[.pointer (some ⟨itb, 0, none⟩)] w fun e w' => e = .returned (.iface 3 (.int .i64 v)) ∧ w' = w := by
  have hc1 := hb.cell 1
  obtain ⟨hk0, hv1, _, _⟩ := s.ht.1.cells_
  clear s hb
  go_enter Tryz.func148, Tryz.ntmps148
  go_wp2_with fail
  go_ret
  exact ⟨rfl, rfl⟩
theorem avlIterator_walk (w : World) (tb : Nat) : Calls Tryz.prog 81 #[.pointer (some ⟨tb, 0, none⟩)] w fun e w' =>
    e = .returned (.iface 105 (.pointer (some ⟨w.heap.size, 0, none⟩))) ∧ w' = w.alloc (.cells #[.pointer (some ⟨tb, 0, none⟩), .pointer none, .int .u8 0] 108) := by
  go_enter Tryz.func81, Tryz.ntmps81
  go_wp2_with fail
  go_ret
  exact ⟨rfl, rfl⟩
structure AvlItAt (o : Ord) (ob B : Nat) (w : World) (tb itb : Nat) (t : BT) (p : Nat) : Prop where
  at_ : AvlAt o ob B w tb t
  it : Blk w itb 108 (itCells tb t.ord p)
  le : p ≤ t.count + 1
  lo : B ≤ itb
section
variable {o : Ord} {ob B tb itb p : Nat} {w w' : World} {t : BT}
theorem AvlItAt.move {p' : Nat} (h : AvlItAt o ob B w tb itb t p) (k : Only [itb] w w') (hb : Blk w' itb 108 (itCells tb t.ord p')) (hp : p' ≤ t.count + 1) : AvlItAt o ob B w' tb itb t p' := by
  have ho := h.at_.st.off h.it (by decide) (by decide)
  have hob : itb ≠ ob := Blk.ne_ h.it h.at_.ord (by decide)
  refine ⟨h.at_.same fun b hb' => k.block b (h.at_.lt b hb') fun hm => (?_ : False), hb, hp, h.lo⟩
  simp only [List.mem_singleton] at hm
  subst hm
  rcases List.mem_cons.1 hb' with e | e
  · exact hob e
  · exact ho e
theorem AvlItAt.only {S : List Nat} (h : AvlItAt o ob B w tb itb t p) (k : Only S w w') (hs : ∀ b ∈ S, b ∉ ob :: tb :: itb :: t.ids) : AvlItAt o ob B w' tb itb t p := by
  have hsz := h.at_.lt
  refine ⟨h.at_.same fun b hb => k.block b (hsz b hb) fun hm => ?_, h.it.same (k.block _ h.it.lt fun hm => hs _ hm (by simp)), h.le, h.lo⟩
  refine hs b hm ?_
  simp only [List.mem_cons] at hb ⊢
  rcases hb with e | e | e
  · exact .inl e
  · exact .inr (.inl e)
  · exact .inr (.inr (.inr e))
theorem AvlItAt.fits (h : AvlItAt o ob B w tb itb t p) : (p = 0 ∧ itCells tb t.ord p = #[.pointer (some ⟨tb, 0, none⟩), .pointer none, .int .u8 0]) ∨ (p = t.count + 1 ∧ itCells tb t.ord p = #[.pointer (some ⟨tb, 0, none⟩), .pointer none, .int .u8 2]) ∨
    ∃ q, p = q + 1 ∧ q < t.count ∧ ∃ c i l k v b r, St avlL w ⟨tb, cmpv ob, t.count⟩ c (.node i l k v b r) ∧ t.ord[q]? = some i ∧ t.kvs[q]? = some (k, v) ∧ nextId c r = t.ord[q + 1]? ∧ (prevId c l = if q = 0 then none else t.ord[q - 1]?) ∧ itCells tb t.ord p = #[.pointer (some ⟨tb, 0, none⟩), .pointer (some ⟨i, 0, none⟩), .int .u8 1] := by
  by_cases h0 : p = 0
  · subst h0; exact .inl ⟨rfl, itCells_zero _ _⟩
  · by_cases h1 : p = t.count + 1
    · refine .inr (.inl ⟨h1, ?_⟩)
      rw [h1, ← BT.ord_length]; exact itCells_end _ _
    · have hle := h.le
      obtain ⟨q, rfl⟩ : ∃ q, p = q + 1 := ⟨p - 1, by omega⟩
      obtain ⟨c, i, l, k, v, b, r, h2, h3, h4, h5, h6⟩ := h.at_.st.at_place (p := q) (by omega)
      exact .inr (.inr ⟨q, rfl, by omega, c, i, l, k, v, b, r, h2, h3, h4, h5, h6, itCells_at _ _ h3⟩)
theorem avlItNext_walk (h : AvlItAt o ob B w tb itb t p) :
    Calls Tryz.prog 144 #[.pointer (some ⟨itb, 0, none⟩)] w fun e w' => e = .returned (.bool (decide (p < t.count))) ∧ AvlItAt o ob B w' tb itb t (min (p + 1) (t.count + 1)) ∧ Only [itb] w w' := by
  have hit := h.it
  have hn := BT.ord_length t
  rcases h.fits with ⟨rfl, e⟩ | ⟨rfl, e⟩ | ⟨q, rfl, hq, c, i, l, k, v, b, r, hst, h1, h2, h3, h4, e⟩
  · rw [e] at hit
    refine (itNext_start w itb ⟨tb, cmpv ob, t.count⟩ t h.at_.st hit).mono ?_
    rintro e w' ⟨rfl, hb, on⟩
    have hlo := lo_at t
    by_cases h0 : t.count = 0
    · have e1 : t.lo = none := by rw [hlo, List.getElem?_eq_none (by omega)]
      rw [e1] at hb
      refine ⟨by rw [e1]; simp [h0], h.move on ?_ (by omega), on⟩
      rw [h0, show min (0 + 1) (0 + 1) = t.ord.length + 1 by omega, itCells_end]
      exact hb
    · obtain ⟨j, hj⟩ : ∃ j, t.ord[0]? = some j := ⟨_, List.getElem?_eq_getElem (by omega)⟩
      rw [hlo, hj] at hb
      refine ⟨by rw [hlo, hj]; simp; omega, h.move on ?_ (by omega), on⟩
      rw [show min (0 + 1) (t.count + 1) = 0 + 1 by omega, itCells_at _ _ hj]
      exact hb
  · rw [e] at hit
    refine (itNext_end w itb ⟨tb, cmpv ob, t.count⟩ hit).mono ?_
    rintro e w' ⟨rfl, hb, on⟩
    refine ⟨by simp, h.move on ?_ (by omega), on⟩
    rw [show min (t.count + 1 + 1) (t.count + 1) = t.ord.length + 1 by omega, itCells_end]
    exact hb
  · rw [e] at hit
    refine (itNext_on w itb ⟨tb, cmpv ob, t.count⟩ c i l k v b r hst hit).mono ?_
    rintro e w' ⟨rfl, hb, on⟩
    rw [h3] at hb ⊢
    by_cases h0 : q + 1 < t.count
    · obtain ⟨j, hj⟩ : ∃ j, t.ord[q + 1]? = some j := ⟨_, List.getElem?_eq_getElem (by omega)⟩
      rw [hj] at hb ⊢
      refine ⟨by simp [h0], h.move on ?_ (by omega), on⟩
      rw [show min (q + 1 + 1) (t.count + 1) = q + 1 + 1 by omega, itCells_at _ _ hj]
      exact hb
    · have e1 : t.ord[q + 1]? = none := List.getElem?_eq_none (by omega)
      rw [e1] at hb ⊢
      refine ⟨by simp [h0], h.move on ?_ (by omega), on⟩
      rw [show min (q + 1 + 1) (t.count + 1) = t.ord.length + 1 by omega, itCells_end]
      exact hb
theorem avlItKey_walk {q : Nat} {k v : Int} (h : AvlItAt o ob B w tb itb t (q + 1)) (hq : t.kvs[q]? = some (k, v)) :
    Calls Tryz.prog 142 #[.pointer (some ⟨itb, 0, none⟩)] w fun e w' => e = .returned (.iface 3 (.int .i64 k)) ∧ w' = w := by
  have hlt : q < t.count := by
    rcases Nat.lt_or_ge q t.count with h' | h'
    · exact h'
    · rw [List.getElem?_eq_none (by rw [BT.kvs_length]; exact h')] at hq; cases hq
  have hit := h.it
  rcases h.fits with ⟨e0, e⟩ | ⟨e0, e⟩ | ⟨q', e0, hq', c, i, l, k', v', b, r, hst, h1, h2, h3, h4, e⟩
  · omega
  · omega
  · obtain rfl : q = q' := by omega
    rw [hq] at h2
    obtain ⟨rfl, rfl⟩ : k = k' ∧ v = v' := by simpa using h2
    rw [e] at hit
    exact itKey_walk w itb ⟨tb, cmpv ob, t.count⟩ c i l k v b r hst hit
theorem avlItValue_walk {q : Nat} {k v : Int} (h : AvlItAt o ob B w tb itb t (q + 1)) (hq : t.kvs[q]? = some (k, v)) :
    Calls Tryz.prog 148 #[.pointer (some ⟨itb, 0, none⟩)] w fun e w' => e = .returned (.iface 3 (.int .i64 v)) ∧ w' = w := by
  have hlt : q < t.count := by
    rcases Nat.lt_or_ge q t.count with h' | h'
    · exact h'
    · rw [List.getElem?_eq_none (by rw [BT.kvs_length]; exact h')] at hq; cases hq
  have hit := h.it
  rcases h.fits with ⟨e0, e⟩ | ⟨e0, e⟩ | ⟨q', e0, hq', c, i, l, k', v', b, r, hst, h1, h2, h3, h4, e⟩
  · omega
  · omega
  · obtain rfl : q = q' := by omega
    rw [hq] at h2
    obtain ⟨rfl, rfl⟩ : k = k' ∧ v = v' := by simpa using h2
    rw [e] at hit
    exact itValue_walk w itb ⟨tb, cmpv ob, t.count⟩ c i l k v b r hst hit
end
end Go.Proofs.YtbdcepkahdecjaaGreat

namespace Go.Proofs.YtbdcepkahdecjaaGreat
open Go.RowKit
@[go_sem] theorem avl_method_Put (n : Nat) (a : Addr) (w : World) : (method (n + 1) 38 (.pointer (some a)) "Put").run Tryz.prog w = .ok (76, .pointer (some a)) w := by kernel_rfl
@[go_sem] theorem avl_method_Remove (n : Nat) (a : Addr) (w : World) : (method (n + 1) 38 (.pointer (some a)) "Remove").run Tryz.prog w = .ok (77, .pointer (some a)) w := by kernel_rfl
@[go_sem] theorem avl_method_Clear (n : Nat) (a : Addr) (w : World) : (method (n + 1) 38 (.pointer (some a)) "Clear").run Tryz.prog w = .ok (73, .pointer (some a)) w := by kernel_rfl
set_option maxRecDepth 100000 in
theorem avlDone_walk (o : Ord) (B tb n cap : Nat) (A : Option Addr) (acts : List Do) (w : World) (hn : acts.length = n) (hn1 : n ≤ 1000) (ha : ActsAt w B A acts) (l0 : KV) (hl0 : l0.length ≤ 1000) (h0 : AvlHas o B w tb l0) :
    Calls Tryz.prog 18 #[.iface 38 (.pointer (some ⟨tb, 0, none⟩)), .slice A n cap] w fun e w' =>
      e = .returned (.tuple #[]) ∧ AvlHas o B w' tb (acts.foldl (step o) l0) ∧ Below B w w' := by
  go_enter Tryz.func18, Tryz.ntmps18
  go_wp2_with fail
  go_loopw [8] (fun i wr => ∃ k : Nat, k ≤ n ∧ i = .int .i64 k ∧ AvlHas o B wr tb ((acts.take k).foldl (step o) l0) ∧ Below B w wr) (fun i _ => n - (intOf i).toNat)
  case atStart => exact ⟨0, Nat.zero_le _, rfl, h0, Below.refl _ _⟩
  case round =>
    obtain ⟨k, hk, rfl, hh, hb⟩ := hrel
    by_cases hlt : k < n
    · obtain ⟨a, d, rfl, hab, hd, c0, c1, c2⟩ := ActsAt.at_ (ha.below hb) (i := k) (by omega)
      have hsz := hh.size
      have hlen := foldl_take_length o l0 h0.asc acts k
      have fin := fun (w2 : World) (h2 : AvlHas o B w2 tb (step o ((acts.take k).foldl (step o) l0) d)) (b2 : Below B (wr.alloc (.cells #[.int .i64 d.op, .int .i64 d.key, .int .i64 d.val] 43)) w2) =>
        show AvlHas o B w2 tb ((acts.take (k + 1)).foldl (step o) l0) ∧ Below B w w2 from
          ⟨by rw [foldl_take_succ o l0 acts k d hd]; exact h2, (hb.alloc hsz _).trans b2⟩
      generalize hL : (acts.take k).foldl (step o) l0 = L at *
      have Hh := Lib.hid (hh.alloc (.cells #[.int .i64 d.op, .int .i64 d.key, .int .i64 d.val] 43))
      have Hb := Lib.hid hb
      have Ha := Lib.hid ha
      have H0 := Lib.hid h0
      have HL := Lib.hid hL
      have Fin := Lib.hid fin
      have Hlen := Lib.hid hlen
      clear hh hb ha h0 hd hL fin hsz hlen
      by_cases h1 : d.op = 1
      · have e1 := Lib.hid (show step o L d = ins o d.key d.val L by unfold step; rw [if_pos h1])
        rw [h1] at c0 Hh Fin
        clear h1
        go_wp2_with fail
        refine (avlPut_has Hh.out _ _ (by have := Hlen.out; omega)).mono ?_
        rintro e w2 ⟨rfl, h2, b2⟩
        rw [← e1.out] at h2
        have F := Lib.hid (Fin.out _ h2 b2)
        clear h2 b2
        go_wp2_with fail
        go_roundw
        case rel => exact ⟨k + 1, by omega, by go_num, F.out.1, F.out.2⟩
        case measure => simp [intOf]; omega
      · by_cases h2 : d.op = 2
        · have e1 := Lib.hid (show step o L d = del o d.key L by unfold step; rw [if_neg h1, if_pos h2])
          rw [h2] at c0 Hh Fin
          clear h1 h2
          go_wp2_with fail
          refine (avlRemove_has Hh.out _ (by have := Hlen.out; omega)).mono ?_
          rintro e w2 ⟨rfl, h2, b2⟩
          rw [← e1.out] at h2
          have F := Lib.hid (Fin.out _ h2 b2)
          clear h2 b2
          go_wp2_with fail
          go_roundw
          case rel => exact ⟨k + 1, by omega, by go_num, F.out.1, F.out.2⟩
          case measure => simp [intOf]; omega
        · by_cases h3 : d.op = 3
          · have e1 := Lib.hid (show step o L d = [] by unfold step; rw [if_neg h1, if_neg h2, if_pos h3])
            rw [h3] at c0 Hh Fin
            clear h1 h2 h3
            go_wp2_with fail
            refine (avlClear_has Hh.out).mono ?_
            rintro e w2 ⟨rfl, h2, b2⟩
            rw [← e1.out] at h2
            have F := Lib.hid (Fin.out _ h2 b2)
            clear h2 b2
            go_wp2_with fail
            go_roundw
            case rel => exact ⟨k + 1, by omega, by go_num, F.out.1, F.out.2⟩
            case measure => simp [intOf]; omega
          · have e1 : step o L d = L := by unfold step; rw [if_neg h1, if_neg h2, if_neg h3]
            have h2' := Hh.out
            rw [← e1] at h2'
            have F := Lib.hid (Fin.out _ h2' (Below.refl _ _))
            have g1 : (d.op == 1) = false := by simpa using h1
            have g2 : (d.op == 2) = false := by simpa using h2
            have g3 : (d.op == 3) = false := by simpa using h3
            clear e1 h2' h1 h2 h3
            go_wp2_with fail
            go_roundw
            case rel => exact ⟨k + 1, by omega, by go_num, F.out.1, F.out.2⟩
            case measure => simp [intOf]; omega
    · have hkn : k = n := by omega
      have F : AvlHas o B wr tb (acts.foldl (step o) l0) := by rw [← List.take_of_length_le (l := acts) (i := k) (by omega)]; exact hh
      have HF := Lib.hid F
      have Hb := Lib.hid hb
      clear hh hb ha h0 F hkn
      go_wp2_with fail
      go_end0
      exact ⟨rfl, HF.out, Hb.out⟩
theorem avlNew_walk (ob : Nat) (w : World) : Calls Tryz.prog 19 #[cmpv ob] w fun e w' =>
    e = .returned (.pointer (some ⟨w.heap.size, 0, none⟩)) ∧ w.alloc (.cells (avlL.head ⟨w.heap.size, cmpv ob, 0⟩ none) 65) = w' := by
  go_enter Tryz.func19, Tryz.ntmps19
  go_wp2_with fail
  go_ret
  exact ⟨rfl, rfl⟩
theorem avl_walk (o : Ord) (ho : o.fine) (n cap : Nat) (A : Option Addr) (acts : List Do) (w : World) (hn : acts.length = n) (hn1 : n ≤ 1000) (ha : ActsAt w w.heap.size A acts) :
    Calls Tryz.prog 13 #[.agg #[.int .i64 o.kind, .int .i64 o.m], .slice A n cap] w fun e w' =>
      ∃ tb, e = .returned (.pointer (some ⟨tb, 0, none⟩)) ∧ AvlHas o w.heap.size w' tb (run o acts) ∧ Below w.heap.size w w' := by
  have Ha := Lib.hid ha
  clear ha
  go_enter Tryz.func13, Tryz.ntmps13
  go_wp2_with fail
  refine (by_walk o _).mono ?_
  rintro e w1 ⟨rfl, rfl⟩
  go_wp2_with fail
  refine (avlNew_walk _ _).mono ?_
  rintro e w1 ⟨rfl, rfl⟩
  have h0 : AvlHas o w.heap.size (((w.alloc (.cells #[.int .i64 o.kind, .int .i64 o.m] 23)).alloc (.cells #[.int .i64 o.kind, .int .i64 o.m] 23)).alloc (.cells (avlL.head ⟨w.heap.size + 1 + 1, cmpv (w.heap.size + 1), 0⟩ none) 65)) (w.heap.size + 1 + 1) [] := by
    refine ⟨w.heap.size + 1, .nil, ⟨⟨?_, trivial, by simp [allIds, Ctx.ids, BT.ids]⟩, trivial, Asc.nil o, ho, ?_, by simp [BT.ids], by omega, by simp [BT.ids]; omega⟩, rfl⟩
    · exact Blk.new' (by simp) _ _
    · exact Blk.alloc (Blk.new' (by simp) _ _) _
  have b0 : Below w.heap.size w (((w.alloc (.cells #[.int .i64 o.kind, .int .i64 o.m] 23)).alloc (.cells #[.int .i64 o.kind, .int .i64 o.m] 23)).alloc (.cells (avlL.head ⟨w.heap.size + 1 + 1, cmpv (w.heap.size + 1), 0⟩ none) 65)) :=
    (((Below.refl _ _).alloc (Nat.le_refl _) _).alloc (by simp) _).alloc (by simp; omega) _
  have H0 := Lib.hid h0
  have B0 := Lib.hid b0
  clear h0 b0
  go_wp2_with fail
  refine (avlDone_walk o w.heap.size _ n cap A acts _ hn hn1 (Ha.out.below B0.out) [] (by simp) H0.out).mono ?_
  rintro e w2 ⟨rfl, h2, b2⟩
  have H2 := Lib.hid h2
  have B2 := Lib.hid (B0.out.trans b2)
  clear h2 b2
  go_wp2_with fail
  go_ret
  exact ⟨_, rfl, H2.out, B2.out⟩
end Go.Proofs.YtbdcepkahdecjaaGreat

namespace Go.Proofs.YtbdcepkahdecjaaGreat
open Go.RowKit
@[go_sem] theorem avl_method_Next (n : Nat) (a : Addr) (w : World) : (method (n + 1) 105 (.pointer (some a)) "Next").run Tryz.prog w = .ok (144, .pointer (some a)) w := by kernel_rfl
@[go_sem] theorem avl_method_Key (n : Nat) (a : Addr) (w : World) : (method (n + 1) 105 (.pointer (some a)) "Key").run Tryz.prog w = .ok (142, .pointer (some a)) w := by kernel_rfl
@[go_sem] theorem avl_method_Value (n : Nat) (a : Addr) (w : World) : (method (n + 1) 105 (.pointer (some a)) "Value").run Tryz.prog w = .ok (148, .pointer (some a)) w := by kernel_rfl
set_option maxRecDepth 100000 in
theorem avlKeys_walk {o : Ord} {ob B tb : Nat} {w : World} {t : BT} (h : AvlAt o ob B w tb t) (hl : t.count ≤ 100000) :
    Calls Tryz.prog 75 #[.pointer (some ⟨tb, 0, none⟩)] w fun e w' =>
      e = .returned (.slice (some ⟨w.heap.size, 0, none⟩) t.count t.count) ∧ Blk w' w.heap.size 20 (rowI (t.kvs.map Prod.fst)).toArray ∧ Below w.heap.size w w' := by
  obtain ⟨hh2, _, _⟩ := h.st.hc.header
  simp only [Lay.os, if_true] at hh2
  have hmk := fun w => makeI_run w t.count hl
  have hkb : ∀ b ∈ ob :: tb :: t.ids, b < w.heap.size := h.lt
  have HK := Lib.hid hkb
  have H := Lib.hid h
  clear h hkb
  go_enter Tryz.func75, Tryz.ntmps75
  go_wp2_with fail
  refine (avlIterator_walk _ tb).mono ?_
  rintro e w1 ⟨rfl, rfl⟩
  have hs1 : w.heap.size < (w.alloc (.cells (partI (t.kvs.map Prod.fst) 0).toArray 20)).heap.size := by simp
  have h2 : AvlItAt o ob B ((w.alloc (.cells (partI (t.kvs.map Prod.fst) 0).toArray 20)).alloc (.cells #[.pointer (some ⟨tb, 0, none⟩), .pointer none, .int .u8 0] 108)) tb (w.heap.size + 1) t 0 :=
    ⟨H.out.below (((Below.refl _ _).alloc (Nat.le_refl _) _).alloc (by simp) _), Blk.new' (by simp) _ _, by omega, by have := H.out.lo.1; have := HK.out ob (by simp); omega⟩
  have b2 : Below w.heap.size w ((w.alloc (.cells (partI (t.kvs.map Prod.fst) 0).toArray 20)).alloc (.cells #[.pointer (some ⟨tb, 0, none⟩), .pointer none, .int .u8 0] 108)) := ((Below.refl _ _).alloc (Nat.le_refl _) _).alloc (by simp) _
  have k2 : Blk ((w.alloc (.cells (partI (t.kvs.map Prod.fst) 0).toArray 20)).alloc (.cells #[.pointer (some ⟨tb, 0, none⟩), .pointer none, .int .u8 0] 108)) w.heap.size 20 (partI (t.kvs.map Prod.fst) 0).toArray := Blk.alloc (Blk.new _ _ _) _
  have e0 := partI_zero (t.kvs.map Prod.fst)
  rw [List.length_map, BT.kvs_length] at e0
  rw [← e0]
  have H2 := Lib.hid h2
  have B2 := Lib.hid b2
  have K2 := Lib.hid k2
  clear h2 b2 k2 e0 hs1 hmk
  generalize ((w.alloc (.cells (partI (t.kvs.map Prod.fst) 0).toArray 20)).alloc (.cells #[.pointer (some ⟨tb, 0, none⟩), .pointer none, .int .u8 0] 108)) = w2 at *
  go_wp2_with fail
  go_loopw [5] (fun i wr => ∃ k : Nat, k ≤ t.count ∧ i = .int .i64 k ∧ AvlItAt o ob B wr tb (w.heap.size + 1) t k ∧ Blk wr w.heap.size 20 (partI (t.kvs.map Prod.fst) k).toArray ∧ Below w.heap.size w wr) (fun i _ => t.count - (intOf i).toNat)
  case atStart => exact ⟨0, Nat.zero_le _, rfl, H2.out, K2.out, B2.out⟩
  case round =>
    clear hh2
    obtain ⟨k, hk, rfl, hi, hb, hw⟩ := hrel
    have c1 := avlItNext_walk hi
    by_cases hlt : k < t.count
    · rw [decide_eq_true hlt] at c1
      have C1 := Lib.hid c1
      have Hb := Lib.hid hb
      have Hw := Lib.hid hw
      clear c1 hi hb hw
      go_wp2_with fail
      refine C1.out.mono ?_
      rintro e w3 ⟨rfl, h3, on3⟩
      have b3 := Hb.out.only on3 (by simp)
      have hw3 := Hw.out.trans (on3.below (fun b hb => by simp only [List.mem_singleton] at hb; omega) Hw.out.size)
      rw [show min (k + 1) (t.count + 1) = k + 1 by omega] at h3
      obtain ⟨p, hp⟩ : ∃ p, t.kvs[k]? = some p := ⟨_, List.getElem?_eq_getElem (by rw [BT.kvs_length]; exact hlt)⟩
      obtain ⟨pk, pv⟩ := p
      have c2 := avlItKey_walk h3 hp
      have hf := b3.frozen k
      have hc := b3.cell k
      have hsz : (partI (t.kvs.map Prod.fst) k).toArray.size = t.count := by simp [partI_length, BT.kvs_length]
      have b4 := Blk.set_ b3 k (.iface 3 (.int .i64 (Prod.fst (pk, pv))))
      rw [partI_set (by rw [List.getElem?_map, hp]; rfl)] at b4
      simp only [] at b4
      have on4 : Only [w.heap.size] w3 (w3.setCell ⟨w.heap.size, k, none⟩ (.iface 3 (.int .i64 pk))) := (Only.refl _ _).setCell (.inl (by simp)) _
      have h4 := h3.only on4 (fun b hb hm => by
        simp only [List.mem_singleton] at hb
        subst hb
        simp only [List.mem_cons] at hm
        rcases hm with e | e | e | e
        · have := HK.out ob (by simp); omega
        · have := HK.out tb (by simp); omega
        · omega
        · have := HK.out _ (List.mem_cons_of_mem _ (List.mem_cons_of_mem _ e)); omega)
      have hw4 := hw3.trans (on4.below (fun b hb => by simp only [List.mem_singleton] at hb; omega) hw3.size)
      have F4 := Lib.hid (show AvlItAt o ob B _ tb (w.heap.size + 1) t (k + 1) ∧ Blk _ _ _ _ ∧ Below w.heap.size w _ from ⟨h4, b4, hw4⟩)
      clear h4 hw4 on4
      have C2 := Lib.hid c2
      have H3 := Lib.hid h3
      have B4 := Lib.hid b4
      have W3 := Lib.hid hw3
      clear C1 c2 h3 b4 hw3 on3 Hb Hw
      clear hp
      go_wp2_with fail
      refine C2.out.mono ?_
      rintro e w4 ⟨rfl, rfl⟩
      go_wp2_with fail
      go_roundw
      case rel => exact ⟨k + 1, by omega, by go_num, F4.out⟩
      case measure => simp [intOf]; omega
    · have hkn : k = t.count := by omega
      rw [decide_eq_false hlt] at c1
      have C1 := Lib.hid c1
      have Hb := Lib.hid hb
      have Hw := Lib.hid hw
      clear c1 hi hb hw
      go_wp2_with fail
      refine C1.out.mono ?_
      rintro e w3 ⟨rfl, h3, on3⟩
      have b3 := Hb.out.only on3 (by simp)
      have hw3 := Hw.out.trans (on3.below (fun b hb => by simp only [List.mem_singleton] at hb; omega) Hw.out.size)
      have e1 : k = (t.kvs.map Prod.fst).length := by rw [List.length_map, BT.kvs_length]; exact hkn
      rw [e1, partI_all] at b3
      have B3 := Lib.hid b3
      have W3 := Lib.hid hw3
      clear C1 b3 hw3 on3 Hb Hw h3 e1
      go_wp2_with fail
      go_ret
      exact ⟨rfl, B3.out, W3.out⟩
set_option maxRecDepth 100000 in
theorem avlValues_walk {o : Ord} {ob B tb : Nat} {w : World} {t : BT} (h : AvlAt o ob B w tb t) (hl : t.count ≤ 100000) :
    Calls Tryz.prog 80 #[.pointer (some ⟨tb, 0, none⟩)] w fun e w' =>
      e = .returned (.slice (some ⟨w.heap.size, 0, none⟩) t.count t.count) ∧ Blk w' w.heap.size 20 (rowI (t.kvs.map Prod.snd)).toArray ∧ Below w.heap.size w w' := by
  obtain ⟨hh2, _, _⟩ := h.st.hc.header
  simp only [Lay.os, if_true] at hh2
  have hmk := fun w => makeI_run w t.count hl
  have hkb : ∀ b ∈ ob :: tb :: t.ids, b < w.heap.size := h.lt
  have HK := Lib.hid hkb
  have H := Lib.hid h
  clear h hkb
  go_enter Tryz.func80, Tryz.ntmps80
  go_wp2_with fail
  refine (avlIterator_walk _ tb).mono ?_
  rintro e w1 ⟨rfl, rfl⟩
  have hs1 : w.heap.size < (w.alloc (.cells (partI (t.kvs.map Prod.snd) 0).toArray 20)).heap.size := by simp
  have h2 : AvlItAt o ob B ((w.alloc (.cells (partI (t.kvs.map Prod.snd) 0).toArray 20)).alloc (.cells #[.pointer (some ⟨tb, 0, none⟩), .pointer none, .int .u8 0] 108)) tb (w.heap.size + 1) t 0 :=
    ⟨H.out.below (((Below.refl _ _).alloc (Nat.le_refl _) _).alloc (by simp) _), Blk.new' (by simp) _ _, by omega, by have := H.out.lo.1; have := HK.out ob (by simp); omega⟩
  have b2 : Below w.heap.size w ((w.alloc (.cells (partI (t.kvs.map Prod.snd) 0).toArray 20)).alloc (.cells #[.pointer (some ⟨tb, 0, none⟩), .pointer none, .int .u8 0] 108)) := ((Below.refl _ _).alloc (Nat.le_refl _) _).alloc (by simp) _
  have k2 : Blk ((w.alloc (.cells (partI (t.kvs.map Prod.snd) 0).toArray 20)).alloc (.cells #[.pointer (some ⟨tb, 0, none⟩), .pointer none, .int .u8 0] 108)) w.heap.size 20 (partI (t.kvs.map Prod.snd) 0).toArray := Blk.alloc (Blk.new _ _ _) _
  have e0 := partI_zero (t.kvs.map Prod.snd)
  rw [List.length_map, BT.kvs_length] at e0
  rw [← e0]
  have H2 := Lib.hid h2
  have B2 := Lib.hid b2
  have K2 := Lib.hid k2
  clear h2 b2 k2 e0 hs1 hmk
  generalize ((w.alloc (.cells (partI (t.kvs.map Prod.snd) 0).toArray 20)).alloc (.cells #[.pointer (some ⟨tb, 0, none⟩), .pointer none, .int .u8 0] 108)) = w2 at *
  go_wp2_with fail
  go_loopw [5] (fun i wr => ∃ k : Nat, k ≤ t.count ∧ i = .int .i64 k ∧ AvlItAt o ob B wr tb (w.heap.size + 1) t k ∧ Blk wr w.heap.size 20 (partI (t.kvs.map Prod.snd) k).toArray ∧ Below w.heap.size w wr) (fun i _ => t.count - (intOf i).toNat)
  case atStart => exact ⟨0, Nat.zero_le _, rfl, H2.out, K2.out, B2.out⟩
  case round =>
    clear hh2
    obtain ⟨k, hk, rfl, hi, hb, hw⟩ := hrel
    have c1 := avlItNext_walk hi
    by_cases hlt : k < t.count
    · rw [decide_eq_true hlt] at c1
      have C1 := Lib.hid c1
      have Hb := Lib.hid hb
      have Hw := Lib.hid hw
      clear c1 hi hb hw
      go_wp2_with fail
      refine C1.out.mono ?_
      rintro e w3 ⟨rfl, h3, on3⟩
      have b3 := Hb.out.only on3 (by simp)
      have hw3 := Hw.out.trans (on3.below (fun b hb => by simp only [List.mem_singleton] at hb; omega) Hw.out.size)
      rw [show min (k + 1) (t.count + 1) = k + 1 by omega] at h3
      obtain ⟨p, hp⟩ : ∃ p, t.kvs[k]? = some p := ⟨_, List.getElem?_eq_getElem (by rw [BT.kvs_length]; exact hlt)⟩
      obtain ⟨pk, pv⟩ := p
      have c2 := avlItValue_walk h3 hp
      have hf := b3.frozen k
      have hc := b3.cell k
      have hsz : (partI (t.kvs.map Prod.snd) k).toArray.size = t.count := by simp [partI_length, BT.kvs_length]
      have b4 := Blk.set_ b3 k (.iface 3 (.int .i64 (Prod.snd (pk, pv))))
      rw [partI_set (by rw [List.getElem?_map, hp]; rfl)] at b4
      simp only [] at b4
      have on4 : Only [w.heap.size] w3 (w3.setCell ⟨w.heap.size, k, none⟩ (.iface 3 (.int .i64 pv))) := (Only.refl _ _).setCell (.inl (by simp)) _
      have h4 := h3.only on4 (fun b hb hm => by
        simp only [List.mem_singleton] at hb
        subst hb
        simp only [List.mem_cons] at hm
        rcases hm with e | e | e | e
        · have := HK.out ob (by simp); omega
        · have := HK.out tb (by simp); omega
        · omega
        · have := HK.out _ (List.mem_cons_of_mem _ (List.mem_cons_of_mem _ e)); omega)
      have hw4 := hw3.trans (on4.below (fun b hb => by simp only [List.mem_singleton] at hb; omega) hw3.size)
      have F4 := Lib.hid (show AvlItAt o ob B _ tb (w.heap.size + 1) t (k + 1) ∧ Blk _ _ _ _ ∧ Below w.heap.size w _ from ⟨h4, b4, hw4⟩)
      clear h4 hw4 on4
      have C2 := Lib.hid c2
      have H3 := Lib.hid h3
      have B4 := Lib.hid b4
      have W3 := Lib.hid hw3
      clear C1 c2 h3 b4 hw3 on3 Hb Hw
      clear hp
      go_wp2_with fail
      refine C2.out.mono ?_
      rintro e w4 ⟨rfl, rfl⟩
      go_wp2_with fail
      go_roundw
      case rel => exact ⟨k + 1, by omega, by go_num, F4.out⟩
      case measure => simp [intOf]; omega
    · have hkn : k = t.count := by omega
      rw [decide_eq_false hlt] at c1
      have C1 := Lib.hid c1
      have Hb := Lib.hid hb
      have Hw := Lib.hid hw
      clear c1 hi hb hw
      go_wp2_with fail
      refine C1.out.mono ?_
      rintro e w3 ⟨rfl, h3, on3⟩
      have b3 := Hb.out.only on3 (by simp)
      have hw3 := Hw.out.trans (on3.below (fun b hb => by simp only [List.mem_singleton] at hb; omega) Hw.out.size)
      have e1 : k = (t.kvs.map Prod.snd).length := by rw [List.length_map, BT.kvs_length]; exact hkn
      rw [e1, partI_all] at b3
      have B3 := Lib.hid b3
      have W3 := Lib.hid hw3
      clear C1 b3 hw3 on3 Hb Hw h3 e1
      go_wp2_with fail
      go_ret
      exact ⟨rfl, B3.out, W3.out⟩
end Go.Proofs.YtbdcepkahdecjaaGreat

namespace Go.Proofs.YtbdcepkahdecjaaGreat
open Go.RowKit
@[go_sem] theorem avl_method_Keys (n : Nat) (a : Addr) (w : World) : (method (n + 1) 38 (.pointer (some a)) "Keys").run Tryz.prog w = .ok (75, .pointer (some a)) w := by kernel_rfl
@[go_sem] theorem avl_method_Values (n : Nat) (a : Addr) (w : World) : (method (n + 1) 38 (.pointer (some a)) "Values").run Tryz.prog w = .ok (80, .pointer (some a)) w := by kernel_rfl
@[go_sem] theorem avl_method_Size (n : Nat) (a : Addr) (w : World) : (method (n + 1) 38 (.pointer (some a)) "Size").run Tryz.prog w = .ok (78, .pointer (some a)) w := by kernel_rfl
@[go_sem] theorem avl_method_Empty (n : Nat) (a : Addr) (w : World) : (method (n + 1) 38 (.pointer (some a)) "Empty").run Tryz.prog w = .ok (74, .pointer (some a)) w := by kernel_rfl
set_option maxRecDepth 100000 in
theorem avlStateOf_walk {o : Ord} {ob B tb : Nat} {w : World} {t : BT} (h : AvlAt o ob B w tb t) (hl : t.count ≤ 100000) :
    Calls Tryz.prog 10 #[.iface 38 (.pointer (some ⟨tb, 0, none⟩))] w fun e w' => ∃ v, e = .returned v ∧ StateOwn w' w.heap.size v t.kvs ∧ Below w.heap.size w w' := by
  have b0 : Below w.heap.size w (w.alloc (.cells #[.slice none 0 0, .slice none 0 0, .int .i64 0, .bool false] 28)) := (Below.refl _ _).alloc (Nat.le_refl _) _
  have cb : Blk (w.alloc (.cells #[.slice none 0 0, .slice none 0 0, .int .i64 0, .bool false] 28)) w.heap.size 28 #[.slice none 0 0, .slice none 0 0, .int .i64 0, .bool false] := Blk.new _ _ _
  have h0 := h.below b0
  have hlen := BT.kvs_length t
  have H := Lib.hid h
  have B0 := Lib.hid b0
  have CB := Lib.hid cb
  have H0 := Lib.hid h0
  clear h b0 cb h0
  go_enter Tryz.func10, Tryz.ntmps10
  go_wp2_with fail
  generalize w.alloc (.cells #[.slice none 0 0, .slice none 0 0, .int .i64 0, .bool false] 28) = w0 at *
  refine (avlKeys_walk H0.out hl).mono ?_
  rintro e w1 ⟨rfl, hb1, b1⟩
  have C1 := Lib.hid (numbers_walk w1 _ (t.kvs.map Prod.fst) t.count (by rw [List.length_map, hlen]) hl hb1)
  have cb1 := Lib.hid (CB.out.below b1 CB.out.lt)
  have H1 := Lib.hid (H0.out.below b1)
  have B1 := Lib.hid (B0.out.trans (b1.mono B0.out.size))
  clear hb1 b1 CB H0 B0
  go_wp2_with fail
  refine C1.out.mono ?_
  rintro e w2 ⟨A1, c1, rfl, own1, b2⟩
  have r1 := Lib.hid own1
  have hs1 := Lib.hid (show w.heap.size < w1.heap.size from Nat.lt_of_lt_of_le cb1.out.lt (Nat.le_refl _))
  have cb2 := Lib.hid (cb1.out.below b2 cb1.out.lt)
  have H2 := Lib.hid (H1.out.below b2)
  have B2 := Lib.hid (B1.out.trans (b2.mono B1.out.size))
  clear own1 b2 cb1 H1 B1 C1
  go_wp2_with fail
  refine (avlValues_walk H2.out hl).mono ?_
  rintro e w3 ⟨rfl, hb3, b3⟩
  have C3 := Lib.hid (numbers_walk w3 _ (t.kvs.map Prod.snd) t.count (by rw [List.length_map, hlen]) hl hb3)
  have cb3 := Lib.hid (cb2.out.below b3 cb2.out.lt)
  have H3 := Lib.hid (H2.out.below b3)
  have r3 := Lib.hid (own_below r1.out b3)
  have hs3 := Lib.hid (show w.heap.size < w3.heap.size from cb3.out.lt)
  have B3 := Lib.hid (B2.out.trans (b3.mono B2.out.size))
  clear hb3 b3 cb2 H2 B2 r1
  go_wp2_with fail
  refine C3.out.mono ?_
  rintro e w4 ⟨A2, c2, rfl, own4, b4⟩
  have s4 := Lib.hid own4
  have cb4 := Lib.hid (cb3.out.below b4 cb3.out.lt)
  have H4 := Lib.hid (H3.out.below b4)
  have r4 := Lib.hid (own_below r3.out b4)
  have B4 := Lib.hid (B3.out.trans (b4.mono B3.out.size))
  clear own4 b4 cb3 H3 B3 r3 C3
  go_wp2_with fail
  refine (avlSize_walk H4.out).mono ?_
  rintro e w5 ⟨rfl, rfl⟩
  go_wp2_with fail
  refine (avlEmpty_walk H4.out).mono ?_
  rintro e w5 ⟨rfl, rfl⟩
  have hc0 := cb4.out.cell 0
  have hc1 := cb4.out.cell 1
  have hc2 := cb4.out.cell 2
  have hc3 := cb4.out.cell 3
  have hf := cb4.out.frozen
  go_wp2_with fail
  have fb := Blk.set_ (Blk.set_ (Blk.set_ (Blk.set_ cb4.out 0 (.slice A1 t.count c1)) 1 (.slice A2 t.count c2)) 2 (.int .i64 t.count)) 3 (.bool ((t.count : Int) == 0))
  have Fin : StateOwn (set4 w4 w.heap.size (.slice A1 t.count c1) (.slice A2 t.count c2) (.int .i64 t.count) (.bool ((t.count : Int) == 0))) w.heap.size (.agg #[.slice A1 t.count c1, .slice A2 t.count c2, .int .i64 t.count, .bool ((t.count : Int) == 0)]) t.kvs ∧ Below w.heap.size w (set4 w4 w.heap.size (.slice A1 t.count c1) (.slice A2 t.count c2) (.int .i64 t.count) (.bool ((t.count : Int) == 0))) := by
    have h0 : StateOwn w4 (w.heap.size + 1) (.agg #[.slice A1 t.count c1, .slice A2 t.count c2, .int .i64 t.count, .bool ((t.count : Int) == 0)]) t.kvs :=
      ⟨A1, c1, A2, c2, by rw [hlen], by rw [hlen]; exact own_base r4.out hs1.out, by rw [hlen]; exact own_base s4.out hs3.out⟩
    refine ⟨StateOwn.less ((((h0.far (p := ⟨w.heap.size, 0, none⟩) (Nat.lt_succ_self _) _).far (p := ⟨w.heap.size, 1, none⟩) (Nat.lt_succ_self _) _).far (p := ⟨w.heap.size, 2, none⟩) (Nat.lt_succ_self _) _).far (p := ⟨w.heap.size, 3, none⟩) (Nat.lt_succ_self _) _) (Nat.le_succ _), ?_⟩
    exact (((B4.out.setCell (p := ⟨w.heap.size, 0, none⟩) (Nat.le_refl _) _).setCell (p := ⟨w.heap.size, 1, none⟩) (Nat.le_refl _) _).setCell (p := ⟨w.heap.size, 2, none⟩) (Nat.le_refl _) _).setCell (p := ⟨w.heap.size, 3, none⟩) (Nat.le_refl _) _
  refine bodyPost_ret (results_cell_row rfl _ _ w.heap.size _ _ (0, 0) _ rfl fb Tryz.underlying28 rfl state_size) rfl ?_
  exact ⟨_, rfl, Fin.1, Fin.2⟩
set_option maxHeartbeats 2000000 in
set_option maxRecDepth 100000 in
theorem implAVLState_walk (o : Ord) (ho : o.fine) (n cap : Nat) (A : Option Addr) (acts : List Do) (w : World) (hn : acts.length = n) (hn1 : n ≤ 1000) (ha : ActsAt w w.heap.size A acts) :
    Calls Tryz.prog 7 #[.agg #[.int .i64 o.kind, .int .i64 o.m], .slice A n cap] w fun e w' => ∃ v, e = .returned v ∧ StateOwn w' w.heap.size v (run o acts) ∧ Below w.heap.size w w' := by
  have hr := run_length_le o acts
  have Hr := Lib.hid hr
  have Ha := Lib.hid ha
  clear ha hr
  have b0 : Below w.heap.size w ((w.alloc (.cells #[.int .i64 o.kind, .int .i64 o.m] 23)).alloc (.cells #[.slice none 0 0, .slice none 0 0, .int .i64 0, .bool false] 28)) := ((Below.refl _ _).alloc (Nat.le_refl _) _).alloc (by simp) _
  have s0 : ((w.alloc (.cells #[.int .i64 o.kind, .int .i64 o.m] 23)).alloc (.cells #[.slice none 0 0, .slice none 0 0, .int .i64 0, .bool false] 28)).heap.size = w.heap.size + 1 + 1 := by simp
  have cb : Blk ((w.alloc (.cells #[.int .i64 o.kind, .int .i64 o.m] 23)).alloc (.cells #[.slice none 0 0, .slice none 0 0, .int .i64 0, .bool false] 28)) (w.heap.size + 1) 28 #[.slice none 0 0, .slice none 0 0, .int .i64 0, .bool false] := Blk.new' (by simp) _ _
  have c0 : Blk ((w.alloc (.cells #[.int .i64 o.kind, .int .i64 o.m] 23)).alloc (.cells #[.slice none 0 0, .slice none 0 0, .int .i64 0, .bool false] 28)) w.heap.size 23 #[.int .i64 o.kind, .int .i64 o.m] := Blk.alloc (Blk.new _ _ _) _
  have hd0 := c0.cell 0
  have hd1 := c0.cell 1
  have B0 := Lib.hid b0
  have S0 := Lib.hid s0
  have CB := Lib.hid cb
  clear b0 s0 cb c0
  go_enter Tryz.func7, Tryz.ntmps7
  go_wp2_with fail
  generalize ((w.alloc (.cells #[.int .i64 o.kind, .int .i64 o.m] 23)).alloc (.cells #[.slice none 0 0, .slice none 0 0, .int .i64 0, .bool false] 28)) = w0 at *
  refine (avl_walk o ho n cap A acts w0 hn hn1 ((Ha.out.below B0.out).more (by rw [S0.out]; omega))).mono ?_
  rintro e w1 ⟨tb, rfl, ⟨ob, t, ht, hk⟩, b1⟩
  have hc := BT.kvs_length t
  rw [hk] at hc
  have hs := avlStateOf_walk ht (by rw [← hc]; have := Hr.out; omega)
  rw [hk] at hs
  have C1 := Lib.hid hs
  have lt1 := Lib.hid (show w.heap.size + 1 < w1.heap.size by have := b1.size; have := S0.out; omega)
  have cb1 := Lib.hid (CB.out.below b1 CB.out.lt)
  have B1 := Lib.hid (B0.out.trans (b1.mono B0.out.size))
  clear hs b1 B0 CB ht hk hc Ha hd0 hd1
  go_wp2_with fail
  refine C1.out.mono ?_
  rintro e w2 ⟨v, rfl, hst, b2⟩
  obtain ⟨A1, c1, A2, c2, rfl, own1, own2⟩ := hst
  have cb2 := Lib.hid (cb1.out.below b2 cb1.out.lt)
  have B2 := Lib.hid (B1.out.trans (b2.mono B1.out.size))
  have lt2 := cb2.out.lt
  have hc0 := cb2.out.cell 0
  have hc1 := cb2.out.cell 1
  have hc2 := cb2.out.cell 2
  have hc3 := cb2.out.cell 3
  have hf := cb2.out.frozen
  generalize hl : run o acts = l at *
  have HL := Lib.hid hl
  clear hl
  have fb := Blk.set_ (Blk.set_ (Blk.set_ (Blk.set_ cb2.out 0 (.slice A1 l.length c1)) 1 (.slice A2 l.length c2)) 2 (.int .i64 l.length)) 3 (.bool ((l.length : Int) == 0))
  have fin : StateOwn (set4 w2 (w.heap.size + 1) (.slice A1 l.length c1) (.slice A2 l.length c2) (.int .i64 l.length) (.bool ((l.length : Int) == 0))) w.heap.size (.agg #[.slice A1 l.length c1, .slice A2 l.length c2, .int .i64 l.length, .bool ((l.length : Int) == 0)]) l ∧ Below w.heap.size w (set4 w2 (w.heap.size + 1) (.slice A1 l.length c1) (.slice A2 l.length c2) (.int .i64 l.length) (.bool ((l.length : Int) == 0))) := by
    have h0 : StateOwn w2 w1.heap.size (.agg #[.slice A1 l.length c1, .slice A2 l.length c2, .int .i64 l.length, .bool ((l.length : Int) == 0)]) l :=
      ⟨A1, c1, A2, c2, rfl, own1, own2⟩
    refine ⟨StateOwn.less ((((h0.far (p := ⟨w.heap.size + 1, 0, none⟩) lt1.out _).far (p := ⟨w.heap.size + 1, 1, none⟩) lt1.out _).far (p := ⟨w.heap.size + 1, 2, none⟩) lt1.out _).far (p := ⟨w.heap.size + 1, 3, none⟩) lt1.out _) (by have := lt1.out; omega), ?_⟩
    exact (((B2.out.setCell (p := ⟨w.heap.size + 1, 0, none⟩) (Nat.le_succ _) _).setCell (p := ⟨w.heap.size + 1, 1, none⟩) (Nat.le_succ _) _).setCell (p := ⟨w.heap.size + 1, 2, none⟩) (Nat.le_succ _) _).setCell (p := ⟨w.heap.size + 1, 3, none⟩) (Nat.le_succ _) _
  have FB := Lib.hid fb
  have Fin := Lib.hid fin
  clear fb fin own1 own2
  generalize hn' : (l.length : Int) = n' at *
  clear b2 cb1 B1 C1
  go_wp2_with fail
  refine bodyPost_ret (results_cell_row rfl _ _ (w.heap.size + 1) _ _ (0, 0) _ rfl FB.out Tryz.underlying28 rfl state_size) rfl ?_
  exact ⟨_, rfl, by rw [HL.out]; exact Fin.out.1, Fin.out.2⟩
end Go.Proofs.YtbdcepkahdecjaaGreat
