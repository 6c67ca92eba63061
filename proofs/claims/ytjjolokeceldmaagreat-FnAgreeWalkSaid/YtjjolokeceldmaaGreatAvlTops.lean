/-
  Several texts as one (AvlEnds, AvlIter, AvlMake, AvlKeys, AvlState, AvlGrows, KeptBAvl): each says its own in its remarks.
-/
import Derived.Test.YtjjolokeceldmaaGreatPures
import Derived.Test.YtjjolokeceldmaaGreatAvlCore
import Derived.Deep.LoopGhost
import Derived.LaidEqlPtr
import Derived.Test.YtjjolokeceldmaaGreatIter
import Derived.Test.YtjjolokeceldmaaGreatBases
import Derived.Test.YtjjolokeceldmaaGreatRows0
import Derived.Test.YtjjolokeceldmaaGreatSpecSame
import Derived.Test.YtjjolokeceldmaaGreatKeptBase
namespace Go.Proofs.YtjjolokeceldmaaGreat
open Go.RowKit Lib
theorem xor_i64_1 : bits BinOp.xor IntKind.i64 1 1 = 0 := by kernel_rfl
theorem xor_i64_0 : bits BinOp.xor IntKind.i64 0 1 = 1 := by kernel_rfl
theorem avlNode_size : (Tryz.prog.info? 129).map (fun i => i.size) = some 6 := by kernel_rfl
theorem avlPtr_same (w : World) (a : Addr) : (binOp .eql 78 (.pointer (some a)) (.pointer (some a))).run Tryz.prog w = .ok (.bool true) w := by
 obtain ⟨j, hj, _⟩ := Option.map_eq_some_iff.1 avlNode_size
 exact run_eql_ptr_same w a Tryz.underlying78 hj
theorem avlPtr_other (w : World) {i j : Nat} (h : i ≠ j) {ca cb : Array Value} {ta tb : TypeId} (hi : Blk w i ta ca) (hj : Blk w j tb cb) :
 (binOp .eql 78 (.pointer (some ⟨i, 0, none⟩)) (.pointer (some ⟨j, 0, none⟩))).run Tryz.prog w = .ok (.bool false) w := by
 obtain ⟨x, hx, hs⟩ := Option.map_eq_some_iff.1 avlNode_size
 exact run_eql_ptr_other w Tryz.underlying78 hx (by rw [hs]; decide) (fun e => h (by injection e)) hi hj
theorem avlPtr_nil (w : World) (a : Addr) : (binOp .eql 78 (.pointer none) (.pointer (some a))).run Tryz.prog w = .ok (.bool false) w := by kernel_rfl
theorem avlBottom0_walk (w : World) (H : Hd) (t : BT) (s : St avlL w H [] t) :
 Calls Tryz.prog 167 #[.pointer (some ⟨H.tb, 0, none⟩), .int .i64 0] w fun e w' => e = .returned (ptr t.lo) ∧ w' = w := by
 obtain ⟨hsl, _⟩ := s.hc.slot_cell
 simp only [slot, ptr] at hsl
 have hS := hid s
 clear s
 cases t with
 | nil =>
   simp only [BT.root, Option.map_none] at hsl
   go_enter Tryz.func167, Tryz.ntmps167
   go_wp2_with fail
   go_ret
   exact ⟨rfl, rfl⟩
 | node i l k v b r =>
   obtain ⟨_, _, hl3, hr4⟩ := hS.out.ht.1.cells_
   simp only [BT.root, Option.map_some] at hsl
   generalize hT : BT.node i l k v b r = T at hS
   have HT := hid hT
   simp only [ptr] at hl3 hr4
   clear hT
   go_enter Tryz.func167, Tryz.ntmps167
   go_wp2_with fail
   go_loopg [5, 6] (T.count + 1) (fun g p q wr => ∃ (c : Ctx) (i : Nat) (l : BT) (k v b : Int) (r : BT), p = ptr (some i) ∧ q = ptr l.root ∧ wr = w ∧ St avlL w H c (.node i l k v b r) ∧ T.lo = (BT.node i l k v b r).lo ∧ l.count < g)
   case atStart => exact ⟨[], i, l, k, v, b, r, rfl, rfl, rfl, by rw [HT.out]; exact hS.out, by rw [HT.out], by rw [← HT.out]; simp only [BT.count]; omega⟩
   case round =>
    clear hsl hl3 hr4 HT
    obtain ⟨c, i, l, k, v, b, r, hp, hq, hw, hst, he, hg⟩ := hrel
    subst hw
    have HS := hid hst
    have HE := hid he
    clear he
    cases l with
    | nil =>
      simp only [BT.root, ptr, Option.map_none, Option.map_some] at hp hq
      subst hp hq
      clear hst
      go_wp2_with fail
      go_ret
      exact ⟨by rw [HE.out, BT.lo_nil]; rfl, rfl⟩
    | node i' l' k' v' b' r' =>
      have hst' := hst.downL
      obtain ⟨_, _, hl3, hr4⟩ := hst'.ht.1.cells_
      simp only [BT.root, ptr, Option.map_some] at hp hq
      simp only [ptr] at hl3 hr4
      subst hp hq
      have HS' := hid hst'
      clear hst hst'
      go_wp2_with fail
      go_roundg (l'.count + 1)
      case measure => simp only [BT.count] at hg; omega
      case rel => exact ⟨_, i', l', k', v', b', r', rfl, rfl, rfl, HS'.out, by rw [HE.out, BT.lo_node (by intro h; cases h)], by omega⟩
theorem avlLeft_walk (w : World) (H : Hd) (t : BT) (s : St avlL w H [] t) :
 Calls Tryz.prog 163 #[.pointer (some ⟨H.tb, 0, none⟩)] w fun e w' => e = .returned (ptr t.lo) ∧ w' = w := by
 have c := hid (avlBottom0_walk w H t s)
 clear s
 generalize t.lo = x at *
 go_enter Tryz.func163, Tryz.ntmps163
 go_wp2_with fail
 refine c.out.mono ?_
 rintro e w' ⟨rfl, rfl⟩
 clear c
 go_wp2_with fail
 go_ret
 exact ⟨rfl, rfl⟩
set_option maxRecDepth 100000 in
theorem avlWalk1_walk (w : World) (H : Hd) (c : Ctx) (i : Nat) (l : BT) (k v b : Int) (r : BT) (s : St avlL w H c (.node i l k v b r)) :
 Calls Tryz.prog 168 #[.pointer (some ⟨i, 0, none⟩), .int .i64 1] w fun e w' => e = .returned (ptr (nextId c r)) ∧ w' = w := by
 obtain ⟨_, _, hl3, hr4⟩ := s.ht.1.cells_
 have hp2 := s.ht.1.cellP
 simp only [ptr, Lay.op, if_true] at hl3 hr4 hp2
 cases r with
 | nil =>
   have hS := hid s
   clear s
   simp only [BT.root, Option.map_none, nextId] at *
   generalize hX : Ctx.upR c = X at *
   have HX := hid hX
   generalize hT : BT.node i l k v b .nil = T at hS
   have HT := hid hT
   clear hT hX
   go_enter Tryz.func168, Tryz.ntmps168
   go_wp2_with fail
   go_loopg [0, 5] (c.length + 1) (fun g p q wr => ∃ (c' : Ctx) (s : BT) (i : Nat), s.root = some i ∧ p = ptr (some i) ∧ q = ptr (Ctx.par c') ∧ wr = w ∧ St avlL w H c' s ∧ X = Ctx.upR c' ∧ c'.length < g)
   case atStart => exact ⟨c, T, i, by rw [← HT.out]; rfl, rfl, rfl, rfl, hS.out, HX.out.symm, by omega⟩
   case round =>
    clear hl3 hr4 hp2 hS HX HT
    obtain ⟨c, s, i0, h0, hp, hq, hw, hst, he, hg⟩ := hrel
    subst hw
    have HE := hid he
    clear he
    cases c with
    | nil =>
      simp only [Ctx.par, ptr, Option.map_none, Option.map_some] at hp hq
      subst hp hq
      clear hst
      go_wp2_with fail
      go_ret
      exact ⟨by rw [HE.out]; rfl, rfl⟩
    | cons f c =>
      cases f with
      | rf i l k v b =>
        have hst' := hst.upR
        obtain ⟨_, _, hl3, hr4⟩ := hst'.ht.1.cells_
        have hp2 := hst'.ht.1.cellP
        simp only [Ctx.par, Fr.id, ptr, Option.map_some] at hp hq
        simp only [ptr, Lay.op, if_true, h0, Option.map_some] at hl3 hr4 hp2
        subst hp hq
        have HS := hid hst'
        have H0 := hid h0
        clear hst hst' h0
        have qs := avlPtr_same
        go_wp2_with fail
        go_roundg (c.length + 1)
        case measure => simp only [List.length_cons] at hg; omega
        case rel => exact ⟨c, _, i, rfl, rfl, rfl, rfl, HS.out, HE.out, by omega⟩
      | lf i k v b r =>
        have hst' := hst.upL
        obtain ⟨_, _, hl3, hr4⟩ := hst'.ht.1.cells_
        simp only [Ctx.par, Fr.id, ptr, Option.map_some] at hp hq
        cases r with
        | nil =>
          simp only [BT.root, ptr, Option.map_none] at hl3 hr4
          subst hp hq
          have qn := avlPtr_nil
          clear hst hst' h0
          go_wp2_with fail
          go_ret
          exact ⟨by rw [HE.out]; rfl, rfl⟩
        | node j jl jk jv jb jr =>
          have hne : j ≠ i0 := by
           have hn := hst'.ndt
           cases s with
           | nil => cases h0
           | node x xl xk xv xb xr =>
             simp only [BT.root, Option.some.injEq] at h0
             simp only [BT.ids, List.nodup_cons, List.nodup_append, List.mem_append, List.mem_cons] at hn
             subst h0
             exact fun e => hn.2.2.2 _ (.inl rfl) _ (.inl rfl) e.symm
          have hs0 : ∃ cs, Blk wr i0 129 cs := by
           have hs := hst.ht
           cases s with
           | nil => cases h0
           | node x xl xk xv xb xr =>
             simp only [BT.root, Option.some.injEq] at h0
             subst h0
             exact ⟨_, hs.1⟩
          obtain ⟨cs, hs0⟩ := hs0
          have hsj := hst'.ht.2.2.1
          have qo := avlPtr_other wr hne hsj hs0
          simp only [BT.root, ptr, Option.map_some] at hl3 hr4
          subst hp hq
          clear hst hst' h0 hs0 hsj hne
          go_wp2_with fail
          go_ret
          exact ⟨by rw [HE.out]; rfl, rfl⟩
 | node j jl jk jv jb jr =>
   have hst := s.downR
   have hS := hid hst
   clear s hst
   simp only [BT.root, Option.map_some, nextId] at *
   generalize hT : BT.node j jl jk jv jb jr = T at *
   have HT := hid hT
   have hTj : T.root = some j := by rw [← hT]; rfl
   have HTj := hid hTj
   clear hT hTj
   go_enter Tryz.func168, Tryz.ntmps168
   go_wp2_with fail
   go_loopg [0] (T.count + 1) (fun g p wr => ∃ (c : Ctx) (i : Nat) (l : BT) (k v b : Int) (r : BT), p = ptr (some i) ∧ wr = w ∧ St avlL w H c (.node i l k v b r) ∧ T.lo = (BT.node i l k v b r).lo ∧ l.count < g)
   case atStart => exact ⟨_, j, jl, jk, jv, jb, jr, rfl, rfl, by rw [HT.out]; exact hS.out, by rw [HT.out], by rw [← HT.out]; simp only [BT.count]; omega⟩
   case round =>
    clear hl3 hr4 hp2 HTj hS HT
    obtain ⟨c, i, l, k, v, b, r, hp, hw, hst, he, hg⟩ := hrel
    subst hw
    have HE := hid he
    have hx := xor_i64_1
    clear he
    obtain ⟨_, _, hl3, hr4⟩ := hst.ht.1.cells_
    cases l with
    | nil =>
      simp only [BT.root, ptr, Option.map_none, Option.map_some] at hp hl3 hr4
      subst hp
      clear hst
      go_wp2_with fail
      go_ret
      exact ⟨by rw [HE.out, BT.lo_nil]; rfl, rfl⟩
    | node i' l' k' v' b' r' =>
      have hst' := hst.downL
      simp only [BT.root, ptr, Option.map_some] at hp hl3 hr4
      subst hp
      have HS' := hid hst'
      clear hst hst'
      go_wp2_with fail
      go_roundg (l'.count + 1)
      case measure => simp only [BT.count] at hg; omega
      case rel => exact ⟨_, i', l', k', v', b', r', rfl, rfl, HS'.out, by rw [HE.out, BT.lo_node (by intro h; cases h)], by omega⟩
theorem avlNodeNext_walk (w : World) (H : Hd) (c : Ctx) (i : Nat) (l : BT) (k v b : Int) (r : BT) (s : St avlL w H c (.node i l k v b r)) :
 Calls Tryz.prog 164 #[.pointer (some ⟨i, 0, none⟩)] w fun e w' => e = .returned (ptr (nextId c r)) ∧ w' = w := by
 have h := hid (avlWalk1_walk w H c i l k v b r s)
 clear s
 generalize nextId c r = x at *
 go_enter Tryz.func164, Tryz.ntmps164
 go_wp2_with fail
 refine h.out.mono ?_
 rintro e w' ⟨rfl, rfl⟩
 clear h
 go_wp2_with fail
 go_ret
 exact ⟨rfl, rfl⟩
theorem avlBottom1_walk (w : World) (H : Hd) (t : BT) (s : St avlL w H [] t) :
 Calls Tryz.prog 167 #[.pointer (some ⟨H.tb, 0, none⟩), .int .i64 1] w fun e w' => e = .returned (ptr t.hi) ∧ w' = w := by
 obtain ⟨hsl, _⟩ := s.hc.slot_cell
 simp only [slot, ptr] at hsl
 have hS := hid s
 clear s
 cases t with
 | nil =>
   simp only [BT.root, Option.map_none] at hsl
   go_enter Tryz.func167, Tryz.ntmps167
   go_wp2_with fail
   go_ret
   exact ⟨rfl, rfl⟩
 | node i l k v b r =>
   obtain ⟨_, _, hl3, hr4⟩ := hS.out.ht.1.cells_
   simp only [BT.root, Option.map_some] at hsl
   generalize hT : BT.node i l k v b r = T at hS
   have HT := hid hT
   simp only [ptr] at hl3 hr4
   clear hT
   go_enter Tryz.func167, Tryz.ntmps167
   go_wp2_with fail
   go_loopg [5, 6] (T.count + 1) (fun g p q wr => ∃ (c : Ctx) (i : Nat) (l : BT) (k v b : Int) (r : BT), p = ptr (some i) ∧ q = ptr r.root ∧ wr = w ∧ St avlL w H c (.node i l k v b r) ∧ T.hi = (BT.node i l k v b r).hi ∧ r.count < g)
   case atStart => exact ⟨[], i, l, k, v, b, r, rfl, rfl, rfl, by rw [HT.out]; exact hS.out, by rw [HT.out], by rw [← HT.out]; simp only [BT.count]; omega⟩
   case round =>
    clear hsl hl3 hr4 HT
    obtain ⟨c, i, l, k, v, b, r, hp, hq, hw, hst, he, hg⟩ := hrel
    subst hw
    have HS := hid hst
    have HE := hid he
    clear he
    cases r with
    | nil =>
      simp only [BT.root, ptr, Option.map_none, Option.map_some] at hp hq
      subst hp hq
      clear hst
      go_wp2_with fail
      go_ret
      exact ⟨by rw [HE.out, BT.hi_nil]; rfl, rfl⟩
    | node i' l' k' v' b' r' =>
      have hst' := hst.downR
      obtain ⟨_, _, hl3, hr4⟩ := hst'.ht.1.cells_
      simp only [BT.root, ptr, Option.map_some] at hp hq
      simp only [ptr] at hl3 hr4
      subst hp hq
      have HS' := hid hst'
      clear hst hst'
      go_wp2_with fail
      go_roundg (r'.count + 1)
      case measure => simp only [BT.count] at hg; omega
      case rel => exact ⟨_, i', l', k', v', b', r', rfl, rfl, rfl, HS'.out, by rw [HE.out, BT.hi_node (by intro h; cases h)], by omega⟩
theorem avlRight_walk (w : World) (H : Hd) (t : BT) (s : St avlL w H [] t) :
 Calls Tryz.prog 165 #[.pointer (some ⟨H.tb, 0, none⟩)] w fun e w' => e = .returned (ptr t.hi) ∧ w' = w := by
 have c := hid (avlBottom1_walk w H t s)
 clear s
 generalize t.hi = x at *
 go_enter Tryz.func165, Tryz.ntmps165
 go_wp2_with fail
 refine c.out.mono ?_
 rintro e w' ⟨rfl, rfl⟩
 clear c
 go_wp2_with fail
 go_ret
 exact ⟨rfl, rfl⟩
set_option maxRecDepth 100000 in
theorem avlWalk0_walk (w : World) (H : Hd) (c : Ctx) (i : Nat) (l : BT) (k v b : Int) (r : BT) (s : St avlL w H c (.node i l k v b r)) :
 Calls Tryz.prog 168 #[.pointer (some ⟨i, 0, none⟩), .int .i64 0] w fun e w' => e = .returned (ptr (prevId c l)) ∧ w' = w := by
 obtain ⟨_, _, hl3, hr4⟩ := s.ht.1.cells_
 have hp2 := s.ht.1.cellP
 simp only [ptr, Lay.op, if_true] at hl3 hr4 hp2
 cases l with
 | nil =>
   have hS := hid s
   clear s
   simp only [BT.root, Option.map_none, prevId] at *
   generalize hX : Ctx.upL c = X at *
   have HX := hid hX
   generalize hT : BT.node i .nil k v b r = T at hS
   have HT := hid hT
   clear hT hX
   go_enter Tryz.func168, Tryz.ntmps168
   go_wp2_with fail
   go_loopg [0, 5] (c.length + 1) (fun g p q wr => ∃ (c' : Ctx) (s : BT) (i : Nat), s.root = some i ∧ p = ptr (some i) ∧ q = ptr (Ctx.par c') ∧ wr = w ∧ St avlL w H c' s ∧ X = Ctx.upL c' ∧ c'.length < g)
   case atStart => exact ⟨c, T, i, by rw [← HT.out]; rfl, rfl, rfl, rfl, hS.out, HX.out.symm, by omega⟩
   case round =>
    clear hl3 hr4 hp2 hS HX HT
    obtain ⟨c, s, i0, h0, hp, hq, hw, hst, he, hg⟩ := hrel
    subst hw
    have HE := hid he
    clear he
    cases c with
    | nil =>
      simp only [Ctx.par, ptr, Option.map_none, Option.map_some] at hp hq
      subst hp hq
      clear hst
      go_wp2_with fail
      go_ret
      exact ⟨by rw [HE.out]; rfl, rfl⟩
    | cons f c =>
      cases f with
      | lf i k v b r =>
        have hst' := hst.upL
        obtain ⟨_, _, hl3, hr4⟩ := hst'.ht.1.cells_
        have hp2 := hst'.ht.1.cellP
        simp only [Ctx.par, Fr.id, ptr, Option.map_some] at hp hq
        simp only [ptr, Lay.op, if_true, h0, Option.map_some] at hl3 hr4 hp2
        subst hp hq
        have HS := hid hst'
        have H0 := hid h0
        clear hst hst' h0
        have qs := avlPtr_same
        go_wp2_with fail
        go_roundg (c.length + 1)
        case measure => simp only [List.length_cons] at hg; omega
        case rel => exact ⟨c, _, i, rfl, rfl, rfl, rfl, HS.out, HE.out, by omega⟩
      | rf i l k v b =>
        have hst' := hst.upR
        obtain ⟨_, _, hl3, hr4⟩ := hst'.ht.1.cells_
        simp only [Ctx.par, Fr.id, ptr, Option.map_some] at hp hq
        cases l with
        | nil =>
          simp only [BT.root, ptr, Option.map_none] at hl3 hr4
          subst hp hq
          have qn := avlPtr_nil
          clear hst hst' h0
          go_wp2_with fail
          go_ret
          exact ⟨by rw [HE.out]; rfl, rfl⟩
        | node j jl jk jv jb jr =>
          have hne : j ≠ i0 := by
           have hn := hst'.ndt
           cases s with
           | nil => cases h0
           | node x xl xk xv xb xr =>
             simp only [BT.root, Option.some.injEq] at h0
             simp only [BT.ids, List.nodup_cons, List.nodup_append, List.mem_append, List.mem_cons] at hn
             subst h0
             exact fun e => hn.2.2.2 _ (.inl rfl) _ (.inl rfl) e
          have hs0 : ∃ cs, Blk wr i0 129 cs := by
           have hs := hst.ht
           cases s with
           | nil => cases h0
           | node x xl xk xv xb xr =>
             simp only [BT.root, Option.some.injEq] at h0
             subst h0
             exact ⟨_, hs.1⟩
          obtain ⟨cs, hs0⟩ := hs0
          have hsj := hst'.ht.2.1.1
          have qo := avlPtr_other wr hne hsj hs0
          simp only [BT.root, ptr, Option.map_some] at hl3 hr4
          subst hp hq
          clear hst hst' h0 hs0 hsj hne
          go_wp2_with fail
          go_ret
          exact ⟨by rw [HE.out]; rfl, rfl⟩
 | node j jl jk jv jb jr =>
   have hst := s.downL
   have hS := hid hst
   clear s hst
   simp only [BT.root, Option.map_some, prevId] at *
   generalize hT : BT.node j jl jk jv jb jr = T at *
   have HT := hid hT
   have hTj : T.root = some j := by rw [← hT]; rfl
   have HTj := hid hTj
   clear hT hTj
   go_enter Tryz.func168, Tryz.ntmps168
   go_wp2_with fail
   go_loopg [0] (T.count + 1) (fun g p wr => ∃ (c : Ctx) (i : Nat) (l : BT) (k v b : Int) (r : BT), p = ptr (some i) ∧ wr = w ∧ St avlL w H c (.node i l k v b r) ∧ T.hi = (BT.node i l k v b r).hi ∧ r.count < g)
   case atStart => exact ⟨_, j, jl, jk, jv, jb, jr, rfl, rfl, by rw [HT.out]; exact hS.out, by rw [HT.out], by rw [← HT.out]; simp only [BT.count]; omega⟩
   case round =>
    clear hl3 hr4 hp2 HTj hS HT
    obtain ⟨c, i, l, k, v, b, r, hp, hw, hst, he, hg⟩ := hrel
    subst hw
    have HE := hid he
    have hx := xor_i64_0
    clear he
    obtain ⟨_, _, hl3, hr4⟩ := hst.ht.1.cells_
    cases r with
    | nil =>
      simp only [BT.root, ptr, Option.map_none, Option.map_some] at hp hl3 hr4
      subst hp
      clear hst
      go_wp2_with fail
      go_ret
      exact ⟨by rw [HE.out, BT.hi_nil]; rfl, rfl⟩
    | node i' l' k' v' b' r' =>
      have hst' := hst.downR
      simp only [BT.root, ptr, Option.map_some] at hp hl3 hr4
      subst hp
      have HS' := hid hst'
      clear hst hst'
      go_wp2_with fail
      go_roundg (r'.count + 1)
      case measure => simp only [BT.count] at hg; omega
      case rel => exact ⟨_, i', l', k', v', b', r', rfl, rfl, HS'.out, by rw [HE.out, BT.hi_node (by intro h; cases h)], by omega⟩
theorem avlNodePrev_walk (w : World) (H : Hd) (c : Ctx) (i : Nat) (l : BT) (k v b : Int) (r : BT) (s : St avlL w H c (.node i l k v b r)) :
 Calls Tryz.prog 166 #[.pointer (some ⟨i, 0, none⟩)] w fun e w' => e = .returned (ptr (prevId c l)) ∧ w' = w := by
 have h := hid (avlWalk0_walk w H c i l k v b r s)
 clear s
 generalize prevId c l = x at *
 go_enter Tryz.func166, Tryz.ntmps166
 go_wp2_with fail
 refine h.out.mono ?_
 rintro e w' ⟨rfl, rfl⟩
 clear h
 go_wp2_with fail
 go_ret
 exact ⟨rfl, rfl⟩
end Go.Proofs.YtjjolokeceldmaaGreat

namespace Go.Proofs.YtjjolokeceldmaaGreat
open Go.RowKit Lib
theorem itNext_start (w : World) (itb : Nat) (H : Hd) (t : BT) (s : St avlL w H [] t) (hb : Blk w itb 80 #[.pointer (some ⟨H.tb, 0, none⟩), .pointer none, .int .u8 0]) :
 Calls Tryz.prog 158 #[.pointer (some ⟨itb, 0, none⟩)] w fun e w' => e = .returned (.bool t.lo.isSome) ∧ Blk w' itb 80 #[.pointer (some ⟨H.tb, 0, none⟩), ptr t.lo, .int .u8 (if t.lo.isSome then 1 else 2)] ∧ Only [itb] w w' := by
 have ho := s.off hb (by decide) (by decide)
 have hb1 := Blk.set_ hb 2 (.int .u8 1)
 have on1 : Only [itb] w (w.setCell ⟨itb, 2, none⟩ (.int .u8 1)) := (Only.refl _ _).setCell (.inl (by simp)) _
 have c := avlLeft_walk _ H t (s.only1 ho on1)
 have hc0 := hb.cell 0
 have hc1 := hb.cell 1
 have hc2 := hb.cell 2
 have hf := hb.frozen
 cases hx : t.lo with
 | none =>
   rw [hx] at c
   simp only [ptr, Option.map_none] at c
   have C := hid c
   have fin : Blk (((w.setCell ⟨itb, 2, none⟩ (.int .u8 1)).setCell ⟨itb, 1, none⟩ (.pointer none)).setCell ⟨itb, 2, none⟩ (.int .u8 2)) itb 80 #[.pointer (some ⟨H.tb, 0, none⟩), ptr none, .int .u8 (if (none : Option Nat).isSome then 1 else 2)] ∧ Only [itb] w (((w.setCell ⟨itb, 2, none⟩ (.int .u8 1)).setCell ⟨itb, 1, none⟩ (.pointer none)).setCell ⟨itb, 2, none⟩ (.int .u8 2)) :=
    ⟨Blk.set_ (Blk.set_ hb1 1 (.pointer none)) 2 (.int .u8 2), (on1.setCell (.inl (by simp)) _).setCell (.inl (by simp)) _⟩
   have Fin := hid fin
   clear fin s hb ho hb1 on1 c hx
   go_enter Tryz.func158, Tryz.ntmps158
   go_wp2_with fail
   refine C.out.mono ?_
   rintro e w' ⟨rfl, rfl⟩
   clear C
   go_wp2_with fail
   go_ret
   exact ⟨rfl, Fin.out⟩
 | some j =>
   rw [hx] at c
   simp only [ptr, Option.map_some] at c
   have C := hid c
   have fin : Blk ((w.setCell ⟨itb, 2, none⟩ (.int .u8 1)).setCell ⟨itb, 1, none⟩ (.pointer (some ⟨j, 0, none⟩))) itb 80 #[.pointer (some ⟨H.tb, 0, none⟩), ptr (some j), .int .u8 (if (some j : Option Nat).isSome then 1 else 2)] ∧ Only [itb] w ((w.setCell ⟨itb, 2, none⟩ (.int .u8 1)).setCell ⟨itb, 1, none⟩ (.pointer (some ⟨j, 0, none⟩))) :=
    ⟨Blk.set_ hb1 1 _, (on1.setCell (.inl (by simp)) _)⟩
   have Fin := hid fin
   clear fin s hb ho hb1 on1 c hx
   go_enter Tryz.func158, Tryz.ntmps158
   go_wp2_with fail
   refine C.out.mono ?_
   rintro e w' ⟨rfl, rfl⟩
   clear C
   go_wp2_with fail
   go_ret
   exact ⟨rfl, Fin.out⟩
theorem itNext_on (w : World) (itb : Nat) (H : Hd) (c : Ctx) (i : Nat) (l : BT) (k v b : Int) (r : BT) (s : St avlL w H c (.node i l k v b r)) (hb : Blk w itb 80 #[.pointer (some ⟨H.tb, 0, none⟩), .pointer (some ⟨i, 0, none⟩), .int .u8 1]) :
 Calls Tryz.prog 158 #[.pointer (some ⟨itb, 0, none⟩)] w fun e w' => e = .returned (.bool (nextId c r).isSome) ∧ Blk w' itb 80 #[.pointer (some ⟨H.tb, 0, none⟩), ptr (nextId c r), .int .u8 (if (nextId c r).isSome then 1 else 2)] ∧ Only [itb] w w' := by
 have cn := avlNodeNext_walk _ H c i l k v b r s
 have hc0 := hb.cell 0
 have hc1 := hb.cell 1
 have hc2 := hb.cell 2
 have hf := hb.frozen
 generalize nextId c r = x at *
 cases x with
 | none =>
   simp only [ptr, Option.map_none] at cn
   have C := hid cn
   have fin : Blk ((w.setCell ⟨itb, 1, none⟩ (.pointer none)).setCell ⟨itb, 2, none⟩ (.int .u8 2)) itb 80 #[.pointer (some ⟨H.tb, 0, none⟩), ptr none, .int .u8 (if (none : Option Nat).isSome then 1 else 2)] ∧ Only [itb] w ((w.setCell ⟨itb, 1, none⟩ (.pointer none)).setCell ⟨itb, 2, none⟩ (.int .u8 2)) :=
    ⟨Blk.set_ (Blk.set_ hb 1 (.pointer none)) 2 (.int .u8 2), ((Only.refl _ _).setCell (.inl (by simp)) _).setCell (.inl (by simp)) _⟩
   have Fin := hid fin
   clear fin s hb cn
   go_enter Tryz.func158, Tryz.ntmps158
   go_wp2_with fail
   refine C.out.mono ?_
   rintro e w' ⟨rfl, rfl⟩
   clear C
   go_wp2_with fail
   go_ret
   exact ⟨rfl, Fin.out⟩
 | some j =>
   simp only [ptr, Option.map_some] at cn
   have C := hid cn
   have fin : Blk (w.setCell ⟨itb, 1, none⟩ (.pointer (some ⟨j, 0, none⟩))) itb 80 #[.pointer (some ⟨H.tb, 0, none⟩), ptr (some j), .int .u8 (if (some j : Option Nat).isSome then 1 else 2)] ∧ Only [itb] w (w.setCell ⟨itb, 1, none⟩ (.pointer (some ⟨j, 0, none⟩))) :=
    ⟨Blk.set_ hb 1 _, ((Only.refl _ _).setCell (.inl (by simp)) _)⟩
   have Fin := hid fin
   clear fin s hb cn
   go_enter Tryz.func158, Tryz.ntmps158
   go_wp2_with fail
   refine C.out.mono ?_
   rintro e w' ⟨rfl, rfl⟩
   clear C
   go_wp2_with fail
   go_ret
   exact ⟨rfl, Fin.out⟩
theorem itNext_end (w : World) (itb : Nat) (H : Hd) (hb : Blk w itb 80 #[.pointer (some ⟨H.tb, 0, none⟩), .pointer none, .int .u8 2]) :
 Calls Tryz.prog 158 #[.pointer (some ⟨itb, 0, none⟩)] w fun e w' => e = .returned (.bool false) ∧ Blk w' itb 80 #[.pointer (some ⟨H.tb, 0, none⟩), .pointer none, .int .u8 2] ∧ Only [itb] w w' := by
 have hc0 := hb.cell 0
 have hc1 := hb.cell 1
 have hc2 := hb.cell 2
 have hf := hb.frozen
 have fin : Blk (w.setCell ⟨itb, 2, none⟩ (.int .u8 2)) itb 80 #[.pointer (some ⟨H.tb, 0, none⟩), .pointer none, .int .u8 2] ∧ Only [itb] w (w.setCell ⟨itb, 2, none⟩ (.int .u8 2)) :=
  ⟨Blk.set_ hb 2 _, ((Only.refl _ _).setCell (.inl (by simp)) _)⟩
 have Fin := hid fin
 clear fin hb
 go_enter Tryz.func158, Tryz.ntmps158
 go_wp2_with fail
 go_ret
 exact ⟨rfl, Fin.out⟩
theorem itPrev_start (w : World) (itb : Nat) (H : Hd) (t : BT) (s : St avlL w H [] t) (hb : Blk w itb 80 #[.pointer (some ⟨H.tb, 0, none⟩), .pointer none, .int .u8 2]) :
 Calls Tryz.prog 160 #[.pointer (some ⟨itb, 0, none⟩)] w fun e w' => e = .returned (.bool t.hi.isSome) ∧ Blk w' itb 80 #[.pointer (some ⟨H.tb, 0, none⟩), ptr t.hi, .int .u8 (if t.hi.isSome then 1 else 0)] ∧ Only [itb] w w' := by
 have ho := s.off hb (by decide) (by decide)
 have hb1 := Blk.set_ hb 2 (.int .u8 1)
 have on1 : Only [itb] w (w.setCell ⟨itb, 2, none⟩ (.int .u8 1)) := (Only.refl _ _).setCell (.inl (by simp)) _
 have c := avlRight_walk _ H t (s.only1 ho on1)
 have hc0 := hb.cell 0
 have hc1 := hb.cell 1
 have hc2 := hb.cell 2
 have hf := hb.frozen
 cases hx : t.hi with
 | none =>
   rw [hx] at c
   simp only [ptr, Option.map_none] at c
   have C := hid c
   have fin : Blk (((w.setCell ⟨itb, 2, none⟩ (.int .u8 1)).setCell ⟨itb, 1, none⟩ (.pointer none)).setCell ⟨itb, 2, none⟩ (.int .u8 0)) itb 80 #[.pointer (some ⟨H.tb, 0, none⟩), ptr none, .int .u8 (if (none : Option Nat).isSome then 1 else 0)] ∧ Only [itb] w (((w.setCell ⟨itb, 2, none⟩ (.int .u8 1)).setCell ⟨itb, 1, none⟩ (.pointer none)).setCell ⟨itb, 2, none⟩ (.int .u8 0)) :=
    ⟨Blk.set_ (Blk.set_ hb1 1 (.pointer none)) 2 (.int .u8 0), (on1.setCell (.inl (by simp)) _).setCell (.inl (by simp)) _⟩
   have Fin := hid fin
   clear fin s hb ho hb1 on1 c hx
   go_enter Tryz.func160, Tryz.ntmps160
   go_wp2_with fail
   refine C.out.mono ?_
   rintro e w' ⟨rfl, rfl⟩
   clear C
   go_wp2_with fail
   go_ret
   exact ⟨rfl, Fin.out⟩
 | some j =>
   rw [hx] at c
   simp only [ptr, Option.map_some] at c
   have C := hid c
   have fin : Blk ((w.setCell ⟨itb, 2, none⟩ (.int .u8 1)).setCell ⟨itb, 1, none⟩ (.pointer (some ⟨j, 0, none⟩))) itb 80 #[.pointer (some ⟨H.tb, 0, none⟩), ptr (some j), .int .u8 (if (some j : Option Nat).isSome then 1 else 0)] ∧ Only [itb] w ((w.setCell ⟨itb, 2, none⟩ (.int .u8 1)).setCell ⟨itb, 1, none⟩ (.pointer (some ⟨j, 0, none⟩))) :=
    ⟨Blk.set_ hb1 1 _, (on1.setCell (.inl (by simp)) _)⟩
   have Fin := hid fin
   clear fin s hb ho hb1 on1 c hx
   go_enter Tryz.func160, Tryz.ntmps160
   go_wp2_with fail
   refine C.out.mono ?_
   rintro e w' ⟨rfl, rfl⟩
   clear C
   go_wp2_with fail
   go_ret
   exact ⟨rfl, Fin.out⟩
theorem itPrev_on (w : World) (itb : Nat) (H : Hd) (c : Ctx) (i : Nat) (l : BT) (k v b : Int) (r : BT) (s : St avlL w H c (.node i l k v b r)) (hb : Blk w itb 80 #[.pointer (some ⟨H.tb, 0, none⟩), .pointer (some ⟨i, 0, none⟩), .int .u8 1]) :
 Calls Tryz.prog 160 #[.pointer (some ⟨itb, 0, none⟩)] w fun e w' => e = .returned (.bool (prevId c l).isSome) ∧ Blk w' itb 80 #[.pointer (some ⟨H.tb, 0, none⟩), ptr (prevId c l), .int .u8 (if (prevId c l).isSome then 1 else 0)] ∧ Only [itb] w w' := by
 have cn := avlNodePrev_walk _ H c i l k v b r s
 have hc0 := hb.cell 0
 have hc1 := hb.cell 1
 have hc2 := hb.cell 2
 have hf := hb.frozen
 generalize prevId c l = x at *
 cases x with
 | none =>
   simp only [ptr, Option.map_none] at cn
   have C := hid cn
   have fin : Blk ((w.setCell ⟨itb, 1, none⟩ (.pointer none)).setCell ⟨itb, 2, none⟩ (.int .u8 0)) itb 80 #[.pointer (some ⟨H.tb, 0, none⟩), ptr none, .int .u8 (if (none : Option Nat).isSome then 1 else 0)] ∧ Only [itb] w ((w.setCell ⟨itb, 1, none⟩ (.pointer none)).setCell ⟨itb, 2, none⟩ (.int .u8 0)) :=
    ⟨Blk.set_ (Blk.set_ hb 1 (.pointer none)) 2 (.int .u8 0), ((Only.refl _ _).setCell (.inl (by simp)) _).setCell (.inl (by simp)) _⟩
   have Fin := hid fin
   clear fin s hb cn
   go_enter Tryz.func160, Tryz.ntmps160
   go_wp2_with fail
   refine C.out.mono ?_
   rintro e w' ⟨rfl, rfl⟩
   clear C
   go_wp2_with fail
   go_ret
   exact ⟨rfl, Fin.out⟩
 | some j =>
   simp only [ptr, Option.map_some] at cn
   have C := hid cn
   have fin : Blk (w.setCell ⟨itb, 1, none⟩ (.pointer (some ⟨j, 0, none⟩))) itb 80 #[.pointer (some ⟨H.tb, 0, none⟩), ptr (some j), .int .u8 (if (some j : Option Nat).isSome then 1 else 0)] ∧ Only [itb] w (w.setCell ⟨itb, 1, none⟩ (.pointer (some ⟨j, 0, none⟩))) :=
    ⟨Blk.set_ hb 1 _, ((Only.refl _ _).setCell (.inl (by simp)) _)⟩
   have Fin := hid fin
   clear fin s hb cn
   go_enter Tryz.func160, Tryz.ntmps160
   go_wp2_with fail
   refine C.out.mono ?_
   rintro e w' ⟨rfl, rfl⟩
   clear C
   go_wp2_with fail
   go_ret
   exact ⟨rfl, Fin.out⟩
theorem itPrev_end (w : World) (itb : Nat) (H : Hd) (hb : Blk w itb 80 #[.pointer (some ⟨H.tb, 0, none⟩), .pointer none, .int .u8 0]) :
 Calls Tryz.prog 160 #[.pointer (some ⟨itb, 0, none⟩)] w fun e w' => e = .returned (.bool false) ∧ Blk w' itb 80 #[.pointer (some ⟨H.tb, 0, none⟩), .pointer none, .int .u8 0] ∧ Only [itb] w w' := by
 have hc0 := hb.cell 0
 have hc1 := hb.cell 1
 have hc2 := hb.cell 2
 have hf := hb.frozen
 have fin : Blk (w.setCell ⟨itb, 2, none⟩ (.int .u8 0)) itb 80 #[.pointer (some ⟨H.tb, 0, none⟩), .pointer none, .int .u8 0] ∧ Only [itb] w (w.setCell ⟨itb, 2, none⟩ (.int .u8 0)) :=
  ⟨Blk.set_ hb 2 _, ((Only.refl _ _).setCell (.inl (by simp)) _)⟩
 have Fin := hid fin
 clear fin hb
 go_enter Tryz.func160, Tryz.ntmps160
 go_wp2_with fail
 go_ret
 exact ⟨rfl, Fin.out⟩
theorem itBegin_walk (w : World) (itb : Nat) (H : Hd) (x y : Value) (hb : Blk w itb 80 #[.pointer (some ⟨H.tb, 0, none⟩), x, y]) :
 Calls Tryz.prog 153 #[.pointer (some ⟨itb, 0, none⟩)] w fun e w' => e = .returned (.tuple #[]) ∧ Blk w' itb 80 #[.pointer (some ⟨H.tb, 0, none⟩), .pointer none, .int .u8 0] ∧ Only [itb] w w' := by
 have hc0 := hb.cell 0
 have hc1 := hb.cell 1
 have hc2 := hb.cell 2
 have hf := hb.frozen
 have fin : Blk ((w.setCell ⟨itb, 1, none⟩ (.pointer none)).setCell ⟨itb, 2, none⟩ (.int .u8 0)) itb 80 #[.pointer (some ⟨H.tb, 0, none⟩), .pointer none, .int .u8 0] ∧ Only [itb] w ((w.setCell ⟨itb, 1, none⟩ (.pointer none)).setCell ⟨itb, 2, none⟩ (.int .u8 0)) :=
  ⟨Blk.set_ (Blk.set_ hb 1 _) 2 _, ((Only.refl _ _).setCell (.inl (by simp)) _).setCell (.inl (by simp)) _⟩
 have Fin := hid fin
 clear fin hb
 go_enter Tryz.func153, Tryz.ntmps153
 go_wp2_with fail
 go_end0
 exact ⟨rfl, Fin.out⟩
theorem itEnd_walk (w : World) (itb : Nat) (H : Hd) (x y : Value) (hb : Blk w itb 80 #[.pointer (some ⟨H.tb, 0, none⟩), x, y]) :
 Calls Tryz.prog 154 #[.pointer (some ⟨itb, 0, none⟩)] w fun e w' => e = .returned (.tuple #[]) ∧ Blk w' itb 80 #[.pointer (some ⟨H.tb, 0, none⟩), .pointer none, .int .u8 2] ∧ Only [itb] w w' := by
 have hc0 := hb.cell 0
 have hc1 := hb.cell 1
 have hc2 := hb.cell 2
 have hf := hb.frozen
 have fin : Blk ((w.setCell ⟨itb, 1, none⟩ (.pointer none)).setCell ⟨itb, 2, none⟩ (.int .u8 2)) itb 80 #[.pointer (some ⟨H.tb, 0, none⟩), .pointer none, .int .u8 2] ∧ Only [itb] w ((w.setCell ⟨itb, 1, none⟩ (.pointer none)).setCell ⟨itb, 2, none⟩ (.int .u8 2)) :=
  ⟨Blk.set_ (Blk.set_ hb 1 _) 2 _, ((Only.refl _ _).setCell (.inl (by simp)) _).setCell (.inl (by simp)) _⟩
 have Fin := hid fin
 clear fin hb
 go_enter Tryz.func154, Tryz.ntmps154
 go_wp2_with fail
 go_end0
 exact ⟨rfl, Fin.out⟩
theorem itKey_walk (w : World) (itb : Nat) (H : Hd) (c : Ctx) (i : Nat) (l : BT) (k v b : Int) (r : BT) (s : St avlL w H c (.node i l k v b r)) (hb : Blk w itb 80 #[.pointer (some ⟨H.tb, 0, none⟩), .pointer (some ⟨i, 0, none⟩), .int .u8 1]) :
 Calls Tryz.prog 156 #[.pointer (some ⟨itb, 0, none⟩)] w fun e w' => e = .returned (.iface 3 (.int .i64 k)) ∧ w' = w := by
 have hc1 := hb.cell 1
 obtain ⟨hk0, hv1, _, _⟩ := s.ht.1.cells_
 clear s hb
 go_enter Tryz.func156, Tryz.ntmps156
 go_wp2_with fail
 go_ret
 exact ⟨rfl, rfl⟩
theorem itValue_walk (w : World) (itb : Nat) (H : Hd) (c : Ctx) (i : Nat) (l : BT) (k v b : Int) (r : BT) (s : St avlL w H c (.node i l k v b r)) (hb : Blk w itb 80 #[.pointer (some ⟨H.tb, 0, none⟩), .pointer (some ⟨i, 0, none⟩), .int .u8 1]) :
 Calls Tryz.prog 162 #[.pointer (some ⟨itb, 0, none⟩)] w fun e w' => e = .returned (.iface 3 (.int .i64 v)) ∧ w' = w := by
 have hc1 := hb.cell 1
 obtain ⟨hk0, hv1, _, _⟩ := s.ht.1.cells_
 clear s hb
 go_enter Tryz.func162, Tryz.ntmps162
 go_wp2_with fail
 go_ret
 exact ⟨rfl, rfl⟩
theorem avlIterator_walk (w : World) (tb : Nat) : Calls Tryz.prog 15 #[.pointer (some ⟨tb, 0, none⟩)] w fun e w' =>
 e = .returned (.iface 76 (.pointer (some ⟨w.heap.size, 0, none⟩))) ∧ w' = w.alloc (.cells #[.pointer (some ⟨tb, 0, none⟩), .pointer none, .int .u8 0] 80) := by
 go_enter Tryz.func15, Tryz.ntmps15
 go_wp2_with fail
 go_ret
 exact ⟨rfl, rfl⟩
structure AvlItAt (o : Ord) (ob B : Nat) (w : World) (tb itb : Nat) (t : BT) (p : Nat) : Prop where
 at_ : AvlAt o ob B w tb t
 it : Blk w itb 80 (itCells tb t.ord p)
 le : p ≤ t.count + 1
 lo : B ≤ itb
section
variable {o : Ord} {ob B tb itb p : Nat} {w w' : World} {t : BT}
theorem AvlItAt.move {p' : Nat} (h : AvlItAt o ob B w tb itb t p) (k : Only [itb] w w') (hb : Blk w' itb 80 (itCells tb t.ord p')) (hp : p' ≤ t.count + 1) : AvlItAt o ob B w' tb itb t p' := by
 have ho := h.at_.st.off h.it (by decide) (by decide)
 have hob : itb ≠ ob := Blk.ne_ h.it h.at_.ord (by decide)
 refine ⟨h.at_.same fun b hb' => k.block b (h.at_.lt b hb') fun hm => (?_ : False), hb, hp, h.lo⟩
 simp only [List.mem_singleton] at hm
 subst hm
 rcases List.mem_cons.1 hb' with e | e
 ·exact hob e
 ·exact ho e
theorem AvlItAt.only {S : List Nat} (h : AvlItAt o ob B w tb itb t p) (k : Only S w w') (hs : ∀ b ∈ S, b ∉ ob :: tb :: itb :: t.ids) : AvlItAt o ob B w' tb itb t p := by
 have hsz := h.at_.lt
 refine ⟨h.at_.same fun b hb => k.block b (hsz b hb) fun hm => ?_, h.it.same (k.block _ h.it.lt fun hm => hs _ hm (by simp)), h.le, h.lo⟩
 refine hs b hm ?_
 simp only [List.mem_cons] at hb ⊢
 rcases hb with e | e | e
 ·exact .inl e
 ·exact .inr (.inl e)
 ·exact .inr (.inr (.inr e))
theorem AvlItAt.fits (h : AvlItAt o ob B w tb itb t p) : (p = 0 ∧ itCells tb t.ord p = #[.pointer (some ⟨tb, 0, none⟩), .pointer none, .int .u8 0]) ∨ (p = t.count + 1 ∧ itCells tb t.ord p = #[.pointer (some ⟨tb, 0, none⟩), .pointer none, .int .u8 2]) ∨
 ∃ q, p = q + 1 ∧ q < t.count ∧ ∃ c i l k v b r, St avlL w ⟨tb, cmpv ob, t.count⟩ c (.node i l k v b r) ∧ t.ord[q]? = some i ∧ t.kvs[q]? = some (k, v) ∧ nextId c r = t.ord[q + 1]? ∧ (prevId c l = if q = 0 then none else t.ord[q - 1]?) ∧ itCells tb t.ord p = #[.pointer (some ⟨tb, 0, none⟩), .pointer (some ⟨i, 0, none⟩), .int .u8 1] := by
 by_cases h0 : p = 0
 ·subst h0; exact .inl ⟨rfl, itCells_zero _ _⟩
 ·by_cases h1 : p = t.count + 1
  ·refine .inr (.inl ⟨h1, ?_⟩)
   rw [h1, ← BT.ord_length]; exact itCells_end _ _
  ·have hle := h.le
   obtain ⟨q, rfl⟩ : ∃ q, p = q + 1 := ⟨p - 1, by omega⟩
   obtain ⟨c, i, l, k, v, b, r, h2, h3, h4, h5, h6⟩ := h.at_.st.at_place (p := q) (by omega)
   exact .inr (.inr ⟨q, rfl, by omega, c, i, l, k, v, b, r, h2, h3, h4, h5, h6, itCells_at _ _ h3⟩)
theorem avlItNext_walk (h : AvlItAt o ob B w tb itb t p) :
 Calls Tryz.prog 158 #[.pointer (some ⟨itb, 0, none⟩)] w fun e w' => e = .returned (.bool (decide (p < t.count))) ∧ AvlItAt o ob B w' tb itb t (min (p + 1) (t.count + 1)) ∧ Only [itb] w w' := by
 have hit := h.it
 have hn := BT.ord_length t
 rcases h.fits with ⟨rfl, e⟩ | ⟨rfl, e⟩ | ⟨q, rfl, hq, c, i, l, k, v, b, r, hst, h1, h2, h3, h4, e⟩
 ·rw [e] at hit
  refine (itNext_start w itb ⟨tb, cmpv ob, t.count⟩ t h.at_.st hit).mono ?_
  rintro e w' ⟨rfl, hb, on⟩
  have hlo := lo_at t
  by_cases h0 : t.count = 0
  ·have e1 : t.lo = none := by rw [hlo, List.getElem?_eq_none (by omega)]
   rw [e1] at hb
   refine ⟨by rw [e1]; simp [h0], h.move on ?_ (by omega), on⟩
   rw [h0, show min (0 + 1) (0 + 1) = t.ord.length + 1 by omega, itCells_end]
   exact hb
  ·obtain ⟨j, hj⟩ : ∃ j, t.ord[0]? = some j := ⟨_, List.getElem?_eq_getElem (by omega)⟩
   rw [hlo, hj] at hb
   refine ⟨by rw [hlo, hj]; simp; omega, h.move on ?_ (by omega), on⟩
   rw [show min (0 + 1) (t.count + 1) = 0 + 1 by omega, itCells_at _ _ hj]
   exact hb
 ·rw [e] at hit
  refine (itNext_end w itb ⟨tb, cmpv ob, t.count⟩ hit).mono ?_
  rintro e w' ⟨rfl, hb, on⟩
  refine ⟨by simp, h.move on ?_ (by omega), on⟩
  rw [show min (t.count + 1 + 1) (t.count + 1) = t.ord.length + 1 by omega, itCells_end]
  exact hb
 ·rw [e] at hit
  refine (itNext_on w itb ⟨tb, cmpv ob, t.count⟩ c i l k v b r hst hit).mono ?_
  rintro e w' ⟨rfl, hb, on⟩
  rw [h3] at hb ⊢
  by_cases h0 : q + 1 < t.count
  ·obtain ⟨j, hj⟩ : ∃ j, t.ord[q + 1]? = some j := ⟨_, List.getElem?_eq_getElem (by omega)⟩
   rw [hj] at hb ⊢
   refine ⟨by simp [h0], h.move on ?_ (by omega), on⟩
   rw [show min (q + 1 + 1) (t.count + 1) = q + 1 + 1 by omega, itCells_at _ _ hj]
   exact hb
  ·have e1 : t.ord[q + 1]? = none := List.getElem?_eq_none (by omega)
   rw [e1] at hb ⊢
   refine ⟨by simp [h0], h.move on ?_ (by omega), on⟩
   rw [show min (q + 1 + 1) (t.count + 1) = t.ord.length + 1 by omega, itCells_end]
   exact hb
theorem avlItPrev_walk (h : AvlItAt o ob B w tb itb t p) :
 Calls Tryz.prog 160 #[.pointer (some ⟨itb, 0, none⟩)] w fun e w' => e = .returned (.bool (decide (1 < p))) ∧ AvlItAt o ob B w' tb itb t (p - 1) ∧ Only [itb] w w' := by
 have hit := h.it
 have hn := BT.ord_length t
 rcases h.fits with ⟨rfl, e⟩ | ⟨rfl, e⟩ | ⟨q, rfl, hq, c, i, l, k, v, b, r, hst, h1, h2, h3, h4, e⟩
 ·rw [e] at hit
  refine (itPrev_end w itb ⟨tb, cmpv ob, t.count⟩ hit).mono ?_
  rintro e w' ⟨rfl, hb, on⟩
  exact ⟨by simp, h.move on hb (by omega), on⟩
 ·rw [e] at hit
  refine (itPrev_start w itb ⟨tb, cmpv ob, t.count⟩ t h.at_.st hit).mono ?_
  rintro e w' ⟨rfl, hb, on⟩
  have hlo := hi_at t
  by_cases h0 : t.count = 0
  ·have e1 : t.hi = none := by rw [hlo, List.getElem?_eq_none (by omega)]
   rw [e1] at hb
   refine ⟨by rw [e1]; simp [h0], h.move on ?_ (by omega), on⟩
   rw [h0, show 0 + 1 - 1 = 0 by omega, itCells_zero]
   exact hb
  ·obtain ⟨j, hj⟩ : ∃ j, t.ord[t.ord.length - 1]? = some j := ⟨_, List.getElem?_eq_getElem (by omega)⟩
   rw [hlo, hj] at hb
   refine ⟨by rw [hlo, hj]; simp; omega, h.move on ?_ (by omega), on⟩
   rw [show t.count + 1 - 1 = (t.ord.length - 1) + 1 by omega, itCells_at _ _ hj]
   exact hb
 ·rw [e] at hit
  refine (itPrev_on w itb ⟨tb, cmpv ob, t.count⟩ c i l k v b r hst hit).mono ?_
  rintro e w' ⟨rfl, hb, on⟩
  rw [h4] at hb ⊢
  by_cases h0 : q = 0
  ·rw [if_pos h0] at hb ⊢
   subst h0
   exact ⟨by simp, h.move on hb (by omega), on⟩
  ·rw [if_neg h0] at hb ⊢
   obtain ⟨j, hj⟩ : ∃ j, t.ord[q - 1]? = some j := ⟨_, List.getElem?_eq_getElem (by omega)⟩
   rw [hj] at hb ⊢
   refine ⟨by simp; omega, h.move on ?_ (by omega), on⟩
   rw [show q + 1 - 1 = q - 1 + 1 by omega, itCells_at _ _ hj]
   exact hb
theorem avlItBegin_walk (h : AvlItAt o ob B w tb itb t p) :
 Calls Tryz.prog 153 #[.pointer (some ⟨itb, 0, none⟩)] w fun e w' => e = .returned (.tuple #[]) ∧ AvlItAt o ob B w' tb itb t 0 ∧ Only [itb] w w' := by
 refine (itBegin_walk w itb ⟨tb, cmpv ob, t.count⟩ _ _ h.it).mono ?_
 rintro e w' ⟨rfl, hb, on⟩
 exact ⟨rfl, h.move on hb (by omega), on⟩
theorem avlItEnd_walk (h : AvlItAt o ob B w tb itb t p) :
 Calls Tryz.prog 154 #[.pointer (some ⟨itb, 0, none⟩)] w fun e w' => e = .returned (.tuple #[]) ∧ AvlItAt o ob B w' tb itb t (t.count + 1) ∧ Only [itb] w w' := by
 refine (itEnd_walk w itb ⟨tb, cmpv ob, t.count⟩ _ _ h.it).mono ?_
 rintro e w' ⟨rfl, hb, on⟩
 refine ⟨rfl, h.move on ?_ (by omega), on⟩
 rw [← BT.ord_length, itCells_end]
 exact hb
theorem avlItKey_walk {q : Nat} {k v : Int} (h : AvlItAt o ob B w tb itb t (q + 1)) (hq : t.kvs[q]? = some (k, v)) :
 Calls Tryz.prog 156 #[.pointer (some ⟨itb, 0, none⟩)] w fun e w' => e = .returned (.iface 3 (.int .i64 k)) ∧ w' = w := by
 have hlt : q < t.count := by
  rcases Nat.lt_or_ge q t.count with h' | h'
  ·exact h'
  ·rw [List.getElem?_eq_none (by rw [BT.kvs_length]; exact h')] at hq; cases hq
 have hit := h.it
 rcases h.fits with ⟨e0, e⟩ | ⟨e0, e⟩ | ⟨q', e0, hq', c, i, l, k', v', b, r, hst, h1, h2, h3, h4, e⟩
 ·omega
 ·omega
 ·obtain rfl : q = q' := by omega
  rw [hq] at h2
  obtain ⟨rfl, rfl⟩ : k = k' ∧ v = v' := by simpa using h2
  rw [e] at hit
  exact itKey_walk w itb ⟨tb, cmpv ob, t.count⟩ c i l k v b r hst hit
theorem avlItValue_walk {q : Nat} {k v : Int} (h : AvlItAt o ob B w tb itb t (q + 1)) (hq : t.kvs[q]? = some (k, v)) :
 Calls Tryz.prog 162 #[.pointer (some ⟨itb, 0, none⟩)] w fun e w' => e = .returned (.iface 3 (.int .i64 v)) ∧ w' = w := by
 have hlt : q < t.count := by
  rcases Nat.lt_or_ge q t.count with h' | h'
  ·exact h'
  ·rw [List.getElem?_eq_none (by rw [BT.kvs_length]; exact h')] at hq; cases hq
 have hit := h.it
 rcases h.fits with ⟨e0, e⟩ | ⟨e0, e⟩ | ⟨q', e0, hq', c, i, l, k', v', b, r, hst, h1, h2, h3, h4, e⟩
 ·omega
 ·omega
 ·obtain rfl : q = q' := by omega
  rw [hq] at h2
  obtain ⟨rfl, rfl⟩ : k = k' ∧ v = v' := by simpa using h2
  rw [e] at hit
  exact itValue_walk w itb ⟨tb, cmpv ob, t.count⟩ c i l k v b r hst hit
end
end Go.Proofs.YtjjolokeceldmaaGreat

namespace Go.Proofs.YtjjolokeceldmaaGreat
open Go.RowKit Lib
@[go_sem] theorem avl_method_Put (n : Nat) (a : Addr) (w : World) : (method (n + 1) 49 (.pointer (some a)) "Put").run Tryz.prog w = .ok (92, .pointer (some a)) w := by kernel_rfl
@[go_sem] theorem avl_method_Remove (n : Nat) (a : Addr) (w : World) : (method (n + 1) 49 (.pointer (some a)) "Remove").run Tryz.prog w = .ok (93, .pointer (some a)) w := by kernel_rfl
@[go_sem] theorem avl_method_Clear (n : Nat) (a : Addr) (w : World) : (method (n + 1) 49 (.pointer (some a)) "Clear").run Tryz.prog w = .ok (89, .pointer (some a)) w := by kernel_rfl
set_option maxRecDepth 100000 in
theorem avlDone_walk (o : Ord) (B tb n cap : Nat) (A : Option Addr) (acts : List Do) (w : World) (hn : acts.length = n) (hn1 : n ≤ 1000) (ha : ActsAt w B A acts) (l0 : KV) (hl0 : l0.length ≤ 1000) (h0 : AvlHas o B w tb l0) :
 Calls Tryz.prog 21 #[.iface 49 (.pointer (some ⟨tb, 0, none⟩)), .slice A n cap] w fun e w' =>
  e = .returned (.tuple #[]) ∧ AvlHas o B w' tb (acts.foldl (step o) l0) ∧ Below B w w' := by
 go_enter Tryz.func21, Tryz.ntmps21
 go_wp2_with fail
 go_loopw [8] (fun i wr => ∃ k : Nat, k ≤ n ∧ i = .int .i64 k ∧ AvlHas o B wr tb ((acts.take k).foldl (step o) l0) ∧ Below B w wr) (fun i _ => n - (intOf i).toNat)
 case atStart => exact ⟨0, Nat.zero_le _, rfl, h0, Below.refl _ _⟩
 case round =>
  obtain ⟨k, hk, rfl, hh, hb⟩ := hrel
  by_cases hlt : k < n
  ·obtain ⟨a, d, rfl, hab, hd, c0, c1, c2⟩ := ActsAt.at_ (ha.below hb) (i := k) (by omega)
   have hsz := hh.size
   have hlen := foldl_take_length o l0 h0.asc acts k
   have fin := fun (w2 : World) (h2 : AvlHas o B w2 tb (step o ((acts.take k).foldl (step o) l0) d)) (b2 : Below B (wr.alloc (.cells #[.int .i64 d.op, .int .i64 d.key, .int .i64 d.val] 66)) w2) =>
    show AvlHas o B w2 tb ((acts.take (k + 1)).foldl (step o) l0) ∧ Below B w w2 from
     ⟨by rw [foldl_take_succ o l0 acts k d hd]; exact h2, (hb.alloc hsz _).trans b2⟩
   generalize hL : (acts.take k).foldl (step o) l0 = L at *
   have Hh := hid (hh.alloc (.cells #[.int .i64 d.op, .int .i64 d.key, .int .i64 d.val] 66))
   have Hb := hid hb
   have Ha := hid ha
   have H0 := hid h0
   have HL := hid hL
   have Fin := hid fin
   have Hlen := hid hlen
   clear hh hb ha h0 hd hL fin hsz hlen
   by_cases h1 : d.op = 1
   ·have e1 := hid (show step o L d = ins o d.key d.val L by unfold step; rw [if_pos h1])
    rw [h1] at c0 Hh Fin
    clear h1
    go_wp2_with fail
    refine (avlPut_has Hh.out _ _ (by have := Hlen.out; omega)).mono ?_
    rintro e w2 ⟨rfl, h2, b2⟩
    rw [← e1.out] at h2
    have F := hid (Fin.out _ h2 b2)
    clear h2 b2
    go_wp2_with fail
    go_roundw
    case rel => exact ⟨k + 1, by omega, by go_num, F.out.1, F.out.2⟩
    case measure => simp [intOf]; omega
   ·by_cases h2 : d.op = 2
    ·have e1 := hid (show step o L d = del o d.key L by unfold step; rw [if_neg h1, if_pos h2])
     rw [h2] at c0 Hh Fin
     clear h1 h2
     go_wp2_with fail
     refine (avlRemove_has Hh.out _ (by have := Hlen.out; omega)).mono ?_
     rintro e w2 ⟨rfl, h2, b2⟩
     rw [← e1.out] at h2
     have F := hid (Fin.out _ h2 b2)
     clear h2 b2
     go_wp2_with fail
     go_roundw
     case rel => exact ⟨k + 1, by omega, by go_num, F.out.1, F.out.2⟩
     case measure => simp [intOf]; omega
    ·by_cases h3 : d.op = 3
     ·have e1 := hid (show step o L d = [] by unfold step; rw [if_neg h1, if_neg h2, if_pos h3])
      rw [h3] at c0 Hh Fin
      clear h1 h2 h3
      go_wp2_with fail
      refine (avlClear_has Hh.out).mono ?_
      rintro e w2 ⟨rfl, h2, b2⟩
      rw [← e1.out] at h2
      have F := hid (Fin.out _ h2 b2)
      clear h2 b2
      go_wp2_with fail
      go_roundw
      case rel => exact ⟨k + 1, by omega, by go_num, F.out.1, F.out.2⟩
      case measure => simp [intOf]; omega
     ·have e1 : step o L d = L := by unfold step; rw [if_neg h1, if_neg h2, if_neg h3]
      have h2' := Hh.out
      rw [← e1] at h2'
      have F := hid (Fin.out _ h2' (Below.refl _ _))
      have g1 : (d.op == 1) = false := by simpa using h1
      have g2 : (d.op == 2) = false := by simpa using h2
      have g3 : (d.op == 3) = false := by simpa using h3
      clear e1 h2' h1 h2 h3
      go_wp2_with fail
      go_roundw
      case rel => exact ⟨k + 1, by omega, by go_num, F.out.1, F.out.2⟩
      case measure => simp [intOf]; omega
  ·have hkn : k = n := by omega
   have F : AvlHas o B wr tb (acts.foldl (step o) l0) := by rw [← List.take_of_length_le (l := acts) (i := k) (by omega)]; exact hh
   have HF := hid F
   have Hb := hid hb
   clear hh hb ha h0 F hkn
   go_wp2_with fail
   go_end0
   exact ⟨rfl, HF.out, Hb.out⟩
theorem avlNew_walk (ob : Nat) (w : World) : Calls Tryz.prog 24 #[cmpv ob] w fun e w' =>
 e = .returned (.pointer (some ⟨w.heap.size, 0, none⟩)) ∧ w.alloc (.cells (avlL.head ⟨w.heap.size, cmpv ob, 0⟩ none) 91) = w' := by
 go_enter Tryz.func24, Tryz.ntmps24
 go_wp2_with fail
 go_ret
 exact ⟨rfl, rfl⟩
theorem avl_walk (o : Ord) (ho : o.fine) (n cap : Nat) (A : Option Addr) (acts : List Do) (w : World) (hn : acts.length = n) (hn1 : n ≤ 1000) (ha : ActsAt w w.heap.size A acts) :
 Calls Tryz.prog 14 #[.agg #[.int .i64 o.kind, .int .i64 o.m], .slice A n cap] w fun e w' =>
  ∃ tb, e = .returned (.pointer (some ⟨tb, 0, none⟩)) ∧ AvlHas o w.heap.size w' tb (run o acts) ∧ Below w.heap.size w w' := by
 have Ha := hid ha
 clear ha
 go_enter Tryz.func14, Tryz.ntmps14
 go_wp2_with fail
 refine (by_walk o _).mono ?_
 rintro e w1 ⟨rfl, rfl⟩
 go_wp2_with fail
 refine (avlNew_walk _ _).mono ?_
 rintro e w1 ⟨rfl, rfl⟩
 have h0 : AvlHas o w.heap.size (((w.alloc (.cells #[.int .i64 o.kind, .int .i64 o.m] 23)).alloc (.cells #[.int .i64 o.kind, .int .i64 o.m] 23)).alloc (.cells (avlL.head ⟨w.heap.size + 1 + 1, cmpv (w.heap.size + 1), 0⟩ none) 91)) (w.heap.size + 1 + 1) [] := by
  refine ⟨w.heap.size + 1, .nil, ⟨⟨?_, trivial, by simp [allIds, Ctx.ids, BT.ids]⟩, trivial, Asc.nil o, ho, ?_, by simp [BT.ids], by omega, by simp [BT.ids]; omega⟩, rfl⟩
  ·exact Blk.new' (by simp) _ _
  ·exact Blk.alloc (Blk.new' (by simp) _ _) _
 have b0 : Below w.heap.size w (((w.alloc (.cells #[.int .i64 o.kind, .int .i64 o.m] 23)).alloc (.cells #[.int .i64 o.kind, .int .i64 o.m] 23)).alloc (.cells (avlL.head ⟨w.heap.size + 1 + 1, cmpv (w.heap.size + 1), 0⟩ none) 91)) :=
  (((Below.refl _ _).alloc (Nat.le_refl _) _).alloc (by simp) _).alloc (by simp; omega) _
 have H0 := hid h0
 have B0 := hid b0
 clear h0 b0
 go_wp2_with fail
 refine (avlDone_walk o w.heap.size _ n cap A acts _ hn hn1 (Ha.out.below B0.out) [] (by simp) H0.out).mono ?_
 rintro e w2 ⟨rfl, h2, b2⟩
 have H2 := hid h2
 have B2 := hid (B0.out.trans b2)
 clear h2 b2
 go_wp2_with fail
 go_ret
 exact ⟨_, rfl, H2.out, B2.out⟩
end Go.Proofs.YtjjolokeceldmaaGreat

namespace Go.Proofs.YtjjolokeceldmaaGreat
open Go.RowKit
@[go_sem] theorem avl_method_Next (n : Nat) (a : Addr) (w : World) : (method (n + 1) 76 (.pointer (some a)) "Next").run Tryz.prog w = .ok (158, .pointer (some a)) w := by kernel_rfl
@[go_sem] theorem avl_method_Key (n : Nat) (a : Addr) (w : World) : (method (n + 1) 76 (.pointer (some a)) "Key").run Tryz.prog w = .ok (156, .pointer (some a)) w := by kernel_rfl
@[go_sem] theorem avl_method_Value (n : Nat) (a : Addr) (w : World) : (method (n + 1) 76 (.pointer (some a)) "Value").run Tryz.prog w = .ok (162, .pointer (some a)) w := by kernel_rfl
end Go.Proofs.YtjjolokeceldmaaGreat

namespace Go.Proofs.YtjjolokeceldmaaGreat
open Go.RowKit
end Go.Proofs.YtjjolokeceldmaaGreat

namespace Go.Proofs.YtjjolokeceldmaaGreat
open Go.RowKit
end Go.Proofs.YtjjolokeceldmaaGreat

namespace Go.Proofs.YtjjolokeceldmaaGreat
open Go.RowKit
end Go.Proofs.YtjjolokeceldmaaGreat
