/-
  The AVL tree: its first and last node, and the next one in both directions.
-/
import Derived.Test.YtmhkknobgcdkkaaPures
import Derived.Test.YtmhkknobgcdkkaaAvlTree
import Derived.Deep.LoopGhost
import Derived.LaidEqlPtr
namespace Go.Proofs.Ytmhkknobgcdkkaa
open Go.RowKit

theorem xor_i64_1 : bits BinOp.xor IntKind.i64 1 1 = 0 := by kernel_rfl
theorem xor_i64_0 : bits BinOp.xor IntKind.i64 0 1 = 1 := by kernel_rfl
theorem avlNode_size : (Try.prog.info? 82).map (fun i => i.size) = some 6 := by kernel_rfl
theorem avlPtr_same (w : World) (a : Addr) : (binOp .eql 51 (.pointer (some a)) (.pointer (some a))).run Try.prog w = .ok (.bool true) w := by
  obtain ⟨j, hj, _⟩ := Option.map_eq_some_iff.1 avlNode_size
  exact run_eql_ptr_same w a Try.underlying51 hj
theorem avlPtr_other (w : World) {i j : Nat} (h : i ≠ j) {ca cb : Array Value} {ta tb : TypeId} (hi : Blk w i ta ca) (hj : Blk w j tb cb) :
    (binOp .eql 51 (.pointer (some ⟨i, 0, none⟩)) (.pointer (some ⟨j, 0, none⟩))).run Try.prog w = .ok (.bool false) w := by
  obtain ⟨x, hx, hs⟩ := Option.map_eq_some_iff.1 avlNode_size
  exact run_eql_ptr_other w Try.underlying51 hx (by rw [hs]; decide) (fun e => h (by injection e)) hi hj
theorem avlPtr_nil (w : World) (a : Addr) : (binOp .eql 51 (.pointer none) (.pointer (some a))).run Try.prog w = .ok (.bool false) w := by kernel_rfl

/-- The farthest node on one side. -/
theorem avlBottom0_walk (w : World) (H : Hd) (t : BT) (s : St avlL w H [] t) :
    Calls Try.prog 136 #[.pointer (some ⟨H.tb, 0, none⟩), .int .i64 0] w fun e w' => e = .returned (ptr t.lo) ∧ w' = w := by
  obtain ⟨hsl, _⟩ := s.hc.slot_cell
  simp only [slot, ptr] at hsl
  have hS := Lib.hid s
  clear s
  cases t with
  | nil =>
    simp only [BT.root, Option.map_none] at hsl
    go_enter Try.func136, Try.ntmps136
    go_wp2_with fail
    go_ret
    exact ⟨rfl, rfl⟩
  | node i l k v b r =>
    obtain ⟨_, _, hl3, hr4⟩ := hS.out.ht.1.cells_
    simp only [BT.root, Option.map_some] at hsl
    generalize hT : BT.node i l k v b r = T at hS
    have HT := Lib.hid hT
    simp only [ptr] at hl3 hr4
    clear hT
    go_enter Try.func136, Try.ntmps136
    go_wp2_with fail
    go_loopg [5, 6] (T.count + 1) (fun g p q wr => ∃ (c : Ctx) (i : Nat) (l : BT) (k v b : Int) (r : BT), p = ptr (some i) ∧ q = ptr l.root ∧ wr = w ∧ St avlL w H c (.node i l k v b r) ∧ T.lo = (BT.node i l k v b r).lo ∧ l.count < g)
    case atStart => exact ⟨[], i, l, k, v, b, r, rfl, rfl, rfl, by rw [HT.out]; exact hS.out, by rw [HT.out], by rw [← HT.out]; simp only [BT.count]; omega⟩
    case round =>
      clear hsl hl3 hr4 HT
      obtain ⟨c, i, l, k, v, b, r, hp, hq, hw, hst, he, hg⟩ := hrel
      subst hw
      have HS := Lib.hid hst
      have HE := Lib.hid he
      clear he
      cases l with
      | nil =>
        simp only [BT.root, ptr, Option.map_none, Option.map_some] at hp hq
        subst hp hq
        clear hst
        go_wp2_with fail
        go_ret
        exact ⟨by rw [HE.out, BT.lo_nil]; rfl, rfl⟩
      | node i' l' k' v' b' r' =>
        have hst' := hst.downL
        obtain ⟨_, _, hl3, hr4⟩ := hst'.ht.1.cells_
        simp only [BT.root, ptr, Option.map_some] at hp hq
        simp only [ptr] at hl3 hr4
        subst hp hq
        have HS' := Lib.hid hst'
        clear hst hst'
        go_wp2_with fail
        go_roundg (l'.count + 1)
        case measure => simp only [BT.count] at hg; omega
        case rel => exact ⟨_, i', l', k', v', b', r', rfl, rfl, rfl, HS'.out, by rw [HE.out, BT.lo_node (by intro h; cases h)], by omega⟩
theorem avlLeft_walk (w : World) (H : Hd) (t : BT) (s : St avlL w H [] t) :
    Calls Try.prog 134 #[.pointer (some ⟨H.tb, 0, none⟩)] w fun e w' => e = .returned (ptr t.lo) ∧ w' = w := by
  have c := Lib.hid (avlBottom0_walk w H t s)
  clear s
  generalize t.lo = x at *
  go_enter Try.func134, Try.ntmps134
  go_wp2_with fail
  refine c.out.mono ?_
  rintro e w' ⟨rfl, rfl⟩
  clear c
  go_wp2_with fail
  go_ret
  exact ⟨rfl, rfl⟩

set_option maxRecDepth 100000 in
/-- The next node in one direction. -/
theorem avlWalk1_walk (w : World) (H : Hd) (c : Ctx) (i : Nat) (l : BT) (k v b : Int) (r : BT) (s : St avlL w H c (.node i l k v b r)) :
    Calls Try.prog 66 #[.pointer (some ⟨i, 0, none⟩), .int .i64 1] w fun e w' => e = .returned (ptr (nextId c r)) ∧ w' = w := by
  obtain ⟨_, _, hl3, hr4⟩ := s.ht.1.cells_
  have hp2 := s.ht.1.cellP
  simp only [ptr, Lay.op, if_true] at hl3 hr4 hp2
  cases r with
  | nil =>
    have hS := Lib.hid s
    clear s
    simp only [BT.root, Option.map_none, nextId] at *
    generalize hX : Ctx.upR c = X at *
    have HX := Lib.hid hX
    generalize hT : BT.node i l k v b .nil = T at hS
    have HT := Lib.hid hT
    clear hT hX
    go_enter Try.func66, Try.ntmps66
    go_wp2_with fail
    go_loopg [0, 5] (c.length + 1) (fun g p q wr => ∃ (c' : Ctx) (s : BT) (i : Nat), s.root = some i ∧ p = ptr (some i) ∧ q = ptr (Ctx.par c') ∧ wr = w ∧ St avlL w H c' s ∧ X = Ctx.upR c' ∧ c'.length < g)
    case atStart => exact ⟨c, T, i, by rw [← HT.out]; rfl, rfl, rfl, rfl, hS.out, HX.out.symm, by omega⟩
    case round =>
      clear hl3 hr4 hp2 hS HX HT
      obtain ⟨c, s, i0, h0, hp, hq, hw, hst, he, hg⟩ := hrel
      subst hw
      have HE := Lib.hid he
      clear he
      cases c with
      | nil =>
        simp only [Ctx.par, ptr, Option.map_none, Option.map_some] at hp hq
        subst hp hq
        clear hst
        go_wp2_with fail
        go_ret
        exact ⟨by rw [HE.out]; rfl, rfl⟩
      | cons f c =>
        cases f with
        | rf i l k v b =>
          have hst' := hst.upR
          obtain ⟨_, _, hl3, hr4⟩ := hst'.ht.1.cells_
          have hp2 := hst'.ht.1.cellP
          simp only [Ctx.par, Fr.id, ptr, Option.map_some] at hp hq
          simp only [ptr, Lay.op, if_true, h0, Option.map_some] at hl3 hr4 hp2
          subst hp hq
          have HS := Lib.hid hst'
          have H0 := Lib.hid h0
          clear hst hst' h0
          have qs := avlPtr_same
          go_wp2_with fail
          go_roundg (c.length + 1)
          case measure => simp only [List.length_cons] at hg; omega
          case rel => exact ⟨c, _, i, rfl, rfl, rfl, rfl, HS.out, HE.out, by omega⟩
        | lf i k v b r =>
          have hst' := hst.upL
          obtain ⟨_, _, hl3, hr4⟩ := hst'.ht.1.cells_
          simp only [Ctx.par, Fr.id, ptr, Option.map_some] at hp hq
          cases r with
          | nil =>
            simp only [BT.root, ptr, Option.map_none] at hl3 hr4
            subst hp hq
            have qn := avlPtr_nil
            clear hst hst' h0
            go_wp2_with fail
            go_ret
            exact ⟨by rw [HE.out]; rfl, rfl⟩
          | node j jl jk jv jb jr =>
            have hne : j ≠ i0 := by
              have hn := hst'.ndt
              cases s with
              | nil => cases h0
              | node x xl xk xv xb xr =>
                simp only [BT.root, Option.some.injEq] at h0
                simp only [BT.ids, List.nodup_cons, List.nodup_append, List.mem_append, List.mem_cons] at hn
                subst h0
                exact fun e => hn.2.2.2 _ (.inl rfl) _ (.inl rfl) e.symm
            have hs0 : ∃ cs, Blk wr i0 82 cs := by
              have hs := hst.ht
              cases s with
              | nil => cases h0
              | node x xl xk xv xb xr =>
                simp only [BT.root, Option.some.injEq] at h0
                subst h0
                exact ⟨_, hs.1⟩
            obtain ⟨cs, hs0⟩ := hs0
            have hsj := hst'.ht.2.2.1
            have qo := avlPtr_other wr hne hsj hs0
            simp only [BT.root, ptr, Option.map_some] at hl3 hr4
            subst hp hq
            clear hst hst' h0 hs0 hsj hne
            go_wp2_with fail
            go_ret
            exact ⟨by rw [HE.out]; rfl, rfl⟩
  | node j jl jk jv jb jr =>
    have hst := s.downR
    have hS := Lib.hid hst
    clear s hst
    simp only [BT.root, Option.map_some, nextId] at *
    generalize hT : BT.node j jl jk jv jb jr = T at *
    have HT := Lib.hid hT
    have hTj : T.root = some j := by rw [← hT]; rfl
    have HTj := Lib.hid hTj
    clear hT hTj
    go_enter Try.func66, Try.ntmps66
    go_wp2_with fail
    go_loopg [0] (T.count + 1) (fun g p wr => ∃ (c : Ctx) (i : Nat) (l : BT) (k v b : Int) (r : BT), p = ptr (some i) ∧ wr = w ∧ St avlL w H c (.node i l k v b r) ∧ T.lo = (BT.node i l k v b r).lo ∧ l.count < g)
    case atStart => exact ⟨_, j, jl, jk, jv, jb, jr, rfl, rfl, by rw [HT.out]; exact hS.out, by rw [HT.out], by rw [← HT.out]; simp only [BT.count]; omega⟩
    case round =>
      clear hl3 hr4 hp2 HTj hS HT
      obtain ⟨c, i, l, k, v, b, r, hp, hw, hst, he, hg⟩ := hrel
      subst hw
      have HE := Lib.hid he
      have hx := xor_i64_1
      clear he
      obtain ⟨_, _, hl3, hr4⟩ := hst.ht.1.cells_
      cases l with
      | nil =>
        simp only [BT.root, ptr, Option.map_none, Option.map_some] at hp hl3 hr4
        subst hp
        clear hst
        go_wp2_with fail
        go_ret
        exact ⟨by rw [HE.out, BT.lo_nil]; rfl, rfl⟩
      | node i' l' k' v' b' r' =>
        have hst' := hst.downL
        simp only [BT.root, ptr, Option.map_some] at hp hl3 hr4
        subst hp
        have HS' := Lib.hid hst'
        clear hst hst'
        go_wp2_with fail
        go_roundg (l'.count + 1)
        case measure => simp only [BT.count] at hg; omega
        case rel => exact ⟨_, i', l', k', v', b', r', rfl, rfl, HS'.out, by rw [HE.out, BT.lo_node (by intro h; cases h)], by omega⟩
theorem avlNodeNext_walk (w : World) (H : Hd) (c : Ctx) (i : Nat) (l : BT) (k v b : Int) (r : BT) (s : St avlL w H c (.node i l k v b r)) :
    Calls Try.prog 63 #[.pointer (some ⟨i, 0, none⟩)] w fun e w' => e = .returned (ptr (nextId c r)) ∧ w' = w := by
  have h := Lib.hid (avlWalk1_walk w H c i l k v b r s)
  clear s
  generalize nextId c r = x at *
  go_enter Try.func63, Try.ntmps63
  go_wp2_with fail
  refine h.out.mono ?_
  rintro e w' ⟨rfl, rfl⟩
  clear h
  go_wp2_with fail
  go_ret
  exact ⟨rfl, rfl⟩

/-- The farthest node on one side. -/
theorem avlBottom1_walk (w : World) (H : Hd) (t : BT) (s : St avlL w H [] t) :
    Calls Try.prog 136 #[.pointer (some ⟨H.tb, 0, none⟩), .int .i64 1] w fun e w' => e = .returned (ptr t.hi) ∧ w' = w := by
  obtain ⟨hsl, _⟩ := s.hc.slot_cell
  simp only [slot, ptr] at hsl
  have hS := Lib.hid s
  clear s
  cases t with
  | nil =>
    simp only [BT.root, Option.map_none] at hsl
    go_enter Try.func136, Try.ntmps136
    go_wp2_with fail
    go_ret
    exact ⟨rfl, rfl⟩
  | node i l k v b r =>
    obtain ⟨_, _, hl3, hr4⟩ := hS.out.ht.1.cells_
    simp only [BT.root, Option.map_some] at hsl
    generalize hT : BT.node i l k v b r = T at hS
    have HT := Lib.hid hT
    simp only [ptr] at hl3 hr4
    clear hT
    go_enter Try.func136, Try.ntmps136
    go_wp2_with fail
    go_loopg [5, 6] (T.count + 1) (fun g p q wr => ∃ (c : Ctx) (i : Nat) (l : BT) (k v b : Int) (r : BT), p = ptr (some i) ∧ q = ptr r.root ∧ wr = w ∧ St avlL w H c (.node i l k v b r) ∧ T.hi = (BT.node i l k v b r).hi ∧ r.count < g)
    case atStart => exact ⟨[], i, l, k, v, b, r, rfl, rfl, rfl, by rw [HT.out]; exact hS.out, by rw [HT.out], by rw [← HT.out]; simp only [BT.count]; omega⟩
    case round =>
      clear hsl hl3 hr4 HT
      obtain ⟨c, i, l, k, v, b, r, hp, hq, hw, hst, he, hg⟩ := hrel
      subst hw
      have HS := Lib.hid hst
      have HE := Lib.hid he
      clear he
      cases r with
      | nil =>
        simp only [BT.root, ptr, Option.map_none, Option.map_some] at hp hq
        subst hp hq
        clear hst
        go_wp2_with fail
        go_ret
        exact ⟨by rw [HE.out, BT.hi_nil]; rfl, rfl⟩
      | node i' l' k' v' b' r' =>
        have hst' := hst.downR
        obtain ⟨_, _, hl3, hr4⟩ := hst'.ht.1.cells_
        simp only [BT.root, ptr, Option.map_some] at hp hq
        simp only [ptr] at hl3 hr4
        subst hp hq
        have HS' := Lib.hid hst'
        clear hst hst'
        go_wp2_with fail
        go_roundg (r'.count + 1)
        case measure => simp only [BT.count] at hg; omega
        case rel => exact ⟨_, i', l', k', v', b', r', rfl, rfl, rfl, HS'.out, by rw [HE.out, BT.hi_node (by intro h; cases h)], by omega⟩
theorem avlRight_walk (w : World) (H : Hd) (t : BT) (s : St avlL w H [] t) :
    Calls Try.prog 135 #[.pointer (some ⟨H.tb, 0, none⟩)] w fun e w' => e = .returned (ptr t.hi) ∧ w' = w := by
  have c := Lib.hid (avlBottom1_walk w H t s)
  clear s
  generalize t.hi = x at *
  go_enter Try.func135, Try.ntmps135
  go_wp2_with fail
  refine c.out.mono ?_
  rintro e w' ⟨rfl, rfl⟩
  clear c
  go_wp2_with fail
  go_ret
  exact ⟨rfl, rfl⟩

set_option maxRecDepth 100000 in
/-- The next node in one direction. -/
theorem avlWalk0_walk (w : World) (H : Hd) (c : Ctx) (i : Nat) (l : BT) (k v b : Int) (r : BT) (s : St avlL w H c (.node i l k v b r)) :
    Calls Try.prog 66 #[.pointer (some ⟨i, 0, none⟩), .int .i64 0] w fun e w' => e = .returned (ptr (prevId c l)) ∧ w' = w := by
  obtain ⟨_, _, hl3, hr4⟩ := s.ht.1.cells_
  have hp2 := s.ht.1.cellP
  simp only [ptr, Lay.op, if_true] at hl3 hr4 hp2
  cases l with
  | nil =>
    have hS := Lib.hid s
    clear s
    simp only [BT.root, Option.map_none, prevId] at *
    generalize hX : Ctx.upL c = X at *
    have HX := Lib.hid hX
    generalize hT : BT.node i .nil k v b r = T at hS
    have HT := Lib.hid hT
    clear hT hX
    go_enter Try.func66, Try.ntmps66
    go_wp2_with fail
    go_loopg [0, 5] (c.length + 1) (fun g p q wr => ∃ (c' : Ctx) (s : BT) (i : Nat), s.root = some i ∧ p = ptr (some i) ∧ q = ptr (Ctx.par c') ∧ wr = w ∧ St avlL w H c' s ∧ X = Ctx.upL c' ∧ c'.length < g)
    case atStart => exact ⟨c, T, i, by rw [← HT.out]; rfl, rfl, rfl, rfl, hS.out, HX.out.symm, by omega⟩
    case round =>
      clear hl3 hr4 hp2 hS HX HT
      obtain ⟨c, s, i0, h0, hp, hq, hw, hst, he, hg⟩ := hrel
      subst hw
      have HE := Lib.hid he
      clear he
      cases c with
      | nil =>
        simp only [Ctx.par, ptr, Option.map_none, Option.map_some] at hp hq
        subst hp hq
        clear hst
        go_wp2_with fail
        go_ret
        exact ⟨by rw [HE.out]; rfl, rfl⟩
      | cons f c =>
        cases f with
        | lf i k v b r =>
          have hst' := hst.upL
          obtain ⟨_, _, hl3, hr4⟩ := hst'.ht.1.cells_
          have hp2 := hst'.ht.1.cellP
          simp only [Ctx.par, Fr.id, ptr, Option.map_some] at hp hq
          simp only [ptr, Lay.op, if_true, h0, Option.map_some] at hl3 hr4 hp2
          subst hp hq
          have HS := Lib.hid hst'
          have H0 := Lib.hid h0
          clear hst hst' h0
          have qs := avlPtr_same
          go_wp2_with fail
          go_roundg (c.length + 1)
          case measure => simp only [List.length_cons] at hg; omega
          case rel => exact ⟨c, _, i, rfl, rfl, rfl, rfl, HS.out, HE.out, by omega⟩
        | rf i l k v b =>
          have hst' := hst.upR
          obtain ⟨_, _, hl3, hr4⟩ := hst'.ht.1.cells_
          simp only [Ctx.par, Fr.id, ptr, Option.map_some] at hp hq
          cases l with
          | nil =>
            simp only [BT.root, ptr, Option.map_none] at hl3 hr4
            subst hp hq
            have qn := avlPtr_nil
            clear hst hst' h0
            go_wp2_with fail
            go_ret
            exact ⟨by rw [HE.out]; rfl, rfl⟩
          | node j jl jk jv jb jr =>
            have hne : j ≠ i0 := by
              have hn := hst'.ndt
              cases s with
              | nil => cases h0
              | node x xl xk xv xb xr =>
                simp only [BT.root, Option.some.injEq] at h0
                simp only [BT.ids, List.nodup_cons, List.nodup_append, List.mem_append, List.mem_cons] at hn
                subst h0
                exact fun e => hn.2.2.2 _ (.inl rfl) _ (.inl rfl) e
            have hs0 : ∃ cs, Blk wr i0 82 cs := by
              have hs := hst.ht
              cases s with
              | nil => cases h0
              | node x xl xk xv xb xr =>
                simp only [BT.root, Option.some.injEq] at h0
                subst h0
                exact ⟨_, hs.1⟩
            obtain ⟨cs, hs0⟩ := hs0
            have hsj := hst'.ht.2.1.1
            have qo := avlPtr_other wr hne hsj hs0
            simp only [BT.root, ptr, Option.map_some] at hl3 hr4
            subst hp hq
            clear hst hst' h0 hs0 hsj hne
            go_wp2_with fail
            go_ret
            exact ⟨by rw [HE.out]; rfl, rfl⟩
  | node j jl jk jv jb jr =>
    have hst := s.downL
    have hS := Lib.hid hst
    clear s hst
    simp only [BT.root, Option.map_some, prevId] at *
    generalize hT : BT.node j jl jk jv jb jr = T at *
    have HT := Lib.hid hT
    have hTj : T.root = some j := by rw [← hT]; rfl
    have HTj := Lib.hid hTj
    clear hT hTj
    go_enter Try.func66, Try.ntmps66
    go_wp2_with fail
    go_loopg [0] (T.count + 1) (fun g p wr => ∃ (c : Ctx) (i : Nat) (l : BT) (k v b : Int) (r : BT), p = ptr (some i) ∧ wr = w ∧ St avlL w H c (.node i l k v b r) ∧ T.hi = (BT.node i l k v b r).hi ∧ r.count < g)
    case atStart => exact ⟨_, j, jl, jk, jv, jb, jr, rfl, rfl, by rw [HT.out]; exact hS.out, by rw [HT.out], by rw [← HT.out]; simp only [BT.count]; omega⟩
    case round =>
      clear hl3 hr4 hp2 HTj hS HT
      obtain ⟨c, i, l, k, v, b, r, hp, hw, hst, he, hg⟩ := hrel
      subst hw
      have HE := Lib.hid he
      have hx := xor_i64_0
      clear he
      obtain ⟨_, _, hl3, hr4⟩ := hst.ht.1.cells_
      cases r with
      | nil =>
        simp only [BT.root, ptr, Option.map_none, Option.map_some] at hp hl3 hr4
        subst hp
        clear hst
        go_wp2_with fail
        go_ret
        exact ⟨by rw [HE.out, BT.hi_nil]; rfl, rfl⟩
      | node i' l' k' v' b' r' =>
        have hst' := hst.downR
        simp only [BT.root, ptr, Option.map_some] at hp hl3 hr4
        subst hp
        have HS' := Lib.hid hst'
        clear hst hst'
        go_wp2_with fail
        go_roundg (r'.count + 1)
        case measure => simp only [BT.count] at hg; omega
        case rel => exact ⟨_, i', l', k', v', b', r', rfl, rfl, HS'.out, by rw [HE.out, BT.hi_node (by intro h; cases h)], by omega⟩
theorem avlNodePrev_walk (w : World) (H : Hd) (c : Ctx) (i : Nat) (l : BT) (k v b : Int) (r : BT) (s : St avlL w H c (.node i l k v b r)) :
    Calls Try.prog 64 #[.pointer (some ⟨i, 0, none⟩)] w fun e w' => e = .returned (ptr (prevId c l)) ∧ w' = w := by
  have h := Lib.hid (avlWalk0_walk w H c i l k v b r s)
  clear s
  generalize prevId c l = x at *
  go_enter Try.func64, Try.ntmps64
  go_wp2_with fail
  refine h.out.mono ?_
  rintro e w' ⟨rfl, rfl⟩
  clear h
  go_wp2_with fail
  go_ret
  exact ⟨rfl, rfl⟩

end Go.Proofs.Ytmhkknobgcdkkaa
