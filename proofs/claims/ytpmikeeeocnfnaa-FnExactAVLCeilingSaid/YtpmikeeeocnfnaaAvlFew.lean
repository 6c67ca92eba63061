/-
  The AVL tree: single nodes: the thin package's avlNode, AVLNode, AVLLeft, AVLRight, AVLNext, AVLPrev.
-/
import Derived.Test.YtpmikeeeocnfnaaFloorPure
import Derived.Test.YtpmikeeeocnfnaaAvlGet
import Derived.Test.YtpmikeeeocnfnaaAvlIter
namespace Go.Proofs.Ytpmikeeeocnfnaa
open Go.RowKit

theorem avlNode_walk (w : World) (p : Option Nat) (x : Option (Int × Int)) (h : NodeIs w avlL p x) :
    Calls Try.prog 64 #[ptr p, .bool true] w fun e w' => e = .returned (tripV x) ∧ ∃ n, w' = w.drewN n := by
  rcases h with ⟨rfl, rfl⟩ | ⟨i, k, v, rfl, rfl, h0, h1⟩
  · go_enter Try.func64, Try.ntmps64
    go_wp2_with fail
    go_ret3
    exact ⟨rfl, 0, rfl⟩
  · simp only [ptr, Option.map_some]
    go_enter Try.func64, Try.ntmps64
    go_wp2_with fail
    go_quiet (fail)
    go_wp2_with fail
    go_ret3
    exact ⟨rfl, _, rfl⟩

theorem nodeIs_at {L : Lay} {w : World} {H : Hd} {t : BT} (s : St L w H [] t) (p : Nat) : NodeIs w L t.ord[p]? t.kvs[p]? := by
  rcases Nat.lt_or_ge p t.count with h | h
  · obtain ⟨c, i, l, k, v, b, r, hs, h1, h2, _, _⟩ := s.at_place h
    rw [h1, h2]
    exact hs.nodeIs
  · rw [List.getElem?_eq_none (by rw [BT.ord_length]; exact h), List.getElem?_eq_none (by rw [BT.kvs_length]; exact h)]
    exact .inl ⟨rfl, rfl⟩

theorem seek_nodeIs {L : Lay} {w : World} {H : Hd} {o : Ord} {k : Int} {t : BT} (s : St L w H [] t) (h : Asc o t.kvs) : NodeIs w L (seekId o k t) (look o k t.kvs) := by
  rcases seek_look (o := o) (k := k) (c := []) h with ⟨c', i, l, k', v, b, r, e1, e2, _, _⟩ | ⟨e1, e2⟩
  · have e3 : seekId o k t = some i := by unfold seekId; rw [e1]; rfl
    rw [e2, e3]
    exact (seek_st s e1).nodeIs
  · have e3 : seekId o k t = none := by unfold seekId; rw [e1]; rfl
    rw [e2, e3]
    exact .inl ⟨rfl, rfl⟩

/-- From a contract of a tree's method that answers a node to the thin package's function. -/
theorem implAVLNode_walk (o : Ord) (ho : o.fine) (n cap : Nat) (A : Option Addr) (acts : List Do) (k : Int) (w : World) (hn : acts.length = n) (hn1 : n ≤ 1000) (ha : ActsAt w w.heap.size A acts) :
    Calls Try.prog 48 #[.agg #[.int .i64 o.kind, .int .i64 o.m], .slice A n cap, .int .i64 k] w fun e w' => e = .returned (tripV (look o k (run o acts))) ∧ Below w.heap.size w w' := by
  have Ha := Lib.hid ha
  clear ha
  go_enter Try.func48, Try.ntmps48
  go_wp2_with fail
  have B0 := Lib.hid (show Below w.heap.size w (w.alloc (.cells #[.int .i64 o.kind, .int .i64 o.m] 23)) from (Below.refl _ _).alloc (Nat.le_refl _) _)
  refine (avl_walk o ho n cap A acts _ hn hn1 ((Ha.out.below B0.out).more (by simp))).mono ?_
  rintro e w1 ⟨tb, rfl, ⟨ob, t, ht, hk⟩, b1⟩
  have G := Lib.hid (avlGetNode_walk o ob _ _ tb t k ht)
  have ni := seek_nodeIs (k := k) ht.st ht.asc
  rw [hk] at ni
  have NI := Lib.hid ni
  have B1 := Lib.hid (B0.out.trans (b1.mono (by simp)))
  clear ht b1 hk ni
  generalize hx : look o k (run o acts) = x at *
  have HX := Lib.hid hx
  clear hx
  generalize seekId o k t = p at *
  go_wp2_with fail
  refine G.out.mono ?_
  rintro e w2 ⟨rfl, m, rfl⟩
  go_wp2_with fail
  refine (avlNode_walk _ p x (NI.out.drewN m)).mono ?_
  rintro e w3 ⟨rfl, m2, rfl⟩
  clear NI G
  rcases x with _ | ⟨a, b⟩
  · simp only [tripV]
    go_wp2_with fail
    go_ret3
    exact ⟨by rw [HX.out]; rfl, Below.drewN' B1.out _⟩
  · simp only [tripV]
    go_wp2_with fail
    go_ret3
    exact ⟨by rw [HX.out]; rfl, Below.drewN' B1.out _⟩

theorem implAVLLeft_walk (o : Ord) (ho : o.fine) (n cap : Nat) (A : Option Addr) (acts : List Do) (w : World) (hn : acts.length = n) (hn1 : n ≤ 1000) (ha : ActsAt w w.heap.size A acts) :
    Calls Try.prog 39 #[.agg #[.int .i64 o.kind, .int .i64 o.m], .slice A n cap] w fun e w' => e = .returned (tripV (run o acts)[0]?) ∧ Below w.heap.size w w' := by
  have Ha := Lib.hid ha
  clear ha
  go_enter Try.func39, Try.ntmps39
  go_wp2_with fail
  have B0 := Lib.hid (show Below w.heap.size w (w.alloc (.cells #[.int .i64 o.kind, .int .i64 o.m] 23)) from (Below.refl _ _).alloc (Nat.le_refl _) _)
  refine (avl_walk o ho n cap A acts _ hn hn1 ((Ha.out.below B0.out).more (by simp))).mono ?_
  rintro e w1 ⟨tb, rfl, ⟨ob, t, ht, hk⟩, b1⟩
  have g := avlLeft_walk w1 _ t ht.st
  have hl : t.ord.length = (run o acts).length := by rw [BT.ord_length, ← BT.kvs_length, hk]
  rw [lo_at] at g
  have ni := nodeIs_at ht.st 0
  rw [hk] at ni
  have G := Lib.hid g
  have NI := Lib.hid ni
  have B1 := Lib.hid (B0.out.trans (b1.mono (by simp)))
  clear ht b1 hk ni g hl
  generalize hx : (run o acts)[0]? = x at *
  have HX := Lib.hid hx
  clear hx
  generalize t.ord[0]? = p at *
  go_wp2_with fail
  refine G.out.mono ?_
  rintro e w2 ⟨rfl, rfl⟩
  go_wp2_with fail
  refine (avlNode_walk _ p x NI.out).mono ?_
  rintro e w3 ⟨rfl, m2, rfl⟩
  clear NI G
  rcases x with _ | ⟨a, b⟩
  · simp only [tripV]
    go_wp2_with fail
    go_ret3
    exact ⟨by rw [HX.out]; rfl, Below.drewN' B1.out _⟩
  · simp only [tripV]
    go_wp2_with fail
    go_ret3
    exact ⟨by rw [HX.out]; rfl, Below.drewN' B1.out _⟩

theorem implAVLRight_walk (o : Ord) (ho : o.fine) (n cap : Nat) (A : Option Addr) (acts : List Do) (w : World) (hn : acts.length = n) (hn1 : n ≤ 1000) (ha : ActsAt w w.heap.size A acts) :
    Calls Try.prog 40 #[.agg #[.int .i64 o.kind, .int .i64 o.m], .slice A n cap] w fun e w' => e = .returned (tripV (run o acts)[(run o acts).length - 1]?) ∧ Below w.heap.size w w' := by
  have Ha := Lib.hid ha
  clear ha
  go_enter Try.func40, Try.ntmps40
  go_wp2_with fail
  have B0 := Lib.hid (show Below w.heap.size w (w.alloc (.cells #[.int .i64 o.kind, .int .i64 o.m] 23)) from (Below.refl _ _).alloc (Nat.le_refl _) _)
  refine (avl_walk o ho n cap A acts _ hn hn1 ((Ha.out.below B0.out).more (by simp))).mono ?_
  rintro e w1 ⟨tb, rfl, ⟨ob, t, ht, hk⟩, b1⟩
  have g := avlRight_walk w1 _ t ht.st
  have hl : t.ord.length = (run o acts).length := by rw [BT.ord_length, ← BT.kvs_length, hk]
  rw [hi_at, hl] at g
  have ni := nodeIs_at ht.st ((run o acts).length - 1)
  rw [hk] at ni
  have G := Lib.hid g
  have NI := Lib.hid ni
  have B1 := Lib.hid (B0.out.trans (b1.mono (by simp)))
  clear ht b1 hk ni g hl
  generalize hx : (run o acts)[(run o acts).length - 1]? = x at *
  have HX := Lib.hid hx
  clear hx
  generalize t.ord[(run o acts).length - 1]? = p at *
  go_wp2_with fail
  refine G.out.mono ?_
  rintro e w2 ⟨rfl, rfl⟩
  go_wp2_with fail
  refine (avlNode_walk _ p x NI.out).mono ?_
  rintro e w3 ⟨rfl, m2, rfl⟩
  clear NI G
  rcases x with _ | ⟨a, b⟩
  · simp only [tripV]
    go_wp2_with fail
    go_ret3
    exact ⟨by rw [HX.out]; rfl, Below.drewN' B1.out _⟩
  · simp only [tripV]
    go_wp2_with fail
    go_ret3
    exact ⟨by rw [HX.out]; rfl, Below.drewN' B1.out _⟩

/-- The pair behind the one of a number, and the one ahead of it. -/
def nextP (o : Ord) (k : Int) (l : KV) : Option (Int × Int) := if hasK o k l then l[plc o k l + 1]? else none
def prevP (o : Ord) (k : Int) (l : KV) : Option (Int × Int) := if hasK o k l then (if plc o k l = 0 then none else l[plc o k l - 1]?) else none
/-- The node that is found stands at the number's place. -/
theorem seek_ord {o : Ord} {k : Int} {c : Ctx} {t : BT} (h : Asc o t.kvs) (hh : hasK o k t.kvs = true) : ((seek o k c t).bind fun x => x.2.root) = t.ord[plc o k t.kvs]? := by
  induction t generalizing c with
  | nil => simp [BT.kvs, hasK] at hh
  | node i l k' v' b r ihl ihr =>
    have hm := asc_mid.1 (show Asc o (l.kvs ++ (k', v') :: r.kvs) from h)
    have ek : (BT.node i l k' v' b r).kvs = l.kvs ++ (k', v') :: r.kvs := rfl
    have eo : (BT.node i l k' v' b r).ord = l.ord ++ i :: r.ord := rfl
    have hll : l.ord.length = l.kvs.length := by rw [BT.ord_length, BT.kvs_length]
    rw [ek] at hh ⊢
    rw [eo]
    rcases Int.lt_trichotomy (o.rk k) (o.rk k') with hlt | he | hgt
    · rw [seek_left hlt]
      have hp : plc o k (l.kvs ++ (k', v') :: r.kvs) = plc o k l.kvs := plc_before (by omega)
      have hle := plc_le o k l.kvs
      rcases Nat.lt_or_ge (plc o k l.kvs) l.kvs.length with h1 | h1
      · obtain ⟨p, hpp⟩ : ∃ p, l.kvs[plc o k l.kvs]? = some p := ⟨_, List.getElem?_eq_getElem h1⟩
        have h2 : hasK o k l.kvs = true := by
          rw [hasK_of hpp]
          rw [hasK_of (p := p) (by rw [hp, List.getElem?_append_left h1, hpp])] at hh
          exact hh
        rw [hp, List.getElem?_append_left (by omega)]
        exact ihl hm.1 h2
      · have h2 : (l.kvs ++ (k', v') :: r.kvs)[plc o k (l.kvs ++ (k', v') :: r.kvs)]? = some (k', v') := by rw [hp, show plc o k l.kvs = l.kvs.length by omega]; simp
        rw [hasK_of h2] at hh
        simp at hh
        omega
    · rw [seek_here he]
      have hp : plc o k (l.kvs ++ (k', v') :: r.kvs) = l.kvs.length := by rw [plc_ahead (fun p hp => by rw [he]; exact hm.2.2.1 p hp)]; simp [plc, he]
      rw [hp, ← hll]
      simp [BT.root]
    · rw [seek_right hgt]
      have hp : plc o k (l.kvs ++ (k', v') :: r.kvs) = l.kvs.length + (plc o k r.kvs + 1) := by rw [plc_ahead (fun p hp => by have := hm.2.2.1 p hp; omega)]; simp [plc, hgt]
      have hg : (l.kvs ++ (k', v') :: r.kvs)[plc o k (l.kvs ++ (k', v') :: r.kvs)]? = r.kvs[plc o k r.kvs]? := by rw [hp, List.getElem?_append_right (by omega)]; simp
      have h2 : hasK o k r.kvs = true := by
        unfold hasK at hh ⊢
        rw [hg] at hh
        exact hh
      rw [hp, ← hll, List.getElem?_append_right (by omega)]
      rw [ihr hm.2.1 h2]
      simp
theorem seekId_at {L : Lay} {w : World} {H : Hd} {o : Ord} {k : Int} {t : BT} {i : Nat} (_s : St L w H [] t) (h : Asc o t.kvs) (hh : hasK o k t.kvs = true) (hi : t.ord[plc o k t.kvs]? = some i) : seekId o k t = some i := by
  unfold seekId; rw [seek_ord h hh, hi]

theorem implAVLNext_walk (o : Ord) (ho : o.fine) (n cap : Nat) (A : Option Addr) (acts : List Do) (k : Int) (w : World) (hn : acts.length = n) (hn1 : n ≤ 1000) (ha : ActsAt w w.heap.size A acts) :
    Calls Try.prog 51 #[.agg #[.int .i64 o.kind, .int .i64 o.m], .slice A n cap, .int .i64 k] w fun e w' => e = .returned (tripV (nextP o k (run o acts))) ∧ Below w.heap.size w w' := by
  have Ha := Lib.hid ha
  clear ha
  go_enter Try.func51, Try.ntmps51
  go_wp2_with fail
  have B0 := Lib.hid (show Below w.heap.size w (w.alloc (.cells #[.int .i64 o.kind, .int .i64 o.m] 23)) from (Below.refl _ _).alloc (Nat.le_refl _) _)
  refine (avl_walk o ho n cap A acts _ hn hn1 ((Ha.out.below B0.out).more (by simp))).mono ?_
  rintro e w1 ⟨tb, rfl, ⟨ob, t, ht, hk⟩, b1⟩
  have G := Lib.hid (avlGetNode_walk o ob _ _ tb t k ht)
  have B1 := Lib.hid (B0.out.trans (b1.mono (by simp)))
  cases hh : hasK o k (run o acts) with
  | false =>
    have e3 : seekId o k t = none := by
      rcases seek_look (o := o) (k := k) (c := []) ht.asc with ⟨c', i, l, k', v, b, r, e1, e2, _, _⟩ | ⟨e1, e2⟩
      · rw [hk, look_plc, hh] at e2; simp at e2
      · unfold seekId; rw [e1]; rfl
    have ex : nextP o k (run o acts) = none := by unfold nextP; rw [hh]; rfl
    have EX := Lib.hid ex
    rw [e3] at G
    clear ht b1 hk e3 ex hh
    go_wp2_with fail
    refine G.out.mono ?_
    rintro e w2 ⟨rfl, m, rfl⟩
    simp only [ptr, Option.map_none]
    go_wp2_with fail
    go_ret3
    exact ⟨by rw [EX.out]; rfl, Below.drewN' B1.out m⟩
  | true =>
    obtain ⟨q, hq, _⟩ := hasK_some hh
    have hlt : plc o k (run o acts) < t.count := by rw [← BT.kvs_length, hk]; exact (List.getElem?_eq_some_iff.1 hq).1
    obtain ⟨c, i, l, k2, v2, b, r, hs, h1, h2, h3, h4⟩ := ht.st.at_place hlt
    have e3 : seekId o k t = some i := seekId_at ht.st ht.asc (by rw [hk]; exact hh) (by rw [hk]; exact h1)
    rw [e3] at G
    have ni : NodeIs w1 avlL (nextId c r) (nextP o k (run o acts)) := by
      have := nodeIs_at ht.st (plc o k (run o acts) + 1)
      rw [hk, ← h3] at this
      unfold nextP; rw [hh]; exact this
    have N0 := Lib.hid (fun m => avlNodeNext_walk (w1.drewN m) _ c i l k2 v2 b r (hs.drewN m))
    have NI := Lib.hid ni
    clear ht b1 hk e3 hh hq hlt hs h1 h2 h3 h4 ni
    generalize hx : nextP o k (run o acts) = x at *
    have HX := Lib.hid hx
    clear hx
    generalize nextId c r = p at *
    simp only [ptr, Option.map_some] at G
    go_wp2_with fail
    refine G.out.mono ?_
    rintro e w2 ⟨rfl, m, rfl⟩
    go_wp2_with fail
    refine (N0.out m).mono ?_
    rintro e w3 ⟨rfl, rfl⟩
    go_wp2_with fail
    refine (avlNode_walk _ p x (NI.out.drewN m)).mono ?_
    rintro e w3 ⟨rfl, m2, rfl⟩
    clear NI G N0
    rcases x with _ | ⟨a, b⟩
    · simp only [tripV]
      go_wp2_with fail
      go_ret3
      exact ⟨by rw [HX.out]; rfl, Below.drewN' B1.out _⟩
    · simp only [tripV]
      go_wp2_with fail
      go_ret3
      exact ⟨by rw [HX.out]; rfl, Below.drewN' B1.out _⟩

theorem implAVLPrev_walk (o : Ord) (ho : o.fine) (n cap : Nat) (A : Option Addr) (acts : List Do) (k : Int) (w : World) (hn : acts.length = n) (hn1 : n ≤ 1000) (ha : ActsAt w w.heap.size A acts) :
    Calls Try.prog 57 #[.agg #[.int .i64 o.kind, .int .i64 o.m], .slice A n cap, .int .i64 k] w fun e w' => e = .returned (tripV (prevP o k (run o acts))) ∧ Below w.heap.size w w' := by
  have Ha := Lib.hid ha
  clear ha
  go_enter Try.func57, Try.ntmps57
  go_wp2_with fail
  have B0 := Lib.hid (show Below w.heap.size w (w.alloc (.cells #[.int .i64 o.kind, .int .i64 o.m] 23)) from (Below.refl _ _).alloc (Nat.le_refl _) _)
  refine (avl_walk o ho n cap A acts _ hn hn1 ((Ha.out.below B0.out).more (by simp))).mono ?_
  rintro e w1 ⟨tb, rfl, ⟨ob, t, ht, hk⟩, b1⟩
  have G := Lib.hid (avlGetNode_walk o ob _ _ tb t k ht)
  have B1 := Lib.hid (B0.out.trans (b1.mono (by simp)))
  cases hh : hasK o k (run o acts) with
  | false =>
    have e3 : seekId o k t = none := by
      rcases seek_look (o := o) (k := k) (c := []) ht.asc with ⟨c', i, l, k', v, b, r, e1, e2, _, _⟩ | ⟨e1, e2⟩
      · rw [hk, look_plc, hh] at e2; simp at e2
      · unfold seekId; rw [e1]; rfl
    have ex : prevP o k (run o acts) = none := by unfold prevP; rw [hh]; rfl
    have EX := Lib.hid ex
    rw [e3] at G
    clear ht b1 hk e3 ex hh
    go_wp2_with fail
    refine G.out.mono ?_
    rintro e w2 ⟨rfl, m, rfl⟩
    simp only [ptr, Option.map_none]
    go_wp2_with fail
    go_ret3
    exact ⟨by rw [EX.out]; rfl, Below.drewN' B1.out m⟩
  | true =>
    obtain ⟨q, hq, _⟩ := hasK_some hh
    have hlt : plc o k (run o acts) < t.count := by rw [← BT.kvs_length, hk]; exact (List.getElem?_eq_some_iff.1 hq).1
    obtain ⟨c, i, l, k2, v2, b, r, hs, h1, h2, h3, h4⟩ := ht.st.at_place hlt
    have e3 : seekId o k t = some i := seekId_at ht.st ht.asc (by rw [hk]; exact hh) (by rw [hk]; exact h1)
    rw [e3] at G
    have ni : NodeIs w1 avlL (prevId c l) (prevP o k (run o acts)) := by
      rw [h4]
      unfold prevP; rw [hh]
      by_cases h0 : plc o k (run o acts) = 0
      · rw [if_pos h0, if_pos rfl, if_pos h0]; exact .inl ⟨rfl, rfl⟩
      · rw [if_neg h0, if_pos rfl, if_neg h0]
        have := nodeIs_at ht.st (plc o k (run o acts) - 1)
        rw [hk] at this
        exact this
    have N0 := Lib.hid (fun m => avlNodePrev_walk (w1.drewN m) _ c i l k2 v2 b r (hs.drewN m))
    have NI := Lib.hid ni
    clear ht b1 hk e3 hh hq hlt hs h1 h2 h3 h4 ni
    generalize hx : prevP o k (run o acts) = x at *
    have HX := Lib.hid hx
    clear hx
    generalize prevId c l = p at *
    simp only [ptr, Option.map_some] at G
    go_wp2_with fail
    refine G.out.mono ?_
    rintro e w2 ⟨rfl, m, rfl⟩
    go_wp2_with fail
    refine (N0.out m).mono ?_
    rintro e w3 ⟨rfl, rfl⟩
    go_wp2_with fail
    refine (avlNode_walk _ p x (NI.out.drewN m)).mono ?_
    rintro e w3 ⟨rfl, m2, rfl⟩
    clear NI G N0
    rcases x with _ | ⟨a, b⟩
    · simp only [tripV]
      go_wp2_with fail
      go_ret3
      exact ⟨by rw [HX.out]; rfl, Below.drewN' B1.out _⟩
    · simp only [tripV]
      go_wp2_with fail
      go_ret3
      exact ⟨by rw [HX.out]; rfl, Below.drewN' B1.out _⟩

end Go.Proofs.Ytpmikeeeocnfnaa
