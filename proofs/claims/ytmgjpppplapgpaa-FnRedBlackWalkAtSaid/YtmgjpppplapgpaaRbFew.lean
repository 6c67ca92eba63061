/-
  The red-black tree: single nodes: the thin package's rbNode, RedBlackNode, RedBlackLeft, RedBlackRight, RedBlackNext, RedBlackPrev.
-/
import Derived.Test.YtmgjpppplapgpaaFewBase
import Derived.Test.YtmgjpppplapgpaaFloorPure
import Derived.Test.YtmgjpppplapgpaaRbGet
import Derived.Test.YtmgjpppplapgpaaRbIt
namespace Go.Proofs.Ytmgjpppplapgpaa.Rb
open Go.RowKit Go.Proofs.Ytmgjpppplapgpaa

theorem rbNode_walk (w : World) (p : Option Nat) (x : Option (Int × Int)) (h : NodeIs w rbL p x) :
    Calls Try.prog 56 #[ptr p, .bool true] w fun e w' => e = .returned (tripV x) ∧ ∃ n, w' = w.drewN n := by
  rcases h with ⟨rfl, rfl⟩ | ⟨i, k, v, rfl, rfl, h0, h1⟩
  · go_enter Try.func56, Try.ntmps56
    go_wp2_with fail
    go_ret3
    exact ⟨rfl, 0, rfl⟩
  · simp only [ptr, Option.map_some]
    go_enter Try.func56, Try.ntmps56
    go_wp2_with fail
    go_quiet (fail)
    go_wp2_with fail
    go_ret3
    exact ⟨rfl, _, rfl⟩

/-- From a contract of a tree's method that answers a node to the thin package's function. -/
theorem implRedBlackNode_walk (o : Ord) (ho : o.fine) (n cap : Nat) (A : Option Addr) (acts : List Do) (k : Int) (w : World) (hn : acts.length = n) (hn1 : n ≤ 1000) (ha : ActsAt w w.heap.size A acts) :
    Calls Try.prog 36 #[.agg #[.int .i64 o.kind, .int .i64 o.m], .slice A n cap, .int .i64 k] w fun e w' => e = .returned (tripV (look o k (run o acts))) ∧ Below w.heap.size w w' := by
  have Ha := Lib.hid ha
  clear ha
  go_enter Try.func36, Try.ntmps36
  go_wp2_with fail
  have B0 := Lib.hid (show Below w.heap.size w (w.alloc (.cells #[.int .i64 o.kind, .int .i64 o.m] 23)) from (Below.refl _ _).alloc (Nat.le_refl _) _)
  refine (rb_walk o ho n cap A acts _ hn hn1 ((Ha.out.below B0.out).more (by simp))).mono ?_
  rintro e w1 ⟨tb, rfl, ⟨ob, t, ht, hk⟩, b1⟩
  have G := Lib.hid (rbGetNode_walk o ob _ _ tb t k ht)
  have ni := seek_nodeIs (k := k) ht.st ht.asc
  rw [hk] at ni
  have NI := Lib.hid ni
  have B1 := Lib.hid (B0.out.trans (b1.mono (by simp)))
  clear ht b1 hk ni
  generalize hx : look o k (run o acts) = x at *
  have HX := Lib.hid hx
  clear hx
  generalize seekId o k t = p at *
  go_wp2_with fail
  refine G.out.mono ?_
  rintro e w2 ⟨rfl, m, rfl⟩
  go_wp2_with fail
  refine (rbNode_walk _ p x (NI.out.drewN m)).mono ?_
  rintro e w3 ⟨rfl, m2, rfl⟩
  clear NI G
  rcases x with _ | ⟨a, b⟩
  · simp only [tripV]
    go_wp2_with fail
    go_ret3
    exact ⟨by rw [HX.out]; rfl, Below.drewN' B1.out _⟩
  · simp only [tripV]
    go_wp2_with fail
    go_ret3
    exact ⟨by rw [HX.out]; rfl, Below.drewN' B1.out _⟩

theorem implRedBlackLeft_walk (o : Ord) (ho : o.fine) (n cap : Nat) (A : Option Addr) (acts : List Do) (w : World) (hn : acts.length = n) (hn1 : n ≤ 1000) (ha : ActsAt w w.heap.size A acts) :
    Calls Try.prog 35 #[.agg #[.int .i64 o.kind, .int .i64 o.m], .slice A n cap] w fun e w' => e = .returned (tripV (run o acts)[0]?) ∧ Below w.heap.size w w' := by
  have Ha := Lib.hid ha
  clear ha
  go_enter Try.func35, Try.ntmps35
  go_wp2_with fail
  have B0 := Lib.hid (show Below w.heap.size w (w.alloc (.cells #[.int .i64 o.kind, .int .i64 o.m] 23)) from (Below.refl _ _).alloc (Nat.le_refl _) _)
  refine (rb_walk o ho n cap A acts _ hn hn1 ((Ha.out.below B0.out).more (by simp))).mono ?_
  rintro e w1 ⟨tb, rfl, ⟨ob, t, ht, hk⟩, b1⟩
  have g := rbLeft_walk w1 _ t ht.st
  have hl : t.ord.length = (run o acts).length := by rw [BT.ord_length, ← BT.kvs_length, hk]
  rw [lo_at] at g
  have ni := nodeIs_at ht.st 0
  rw [hk] at ni
  have G := Lib.hid g
  have NI := Lib.hid ni
  have B1 := Lib.hid (B0.out.trans (b1.mono (by simp)))
  clear ht b1 hk ni g hl
  generalize hx : (run o acts)[0]? = x at *
  have HX := Lib.hid hx
  clear hx
  generalize t.ord[0]? = p at *
  go_wp2_with fail
  refine G.out.mono ?_
  rintro e w2 ⟨rfl, rfl⟩
  go_wp2_with fail
  refine (rbNode_walk _ p x NI.out).mono ?_
  rintro e w3 ⟨rfl, m2, rfl⟩
  clear NI G
  rcases x with _ | ⟨a, b⟩
  · simp only [tripV]
    go_wp2_with fail
    go_ret3
    exact ⟨by rw [HX.out]; rfl, Below.drewN' B1.out _⟩
  · simp only [tripV]
    go_wp2_with fail
    go_ret3
    exact ⟨by rw [HX.out]; rfl, Below.drewN' B1.out _⟩

theorem implRedBlackRight_walk (o : Ord) (ho : o.fine) (n cap : Nat) (A : Option Addr) (acts : List Do) (w : World) (hn : acts.length = n) (hn1 : n ≤ 1000) (ha : ActsAt w w.heap.size A acts) :
    Calls Try.prog 38 #[.agg #[.int .i64 o.kind, .int .i64 o.m], .slice A n cap] w fun e w' => e = .returned (tripV (run o acts)[(run o acts).length - 1]?) ∧ Below w.heap.size w w' := by
  have Ha := Lib.hid ha
  clear ha
  go_enter Try.func38, Try.ntmps38
  go_wp2_with fail
  have B0 := Lib.hid (show Below w.heap.size w (w.alloc (.cells #[.int .i64 o.kind, .int .i64 o.m] 23)) from (Below.refl _ _).alloc (Nat.le_refl _) _)
  refine (rb_walk o ho n cap A acts _ hn hn1 ((Ha.out.below B0.out).more (by simp))).mono ?_
  rintro e w1 ⟨tb, rfl, ⟨ob, t, ht, hk⟩, b1⟩
  have g := rbRight_walk w1 _ t ht.st
  have hl : t.ord.length = (run o acts).length := by rw [BT.ord_length, ← BT.kvs_length, hk]
  rw [hi_at, hl] at g
  have ni := nodeIs_at ht.st ((run o acts).length - 1)
  rw [hk] at ni
  have G := Lib.hid g
  have NI := Lib.hid ni
  have B1 := Lib.hid (B0.out.trans (b1.mono (by simp)))
  clear ht b1 hk ni g hl
  generalize hx : (run o acts)[(run o acts).length - 1]? = x at *
  have HX := Lib.hid hx
  clear hx
  generalize t.ord[(run o acts).length - 1]? = p at *
  go_wp2_with fail
  refine G.out.mono ?_
  rintro e w2 ⟨rfl, rfl⟩
  go_wp2_with fail
  refine (rbNode_walk _ p x NI.out).mono ?_
  rintro e w3 ⟨rfl, m2, rfl⟩
  clear NI G
  rcases x with _ | ⟨a, b⟩
  · simp only [tripV]
    go_wp2_with fail
    go_ret3
    exact ⟨by rw [HX.out]; rfl, Below.drewN' B1.out _⟩
  · simp only [tripV]
    go_wp2_with fail
    go_ret3
    exact ⟨by rw [HX.out]; rfl, Below.drewN' B1.out _⟩

end Go.Proofs.Ytmgjpppplapgpaa.Rb
