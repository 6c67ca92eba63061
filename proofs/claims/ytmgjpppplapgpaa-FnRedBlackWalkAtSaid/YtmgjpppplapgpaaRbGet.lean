/-
  The red-black tree: GetNode, Get; the thin package's RedBlackGet.
-/
import Derived.Test.YtmgjpppplapgpaaBases
import Derived.Test.YtmgjpppplapgpaaPures
import Derived.Test.YtmgjpppplapgpaaRbMake
import Derived.Deep.LoopGhost
namespace Go.Proofs.Ytmgjpppplapgpaa.Rb
open Go.RowKit Go.Proofs.Ytmgjpppplapgpaa

theorem find_seek (o : Ord) (k : Int) (c : Ctx) (t : BT) : (find o k c t).2.root = (seek o k c t).bind fun x => x.2.root := by
  induction t generalizing c with
  | nil => rfl
  | node i l k' v b r ihl ihr =>
    rcases Int.lt_trichotomy (o.rk k) (o.rk k') with hlt | he | hgt
    · rw [find_left hlt, seek_left hlt]; exact ihl _
    · rw [find_here he, seek_here he]; rfl
    · rw [find_right hgt, seek_right hgt]; exact ihr _
theorem rbLookup_walk (o : Ord) (ob B : Nat) (w : World) (tb : Nat) (t : BT) (k : Int) (h : RbAt o ob B w tb t) :
    Calls Try.prog 68 #[.pointer (some ⟨tb, 0, none⟩), .iface 3 (.int .i64 k)] w fun e w' => e = .returned (ptr (seekId o k t)) ∧ ∃ n, w' = w.drewN n := by
  have := lookup_walk o h.fine ob k t w ⟨tb, cmpv ob, t.count⟩ h.st rfl h.ord
  rw [find_seek] at this
  exact this
theorem rbGetNode_walk (o : Ord) (ob B : Nat) (w : World) (tb : Nat) (t : BT) (k : Int) (h : RbAt o ob B w tb t) :
    Calls Try.prog 58 #[.pointer (some ⟨tb, 0, none⟩), .iface 3 (.int .i64 k)] w fun e w' => e = .returned (ptr (seekId o k t)) ∧ ∃ n, w' = w.drewN n := by
  have G := Lib.hid (rbLookup_walk o ob B w tb t k h)
  clear h
  generalize ptr (seekId o k t) = y at *
  go_enter Try.func58, Try.ntmps58
  go_wp2_with fail
  refine G.out.mono ?_
  rintro e w1 ⟨rfl, n, rfl⟩
  clear G
  go_wp2_with fail
  go_ret
  exact ⟨rfl, n, rfl⟩

theorem rbGet_walk (o : Ord) (ob B : Nat) (w : World) (tb : Nat) (t : BT) (k : Int) (h : RbAt o ob B w tb t) :
    Calls Try.prog 52 #[.pointer (some ⟨tb, 0, none⟩), .iface 3 (.int .i64 k)] w fun e w' => e = .returned (gotI (look o k t.kvs)) ∧ ∃ n, w' = w.drewN n := by
  have g := rbLookup_walk o ob B w tb t k h
  rcases seek_look (o := o) (k := k) (c := []) h.asc with ⟨c', i, l, k', v, b, r, e1, e2, _, _⟩ | ⟨e1, e2⟩
  · have hst := seek_st h.st e1
    obtain ⟨_, hv0, _, _⟩ := hst.ht.1.cells_
    have e3 : seekId o k t = some i := by unfold seekId; rw [e1]; rfl
    rw [e3] at g
    simp only [ptr, Option.map_some] at g
    rw [e2]
    have G := Lib.hid g
    clear g e1 e2 e3 hst h
    go_enter Try.func52, Try.ntmps52
    go_wp2_with fail
    refine G.out.mono ?_
    rintro e w1 ⟨rfl, n, rfl⟩
    go_wp2_with fail
    go_ret2
    exact ⟨rfl, n, rfl⟩
  · have e3 : seekId o k t = none := by unfold seekId; rw [e1]; rfl
    rw [e3] at g
    simp only [ptr, Option.map_none] at g
    rw [e2]
    have G := Lib.hid g
    clear g e1 e2 e3 h
    go_enter Try.func52, Try.ntmps52
    go_wp2_with fail
    refine G.out.mono ?_
    rintro e w1 ⟨rfl, n, rfl⟩
    go_wp2_with fail
    go_ret2
    exact ⟨rfl, n, rfl⟩

/-- The thin package's RedBlackGet answers what the reference finds. -/
theorem implRedBlackGet_walk (o : Ord) (ho : o.fine) (n cap : Nat) (A : Option Addr) (acts : List Do) (k : Int) (w : World) (hn : acts.length = n) (hn1 : n ≤ 1000) (ha : ActsAt w w.heap.size A acts) :
    Calls Try.prog 27 #[.agg #[.int .i64 o.kind, .int .i64 o.m], .slice A n cap, .int .i64 k] w fun e w' => e = .returned (gotV (look o k (run o acts))) ∧ Below w.heap.size w w' := by
  have Ha := Lib.hid ha
  clear ha
  go_enter Try.func27, Try.ntmps27
  go_wp2_with fail
  have b0 : Below w.heap.size w (w.alloc (.cells #[.int .i64 o.kind, .int .i64 o.m] 23)) := (Below.refl _ _).alloc (Nat.le_refl _) _
  have B0 := Lib.hid b0
  clear b0
  refine (rb_walk o ho n cap A acts _ hn hn1 ((Ha.out.below B0.out).more (by simp))).mono ?_
  rintro e w1 ⟨tb, rfl, ⟨ob, t, ht, hk⟩, b1⟩
  have avg := rbGet_walk o ob _ _ tb t k ht
  rw [hk] at avg
  have B1 := Lib.hid (B0.out.trans (b1.mono (by simp)))
  clear ht b1 hk
  cases hq : look o k (run o acts) with
  | some p =>
    rw [hq] at avg
    have Hq := Lib.hid hq
    have Avg := Lib.hid avg
    clear hq avg
    go_wp2_with fail
    refine Avg.out.mono ?_
    rintro e w2 ⟨rfl, m, rfl⟩
    simp only [gotI]
    go_wp2_with fail
    refine (valueOf_some _ _).mono ?_
    rintro e w3 ⟨rfl, rfl⟩
    go_wp2_with fail
    go_ret2
    exact ⟨by rw [Hq.out]; rfl, B1.out.trans ⟨rfl, rfl, rfl, Nat.le_refl _, fun _ _ => rfl⟩⟩
  | none =>
    rw [hq] at avg
    have Hq := Lib.hid hq
    have Avg := Lib.hid avg
    clear hq avg
    go_wp2_with fail
    refine Avg.out.mono ?_
    rintro e w2 ⟨rfl, m, rfl⟩
    simp only [gotI]
    go_wp2_with fail
    refine (valueOf_none _).mono ?_
    rintro e w3 ⟨rfl, rfl⟩
    go_wp2_with fail
    go_ret2
    exact ⟨by rw [Hq.out]; rfl, B1.out.trans ⟨rfl, rfl, rfl, Nat.le_refl _, fun _ _ => rfl⟩⟩

end Go.Proofs.Ytmgjpppplapgpaa.Rb
