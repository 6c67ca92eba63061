/-
  The AVL tree: GetNode, Get; the thin package's AVLGet.
-/
import Derived.Test.YtpmikeeeocnfnaaSeek
import Derived.Test.YtpmikeeeocnfnaaAvlMake
import Derived.Deep.LoopGhost
namespace Go.Proofs.Ytpmikeeeocnfnaa
open Go.RowKit

theorem avlGetNode_walk (o : Ord) (ob B : Nat) (w : World) (tb : Nat) (t : BT) (k : Int) (h : AvlAt o ob B w tb t) :
    Calls Try.prog 72 #[.pointer (some ⟨tb, 0, none⟩), .iface 3 (.int .i64 k)] w fun e w' => e = .returned (ptr (seekId o k t)) ∧ ∃ n, w' = w.drewN n := by
  obtain ⟨hsl, _⟩ := h.st.hc.slot_cell
  simp only [slot, ptr] at hsl
  have H := Lib.hid h
  clear h
  go_enter Try.func72, Try.ntmps72
  go_wp2_with fail
  go_loopg [5] (t.count + 1) (fun g p wr => ∃ (c : Ctx) (s : BT), p = ptr s.root ∧ (∃ m, wr = w.drewN m) ∧ St avlL wr ⟨tb, cmpv ob, t.count⟩ c s ∧ OrdAt wr ob o ∧ seekId o k t = (seek o k c s).bind (fun x => x.2.root) ∧ s.count < g)
  case atStart => exact ⟨[], t, rfl, ⟨0, rfl⟩, H.out.st, H.out.ord, rfl, by omega⟩
  case round =>
    clear hsl
    obtain ⟨c, s, hp, hw, hst, hob, hsk, hg⟩ := hrel
    have HS := Lib.hid hst
    have HK := Lib.hid hsk
    have HW := Lib.hid hw
    have HO := Lib.hid hob
    cases s with
    | nil =>
      simp only [BT.root, ptr, Option.map_none] at hp
      subst hp
      clear hst hsk hw hob
      go_wp2_with fail
      go_ret
      exact ⟨by rw [HK.out]; rfl, HW.out⟩
    | node i l k' v b r =>
      obtain ⟨hk0, hv0, hl3, hr4⟩ := hst.ht.1.cells_
      obtain ⟨_, hh1, _⟩ := hst.hc.header
      simp only [BT.root, ptr, Option.map_some, Lay.om, if_true] at hk0 hp hh1
      subst hp
      have ho := Lib.hid H.out.fine
      rcases Int.lt_trichotomy (o.rk k) (o.rk k') with hlt | he | hgt
      · have By := Lib.hid (fun (w1 : World) (h1 : OrdAt w1 ob o) => by1_lt o ob k k' w1 ho.out h1 hlt)
        have e1 := Lib.hid (seek_left (c := c) (i := i) (l := l) (r := r) (v := v) (b := b) hlt)
        clear hst hsk hlt hob hw
        go_wp2_with fail
        go_quiet ((go_at_call 86; exact Calls.quiet_of (By.out _ HO.out)))
        go_wp2_with fail
        go_roundg (l.count + 1)
        case measure => simp only [BT.count] at hg; omega
        case rel =>
          obtain ⟨m, hm⟩ := HW.out
          refine ⟨.lf i k' v b r :: c, l, rfl, ⟨m + nq, by rw [hm, World.drewN_drewN]⟩, (HS.out.drewN nq).downL, HO.out.drewN nq, ?_, by omega⟩
          rw [HK.out, e1.out]
      · have By := Lib.hid (fun (w1 : World) (h1 : OrdAt w1 ob o) => by1_eq o ob k k' w1 ho.out h1 he)
        have e1 := Lib.hid (seek_here (c := c) (i := i) (l := l) (r := r) (v := v) (b := b) he)
        clear hst hsk he hob hw
        go_wp2_with fail
        go_quiet ((go_at_call 86; exact Calls.quiet_of (By.out _ HO.out)))
        go_wp2_with fail
        go_ret
        obtain ⟨m, hm⟩ := HW.out
        refine ⟨?_, m + nq, by rw [hm, World.drewN_drewN]⟩
        rw [HK.out, e1.out]; rfl
      · have By := Lib.hid (fun (w1 : World) (h1 : OrdAt w1 ob o) => by1_gt o ob k k' w1 ho.out h1 hgt)
        have e1 := Lib.hid (seek_right (c := c) (i := i) (l := l) (r := r) (v := v) (b := b) hgt)
        clear hst hsk hgt hob hw
        go_wp2_with fail
        go_quiet ((go_at_call 86; exact Calls.quiet_of (By.out _ HO.out)))
        go_wp2_with fail
        go_roundg (r.count + 1)
        case measure => simp only [BT.count] at hg; omega
        case rel =>
          obtain ⟨m, hm⟩ := HW.out
          refine ⟨.rf i l k' v b :: c, r, rfl, ⟨m + nq, by rw [hm, World.drewN_drewN]⟩, (HS.out.drewN nq).downR, HO.out.drewN nq, ?_, by omega⟩
          rw [HK.out, e1.out]

theorem seek_st {L : Lay} {w : World} {H : Hd} {o : Ord} {k : Int} {c c' : Ctx} {t s : BT} (h : St L w H c t) (e : seek o k c t = some (c', s)) : St L w H c' s := by
  induction t generalizing c with
  | nil => simp [seek] at e
  | node i l k' v' b r ihl ihr =>
    rcases Int.lt_trichotomy (o.rk k) (o.rk k') with hlt | he | hgt
    · rw [seek_left hlt] at e; exact ihl h.downL e
    · rw [seek_here he] at e
      simp only [Option.some.injEq, Prod.mk.injEq] at e
      obtain ⟨rfl, rfl⟩ := e
      exact h
    · rw [seek_right hgt] at e; exact ihr h.downR e

/-- What the package's Get answers. -/
def gotI : Option (Int × Int) → Value
  | some p => .tuple #[.iface 3 (.int .i64 p.2), .bool true]
  | none => .tuple #[.nilIface, .bool false]
def gotV : Option (Int × Int) → Value
  | some p => .tuple #[.int .i64 p.2, .bool true]
  | none => .tuple #[.int .i64 0, .bool false]

theorem avlGet_walk (o : Ord) (ob B : Nat) (w : World) (tb : Nat) (t : BT) (k : Int) (h : AvlAt o ob B w tb t) :
    Calls Try.prog 61 #[.pointer (some ⟨tb, 0, none⟩), .iface 3 (.int .i64 k)] w fun e w' => e = .returned (gotI (look o k t.kvs)) ∧ ∃ n, w' = w.drewN n := by
  have g := avlGetNode_walk o ob B w tb t k h
  rcases seek_look (o := o) (k := k) (c := []) h.asc with ⟨c', i, l, k', v, b, r, e1, e2, _, _⟩ | ⟨e1, e2⟩
  · have hst := seek_st h.st e1
    obtain ⟨_, hv0, _, _⟩ := hst.ht.1.cells_
    have e3 : seekId o k t = some i := by unfold seekId; rw [e1]; rfl
    rw [e3] at g
    simp only [ptr, Option.map_some] at g
    rw [e2]
    have G := Lib.hid g
    clear g e1 e2 e3 hst h
    go_enter Try.func61, Try.ntmps61
    go_wp2_with fail
    refine G.out.mono ?_
    rintro e w1 ⟨rfl, n, rfl⟩
    go_wp2_with fail
    go_ret2
    exact ⟨rfl, n, rfl⟩
  · have e3 : seekId o k t = none := by unfold seekId; rw [e1]; rfl
    rw [e3] at g
    simp only [ptr, Option.map_none] at g
    rw [e2]
    have G := Lib.hid g
    clear g e1 e2 e3 h
    go_enter Try.func61, Try.ntmps61
    go_wp2_with fail
    refine G.out.mono ?_
    rintro e w1 ⟨rfl, n, rfl⟩
    go_wp2_with fail
    go_ret2
    exact ⟨rfl, n, rfl⟩

theorem valueOf_some (v : Int) (w : World) : Calls Try.prog 59 #[.iface 3 (.int .i64 v), .bool true] w fun e w' => e = .returned (.tuple #[.int .i64 v, .bool true]) ∧ w = w' := by
  go_enter Try.func59, Try.ntmps59
  go_wp2_with fail
  go_ret2
  exact ⟨rfl, rfl⟩
theorem valueOf_none (w : World) : Calls Try.prog 59 #[.nilIface, .bool false] w fun e w' => e = .returned (.tuple #[.int .i64 0, .bool false]) ∧ w = w' := by
  go_enter Try.func59, Try.ntmps59
  go_wp2_with fail
  go_ret2
  exact ⟨rfl, rfl⟩

/-- The thin package's AVLGet answers what the reference finds. -/
theorem implAVLGet_walk (o : Ord) (ho : o.fine) (n cap : Nat) (A : Option Addr) (acts : List Do) (k : Int) (w : World) (hn : acts.length = n) (hn1 : n ≤ 1000) (ha : ActsAt w w.heap.size A acts) :
    Calls Try.prog 31 #[.agg #[.int .i64 o.kind, .int .i64 o.m], .slice A n cap, .int .i64 k] w fun e w' => e = .returned (gotV (look o k (run o acts))) ∧ Below w.heap.size w w' := by
  have Ha := Lib.hid ha
  clear ha
  go_enter Try.func31, Try.ntmps31
  go_wp2_with fail
  have b0 : Below w.heap.size w (w.alloc (.cells #[.int .i64 o.kind, .int .i64 o.m] 23)) := (Below.refl _ _).alloc (Nat.le_refl _) _
  have B0 := Lib.hid b0
  clear b0
  refine (avl_walk o ho n cap A acts _ hn hn1 ((Ha.out.below B0.out).more (by simp))).mono ?_
  rintro e w1 ⟨tb, rfl, ⟨ob, t, ht, hk⟩, b1⟩
  have avg := avlGet_walk o ob _ _ tb t k ht
  rw [hk] at avg
  have B1 := Lib.hid (B0.out.trans (b1.mono (by simp)))
  clear ht b1 hk
  cases hq : look o k (run o acts) with
  | some p =>
    rw [hq] at avg
    have Hq := Lib.hid hq
    have Avg := Lib.hid avg
    clear hq avg
    go_wp2_with fail
    refine Avg.out.mono ?_
    rintro e w2 ⟨rfl, m, rfl⟩
    simp only [gotI]
    go_wp2_with fail
    refine (valueOf_some _ _).mono ?_
    rintro e w3 ⟨rfl, rfl⟩
    go_wp2_with fail
    go_ret2
    exact ⟨by rw [Hq.out]; rfl, B1.out.trans ⟨rfl, rfl, rfl, Nat.le_refl _, fun _ _ => rfl⟩⟩
  | none =>
    rw [hq] at avg
    have Hq := Lib.hid hq
    have Avg := Lib.hid avg
    clear hq avg
    go_wp2_with fail
    refine Avg.out.mono ?_
    rintro e w2 ⟨rfl, m, rfl⟩
    simp only [gotI]
    go_wp2_with fail
    refine (valueOf_none _).mono ?_
    rintro e w3 ⟨rfl, rfl⟩
    go_wp2_with fail
    go_ret2
    exact ⟨by rw [Hq.out]; rfl, B1.out.trans ⟨rfl, rfl, rfl, Nat.le_refl _, fun _ _ => rfl⟩⟩

end Go.Proofs.Ytpmikeeeocnfnaa
