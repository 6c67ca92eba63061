/-
  The AVL tree: Floor and Ceiling; the thin package's AVLFloor, AVLCeiling.
-/
import Derived.Test.YtpmikeeeocnfnaaAvlFew
namespace Go.Proofs.Ytpmikeeeocnfnaa
open Go.RowKit

theorem avlNode2_walk (w : World) (p : Option Nat) (x : Option (Int × Int)) (h : NodeIs w avlL p x) :
    Calls Try.prog 64 #[ptr p, .bool p.isSome] w fun e w' => e = .returned (tripV x) ∧ ∃ n, w' = w.drewN n := by
  rcases h with ⟨rfl, rfl⟩ | ⟨i, k, v, rfl, rfl, h0, h1⟩
  · simp only [ptr, Option.map_none, Option.isSome_none]
    go_enter Try.func64, Try.ntmps64
    go_wp2_with fail
    go_ret3
    exact ⟨rfl, 0, rfl⟩
  · simp only [ptr, Option.map_some, Option.isSome_some]
    go_enter Try.func64, Try.ntmps64
    go_wp2_with fail
    go_quiet (fail)
    go_wp2_with fail
    go_ret3
    exact ⟨rfl, _, rfl⟩

/-- The node that Floor finds, below a node, with the best one so far. -/
def floT (o : Ord) (k : Int) : Option Nat → BT → Option Nat
  | b, .nil => b
  | b, .node i l k' _ _ r => if o.rk k = o.rk k' then some i else if o.rk k < o.rk k' then floT o k b l else floT o k (some i) r
def floX (o : Ord) (k : Int) : Option (Int × Int) → BT → Option (Int × Int)
  | b, .nil => b
  | b, .node _ l k' v _ r => if o.rk k = o.rk k' then some (k', v) else if o.rk k < o.rk k' then floX o k b l else floX o k (some (k', v)) r
theorem floX_eq {o : Ord} {k : Int} {t : BT} (h : Asc o t.kvs) (b : Option (Int × Int)) : floX o k b t = (floorP o k t.kvs).or b := by
  induction t generalizing b with
  | nil => simp [floX, floorP, hasK, BT.kvs, plc]
  | node i l k' v c r ihl ihr =>
    have hm := asc_mid.1 (show Asc o (l.kvs ++ (k', v) :: r.kvs) from h)
    simp only [floX, BT.kvs]
    rcases Int.lt_trichotomy (o.rk k) (o.rk k') with hlt | he | hgt
    · rw [if_neg (by omega), if_pos hlt, ihl hm.1, floor_left hlt]
    · rw [if_pos he, floor_here hm.2.2.1 he]; rfl
    · rw [if_neg (by omega), if_neg (by omega), ihr hm.2.1, floor_right hm.2.2.1 hgt]; cases floorP o k r.kvs <;> rfl

set_option maxRecDepth 100000 in
theorem avlFloor_walk (o : Ord) (ob B : Nat) (w : World) (tb : Nat) (t : BT) (k : Int) (h : AvlAt o ob B w tb t) :
    Calls Try.prog 75 #[.pointer (some ⟨tb, 0, none⟩), .iface 3 (.int .i64 k)] w fun e w' => ∃ p : Option Nat, e = .returned (.tuple #[ptr p, .bool p.isSome]) ∧ NodeIs w avlL p (floorP o k t.kvs) ∧ ∃ n, w' = w.drewN n := by
  obtain ⟨hsl, _⟩ := h.st.hc.slot_cell
  simp only [slot, ptr] at hsl
  have H := Lib.hid h
  have HX := Lib.hid (show floX o k none t = floorP o k t.kvs by rw [floX_eq h.asc]; simp)
  clear h
  go_enter Try.func75, Try.ntmps75
  go_wp2_with fail
  go_loopg [4, 5, 6] (t.count + 1) (fun g bp bb p wr => ∃ (c : Ctx) (s : BT) (bi : Option Nat) (bx : Option (Int × Int)), p = ptr s.root ∧ bp = ptr bi ∧ bb = .bool bi.isSome ∧ (∃ m, wr = w.drewN m) ∧ St avlL wr ⟨tb, cmpv ob, t.count⟩ c s ∧ OrdAt wr ob o ∧ NodeIs w avlL bi bx ∧ floX o k none t = floX o k bx s ∧ s.count < g)
  case atStart => exact ⟨[], t, none, none, rfl, rfl, rfl, ⟨0, rfl⟩, H.out.st, H.out.ord, NodeIs.none _ _, rfl, by omega⟩
  case round =>
    clear hsl
    obtain ⟨c, s, bi, bx, hp, hbp, hbb, hw, hst, hob, hni, hsk, hg⟩ := hrel
    have HS := Lib.hid hst
    have HK := Lib.hid hsk
    have HW := Lib.hid hw
    have HO := Lib.hid hob
    have HN := Lib.hid hni
    cases s with
    | nil =>
      simp only [BT.root, ptr, Option.map_none] at hp
      subst hp hbp hbb
      clear hst hsk hw hob hni
      have HZ := Lib.hid (show floorP o k t.kvs = bx by rw [← HX.out, HK.out]; rfl)
      cases bi with
      | none =>
        simp only [ptr, Option.map_none, Option.isSome_none]
        go_wp2_with fail
        go_ret2
        exact ⟨none, rfl, by rw [HZ.out]; exact HN.out, HW.out⟩
      | some j =>
        simp only [ptr, Option.map_some, Option.isSome_some]
        go_wp2_with fail
        go_ret2
        exact ⟨some j, rfl, by rw [HZ.out]; exact HN.out, HW.out⟩
    | node i l k' v b r =>
      obtain ⟨hk0, hv0, hl3, hr4⟩ := hst.ht.1.cells_
      obtain ⟨_, hh1, _⟩ := hst.hc.header
      simp only [BT.root, ptr, Option.map_some, Lay.om, if_true] at hk0 hp hh1
      subst hp hbp hbb
      have ho := Lib.hid H.out.fine
      have NI := Lib.hid (show NodeIs w avlL (some i) (some (k', v)) by have := hst.nodeIs; obtain ⟨m, hm⟩ := hw; subst hm; exact this)
      rcases Int.lt_trichotomy (o.rk k) (o.rk k') with hlt | he | hgt
      · have By := Lib.hid (fun (w1 : World) (h1 : OrdAt w1 ob o) => by1_lt o ob k k' w1 ho.out h1 hlt)
        have e1 := Lib.hid (show floX o k bx (.node i l k' v b r) = floX o k bx l by simp only [floX]; rw [if_neg (by omega), if_pos hlt])
        clear hst hsk hlt hob hw hni
        go_wp2_with fail
        go_quiet ((go_at_call 86; exact Calls.quiet_of (By.out _ HO.out)))
        go_wp2_with fail
        go_roundg (l.count + 1)
        case measure => simp only [BT.count] at hg; omega
        case rel =>
          obtain ⟨m, hm⟩ := HW.out
          exact ⟨.lf i k' v b r :: c, l, bi, bx, rfl, rfl, rfl, ⟨m + nq, by rw [hm, World.drewN_drewN]⟩, (HS.out.drewN nq).downL, HO.out.drewN nq, HN.out, by rw [HK.out, e1.out], by omega⟩
      · have By := Lib.hid (fun (w1 : World) (h1 : OrdAt w1 ob o) => by1_eq o ob k k' w1 ho.out h1 he)
        have e1 := Lib.hid (show floorP o k t.kvs = some (k', v) by rw [← HX.out, HK.out]; simp only [floX]; rw [if_pos he])
        clear hst hsk he hob hw hni
        go_wp2_with fail
        go_quiet ((go_at_call 86; exact Calls.quiet_of (By.out _ HO.out)))
        go_wp2_with fail
        go_ret2
        obtain ⟨m, hm⟩ := HW.out
        exact ⟨some i, rfl, by rw [e1.out]; exact NI.out, m + nq, by rw [hm, World.drewN_drewN]⟩
      · have By := Lib.hid (fun (w1 : World) (h1 : OrdAt w1 ob o) => by1_gt o ob k k' w1 ho.out h1 hgt)
        have e1 := Lib.hid (show floX o k bx (.node i l k' v b r) = floX o k (some (k', v)) r by simp only [floX]; rw [if_neg (by omega), if_neg (by omega)])
        clear hst hsk hgt hob hw hni
        go_wp2_with fail
        go_quiet ((go_at_call 86; exact Calls.quiet_of (By.out _ HO.out)))
        go_wp2_with fail
        go_roundg (r.count + 1)
        case measure => simp only [BT.count] at hg; omega
        case rel =>
          obtain ⟨m, hm⟩ := HW.out
          exact ⟨.rf i l k' v b :: c, r, some i, some (k', v), rfl, rfl, rfl, ⟨m + nq, by rw [hm, World.drewN_drewN]⟩, (HS.out.drewN nq).downR, HO.out.drewN nq, NI.out, by rw [HK.out, e1.out], by omega⟩

theorem implAVLFloor_walk (o : Ord) (ho : o.fine) (n cap : Nat) (A : Option Addr) (acts : List Do) (k : Int) (w : World) (hn : acts.length = n) (hn1 : n ≤ 1000) (ha : ActsAt w w.heap.size A acts) :
    Calls Try.prog 55 #[.agg #[.int .i64 o.kind, .int .i64 o.m], .slice A n cap, .int .i64 k] w fun e w' => e = .returned (tripV (floorP o k (run o acts))) ∧ Below w.heap.size w w' := by
  have Ha := Lib.hid ha
  clear ha
  go_enter Try.func55, Try.ntmps55
  go_wp2_with fail
  have B0 := Lib.hid (show Below w.heap.size w (w.alloc (.cells #[.int .i64 o.kind, .int .i64 o.m] 23)) from (Below.refl _ _).alloc (Nat.le_refl _) _)
  refine (avl_walk o ho n cap A acts _ hn hn1 ((Ha.out.below B0.out).more (by simp))).mono ?_
  rintro e w1 ⟨tb, rfl, ⟨ob, t, ht, hk⟩, b1⟩
  have G := Lib.hid (avlFloor_walk o ob _ _ tb t k ht)
  have B1 := Lib.hid (B0.out.trans (b1.mono (by simp)))
  rw [hk] at G
  clear ht b1 hk
  generalize hx : floorP o k (run o acts) = x at *
  have HX := Lib.hid hx
  clear hx
  go_wp2_with fail
  refine G.out.mono ?_
  rintro e w2 ⟨p, rfl, ni, m, rfl⟩
  have NI := Lib.hid ni
  clear ni G
  go_wp2_with fail
  refine (avlNode2_walk _ p x (NI.out.drewN m)).mono ?_
  rintro e w3 ⟨rfl, m2, rfl⟩
  clear NI
  rcases x with _ | ⟨a, b⟩
  · simp only [tripV]
    go_wp2_with fail
    go_ret3
    exact ⟨by rw [HX.out]; rfl, Below.drewN' B1.out _⟩
  · simp only [tripV]
    go_wp2_with fail
    go_ret3
    exact ⟨by rw [HX.out]; rfl, Below.drewN' B1.out _⟩

/-- The node that Ceiling finds, below a node, with the best one so far. -/
def ceT (o : Ord) (k : Int) : Option Nat → BT → Option Nat
  | b, .nil => b
  | b, .node i l k' _ _ r => if o.rk k = o.rk k' then some i else if o.rk k < o.rk k' then ceT o k (some i) l else ceT o k b r
def ceX (o : Ord) (k : Int) : Option (Int × Int) → BT → Option (Int × Int)
  | b, .nil => b
  | b, .node _ l k' v _ r => if o.rk k = o.rk k' then some (k', v) else if o.rk k < o.rk k' then ceX o k (some (k', v)) l else ceX o k b r
theorem ceX_eq {o : Ord} {k : Int} {t : BT} (h : Asc o t.kvs) (b : Option (Int × Int)) : ceX o k b t = (ceilP o k t.kvs).or b := by
  induction t generalizing b with
  | nil => simp [ceX, ceilP, BT.kvs, plc]
  | node i l k' v c r ihl ihr =>
    have hm := asc_mid.1 (show Asc o (l.kvs ++ (k', v) :: r.kvs) from h)
    simp only [ceX, BT.kvs]
    rcases Int.lt_trichotomy (o.rk k) (o.rk k') with hlt | he | hgt
    · rw [if_neg (by omega), if_pos hlt, ihl hm.1, ceil_left hlt]; cases ceilP o k l.kvs <;> rfl
    · rw [if_pos he, ceil_here hm.2.2.1 he]; rfl
    · rw [if_neg (by omega), if_neg (by omega), ihr hm.2.1, ceil_right hm.2.2.1 hgt]

set_option maxRecDepth 100000 in
theorem avlCeiling_walk (o : Ord) (ob B : Nat) (w : World) (tb : Nat) (t : BT) (k : Int) (h : AvlAt o ob B w tb t) :
    Calls Try.prog 74 #[.pointer (some ⟨tb, 0, none⟩), .iface 3 (.int .i64 k)] w fun e w' => ∃ p : Option Nat, e = .returned (.tuple #[ptr p, .bool p.isSome]) ∧ NodeIs w avlL p (ceilP o k t.kvs) ∧ ∃ n, w' = w.drewN n := by
  obtain ⟨hsl, _⟩ := h.st.hc.slot_cell
  simp only [slot, ptr] at hsl
  have H := Lib.hid h
  have HX := Lib.hid (show ceX o k none t = ceilP o k t.kvs by rw [ceX_eq h.asc]; simp)
  clear h
  go_enter Try.func74, Try.ntmps74
  go_wp2_with fail
  go_loopg [4, 5, 6] (t.count + 1) (fun g bp bb p wr => ∃ (c : Ctx) (s : BT) (bi : Option Nat) (bx : Option (Int × Int)), p = ptr s.root ∧ bp = ptr bi ∧ bb = .bool bi.isSome ∧ (∃ m, wr = w.drewN m) ∧ St avlL wr ⟨tb, cmpv ob, t.count⟩ c s ∧ OrdAt wr ob o ∧ NodeIs w avlL bi bx ∧ ceX o k none t = ceX o k bx s ∧ s.count < g)
  case atStart => exact ⟨[], t, none, none, rfl, rfl, rfl, ⟨0, rfl⟩, H.out.st, H.out.ord, NodeIs.none _ _, rfl, by omega⟩
  case round =>
    clear hsl
    obtain ⟨c, s, bi, bx, hp, hbp, hbb, hw, hst, hob, hni, hsk, hg⟩ := hrel
    have HS := Lib.hid hst
    have HK := Lib.hid hsk
    have HW := Lib.hid hw
    have HO := Lib.hid hob
    have HN := Lib.hid hni
    cases s with
    | nil =>
      simp only [BT.root, ptr, Option.map_none] at hp
      subst hp hbp hbb
      clear hst hsk hw hob hni
      have HZ := Lib.hid (show ceilP o k t.kvs = bx by rw [← HX.out, HK.out]; rfl)
      cases bi with
      | none =>
        simp only [ptr, Option.map_none, Option.isSome_none]
        go_wp2_with fail
        go_ret2
        exact ⟨none, rfl, by rw [HZ.out]; exact HN.out, HW.out⟩
      | some j =>
        simp only [ptr, Option.map_some, Option.isSome_some]
        go_wp2_with fail
        go_ret2
        exact ⟨some j, rfl, by rw [HZ.out]; exact HN.out, HW.out⟩
    | node i l k' v b r =>
      obtain ⟨hk0, hv0, hl3, hr4⟩ := hst.ht.1.cells_
      obtain ⟨_, hh1, _⟩ := hst.hc.header
      simp only [BT.root, ptr, Option.map_some, Lay.om, if_true] at hk0 hp hh1
      subst hp hbp hbb
      have ho := Lib.hid H.out.fine
      have NI := Lib.hid (show NodeIs w avlL (some i) (some (k', v)) by have := hst.nodeIs; obtain ⟨m, hm⟩ := hw; subst hm; exact this)
      rcases Int.lt_trichotomy (o.rk k) (o.rk k') with hlt | he | hgt
      · have By := Lib.hid (fun (w1 : World) (h1 : OrdAt w1 ob o) => by1_lt o ob k k' w1 ho.out h1 hlt)
        have e1 := Lib.hid (show ceX o k bx (.node i l k' v b r) = ceX o k (some (k', v)) l by simp only [ceX]; rw [if_neg (by omega), if_pos hlt])
        clear hst hsk hlt hob hw hni
        go_wp2_with fail
        go_quiet ((go_at_call 86; exact Calls.quiet_of (By.out _ HO.out)))
        go_wp2_with fail
        go_roundg (l.count + 1)
        case measure => simp only [BT.count] at hg; omega
        case rel =>
          obtain ⟨m, hm⟩ := HW.out
          exact ⟨.lf i k' v b r :: c, l, some i, some (k', v), rfl, rfl, rfl, ⟨m + nq, by rw [hm, World.drewN_drewN]⟩, (HS.out.drewN nq).downL, HO.out.drewN nq, NI.out, by rw [HK.out, e1.out], by omega⟩
      · have By := Lib.hid (fun (w1 : World) (h1 : OrdAt w1 ob o) => by1_eq o ob k k' w1 ho.out h1 he)
        have e1 := Lib.hid (show ceilP o k t.kvs = some (k', v) by rw [← HX.out, HK.out]; simp only [ceX]; rw [if_pos he])
        clear hst hsk he hob hw hni
        go_wp2_with fail
        go_quiet ((go_at_call 86; exact Calls.quiet_of (By.out _ HO.out)))
        go_wp2_with fail
        go_ret2
        obtain ⟨m, hm⟩ := HW.out
        exact ⟨some i, rfl, by rw [e1.out]; exact NI.out, m + nq, by rw [hm, World.drewN_drewN]⟩
      · have By := Lib.hid (fun (w1 : World) (h1 : OrdAt w1 ob o) => by1_gt o ob k k' w1 ho.out h1 hgt)
        have e1 := Lib.hid (show ceX o k bx (.node i l k' v b r) = ceX o k bx r by simp only [ceX]; rw [if_neg (by omega), if_neg (by omega)])
        clear hst hsk hgt hob hw hni
        go_wp2_with fail
        go_quiet ((go_at_call 86; exact Calls.quiet_of (By.out _ HO.out)))
        go_wp2_with fail
        go_roundg (r.count + 1)
        case measure => simp only [BT.count] at hg; omega
        case rel =>
          obtain ⟨m, hm⟩ := HW.out
          exact ⟨.rf i l k' v b :: c, r, bi, bx, rfl, rfl, rfl, ⟨m + nq, by rw [hm, World.drewN_drewN]⟩, (HS.out.drewN nq).downR, HO.out.drewN nq, HN.out, by rw [HK.out, e1.out], by omega⟩

theorem implAVLCeiling_walk (o : Ord) (ho : o.fine) (n cap : Nat) (A : Option Addr) (acts : List Do) (k : Int) (w : World) (hn : acts.length = n) (hn1 : n ≤ 1000) (ha : ActsAt w w.heap.size A acts) :
    Calls Try.prog 53 #[.agg #[.int .i64 o.kind, .int .i64 o.m], .slice A n cap, .int .i64 k] w fun e w' => e = .returned (tripV (ceilP o k (run o acts))) ∧ Below w.heap.size w w' := by
  have Ha := Lib.hid ha
  clear ha
  go_enter Try.func53, Try.ntmps53
  go_wp2_with fail
  have B0 := Lib.hid (show Below w.heap.size w (w.alloc (.cells #[.int .i64 o.kind, .int .i64 o.m] 23)) from (Below.refl _ _).alloc (Nat.le_refl _) _)
  refine (avl_walk o ho n cap A acts _ hn hn1 ((Ha.out.below B0.out).more (by simp))).mono ?_
  rintro e w1 ⟨tb, rfl, ⟨ob, t, ht, hk⟩, b1⟩
  have G := Lib.hid (avlCeiling_walk o ob _ _ tb t k ht)
  have B1 := Lib.hid (B0.out.trans (b1.mono (by simp)))
  rw [hk] at G
  clear ht b1 hk
  generalize hx : ceilP o k (run o acts) = x at *
  have HX := Lib.hid hx
  clear hx
  go_wp2_with fail
  refine G.out.mono ?_
  rintro e w2 ⟨p, rfl, ni, m, rfl⟩
  have NI := Lib.hid ni
  clear ni G
  go_wp2_with fail
  refine (avlNode2_walk _ p x (NI.out.drewN m)).mono ?_
  rintro e w3 ⟨rfl, m2, rfl⟩
  clear NI
  rcases x with _ | ⟨a, b⟩
  · simp only [tripV]
    go_wp2_with fail
    go_ret3
    exact ⟨by rw [HX.out]; rfl, Below.drewN' B1.out _⟩
  · simp only [tripV]
    go_wp2_with fail
    go_ret3
    exact ⟨by rw [HX.out]; rfl, Below.drewN' B1.out _⟩

section
variable {w0 w w' : World} {g B C : Nat} {o : Ord} {rows : List (Option Addr × List Value)} {sts : List (Value × KV)}
theorem keptFloorT (h : Kept w0 g o rows sts B w) (ho : o.fine) (A : Option Addr) (acts : List Do) (k : Int) (n cap : Nat) (hn : acts.length = n) (hn1 : n ≤ 1000) (hm2 : (A, actCells acts) ∈ rows) :
    Calls Try.prog 55 #[.agg #[.int .i64 o.kind, .int .i64 o.m], .slice A n cap, .int .i64 k] w fun e w' => e = .returned (tripV (floorP o k (run o acts))) ∧ Kept w0 g o rows sts w'.heap.size w' := by
  refine (implAVLFloor_walk o ho n cap A acts k w hn hn1 ((h.rows _ hm2).acts.more h.le)).mono ?_
  rintro e w' ⟨rfl, b⟩
  exact ⟨rfl, h.on b⟩
theorem keptFloor (h : Kept w0 g o rows sts B w) (ho : o.fine) (A : Option Addr) (l : KV) (k : Int) (n cap : Nat) (hn : l.length = n) (hn1 : n ≤ 100000) (hm : (A, prCells l) ∈ rows) :
    Calls Try.prog 56 #[.agg #[.int .i64 o.kind, .int .i64 o.m], .slice A n cap, .int .i64 k] w fun e w' => e = .returned (pairV (floorP o k l)) ∧ Kept w0 g o rows sts w'.heap.size w' := by
  refine (floor_walk o ho k n cap A l w hn hn1 ((h.rows _ hm).more h.le)).mono ?_
  rintro e w' ⟨rfl, b⟩
  exact ⟨rfl, h.on b⟩
theorem keptFloorB (h : Kept w0 g o rows sts B w) {pb : Nat} {t : TypeId} {cs : Array Value} (hb : Blk w pb t cs) (ho : o.fine) (A : Option Addr) (l : KV) (k : Int) (n cap : Nat) (hn : l.length = n) (hn1 : n ≤ 100000) (hm : (A, prCells l) ∈ rows) :
    Calls Try.prog 56 #[.agg #[.int .i64 o.kind, .int .i64 o.m], .slice A n cap, .int .i64 k] w fun e w' => e = .returned (pairV (floorP o k l)) ∧ Kept w0 g o rows sts w'.heap.size w' ∧ Blk w' pb t cs := by
  refine (floor_walk o ho k n cap A l w hn hn1 ((h.rows _ hm).more h.le)).mono ?_
  rintro e w' ⟨rfl, b⟩
  exact ⟨rfl, h.on b, hb.below b hb.lt⟩
theorem keptCeilingT (h : Kept w0 g o rows sts B w) (ho : o.fine) (A : Option Addr) (acts : List Do) (k : Int) (n cap : Nat) (hn : acts.length = n) (hn1 : n ≤ 1000) (hm2 : (A, actCells acts) ∈ rows) :
    Calls Try.prog 53 #[.agg #[.int .i64 o.kind, .int .i64 o.m], .slice A n cap, .int .i64 k] w fun e w' => e = .returned (tripV (ceilP o k (run o acts))) ∧ Kept w0 g o rows sts w'.heap.size w' := by
  refine (implAVLCeiling_walk o ho n cap A acts k w hn hn1 ((h.rows _ hm2).acts.more h.le)).mono ?_
  rintro e w' ⟨rfl, b⟩
  exact ⟨rfl, h.on b⟩
theorem keptCeiling (h : Kept w0 g o rows sts B w) (ho : o.fine) (A : Option Addr) (l : KV) (k : Int) (n cap : Nat) (hn : l.length = n) (hn1 : n ≤ 100000) (hm : (A, prCells l) ∈ rows) :
    Calls Try.prog 54 #[.agg #[.int .i64 o.kind, .int .i64 o.m], .slice A n cap, .int .i64 k] w fun e w' => e = .returned (pairV (ceilP o k l)) ∧ Kept w0 g o rows sts w'.heap.size w' := by
  refine (ceil_walk o ho k n cap A l w hn hn1 ((h.rows _ hm).more h.le)).mono ?_
  rintro e w' ⟨rfl, b⟩
  exact ⟨rfl, h.on b⟩
theorem keptCeilingB (h : Kept w0 g o rows sts B w) {pb : Nat} {t : TypeId} {cs : Array Value} (hb : Blk w pb t cs) (ho : o.fine) (A : Option Addr) (l : KV) (k : Int) (n cap : Nat) (hn : l.length = n) (hn1 : n ≤ 100000) (hm : (A, prCells l) ∈ rows) :
    Calls Try.prog 54 #[.agg #[.int .i64 o.kind, .int .i64 o.m], .slice A n cap, .int .i64 k] w fun e w' => e = .returned (pairV (ceilP o k l)) ∧ Kept w0 g o rows sts w'.heap.size w' ∧ Blk w' pb t cs := by
  refine (ceil_walk o ho k n cap A l w hn hn1 ((h.rows _ hm).more h.le)).mono ?_
  rintro e w' ⟨rfl, b⟩
  exact ⟨rfl, h.on b, hb.below b hb.lt⟩
end
end Go.Proofs.Ytpmikeeeocnfnaa
