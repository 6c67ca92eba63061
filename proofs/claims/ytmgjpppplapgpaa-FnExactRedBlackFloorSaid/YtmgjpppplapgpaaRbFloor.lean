/-
  The red-black tree: Floor and Ceiling; the thin package's RedBlackFloor, RedBlackCeiling.
-/
import Derived.Test.YtmgjpppplapgpaaFloorBase
import Derived.Test.YtmgjpppplapgpaaRbFew
namespace Go.Proofs.Ytmgjpppplapgpaa.Rb
open Go.RowKit Go.Proofs.Ytmgjpppplapgpaa

theorem rbNode2_walk (w : World) (p : Option Nat) (x : Option (Int × Int)) (h : NodeIs w rbL p x) :
    Calls Try.prog 56 #[ptr p, .bool p.isSome] w fun e w' => e = .returned (tripV x) ∧ ∃ n, w' = w.drewN n := by
  rcases h with ⟨rfl, rfl⟩ | ⟨i, k, v, rfl, rfl, h0, h1⟩
  · simp only [ptr, Option.map_none, Option.isSome_none]
    go_enter Try.func56, Try.ntmps56
    go_wp2_with fail
    go_ret3
    exact ⟨rfl, 0, rfl⟩
  · simp only [ptr, Option.map_some, Option.isSome_some]
    go_enter Try.func56, Try.ntmps56
    go_wp2_with fail
    go_quiet (fail)
    go_wp2_with fail
    go_ret3
    exact ⟨rfl, _, rfl⟩

set_option maxRecDepth 100000 in
theorem rbFloor_walk (o : Ord) (ob B : Nat) (w : World) (tb : Nat) (t : BT) (k : Int) (h : RbAt o ob B w tb t) :
    Calls Try.prog 61 #[.pointer (some ⟨tb, 0, none⟩), .iface 3 (.int .i64 k)] w fun e w' => ∃ p : Option Nat, e = .returned (.tuple #[ptr p, .bool p.isSome]) ∧ NodeIs w rbL p (floorP o k t.kvs) ∧ ∃ n, w' = w.drewN n := by
  obtain ⟨hsl, _⟩ := h.st.hc.slot_cell
  simp only [slot, ptr] at hsl
  have H := Lib.hid h
  have HX := Lib.hid (show floX o k none t = floorP o k t.kvs by rw [floX_eq h.asc]; simp)
  clear h
  go_enter Try.func61, Try.ntmps61
  go_wp2_with fail
  go_loopg [4, 5, 6] (t.count + 1) (fun g bp bb p wr => ∃ (c : Ctx) (s : BT) (bi : Option Nat) (bx : Option (Int × Int)), p = ptr s.root ∧ bp = ptr bi ∧ bb = .bool bi.isSome ∧ (∃ m, wr = w.drewN m) ∧ St rbL wr ⟨tb, cmpv ob, t.count⟩ c s ∧ OrdAt wr ob o ∧ NodeIs w rbL bi bx ∧ floX o k none t = floX o k bx s ∧ s.count < g)
  case atStart => exact ⟨[], t, none, none, rfl, rfl, rfl, ⟨0, rfl⟩, H.out.st, H.out.ord, NodeIs.none _ _, rfl, by omega⟩
  case round =>
    clear hsl
    obtain ⟨c, s, bi, bx, hp, hbp, hbb, hw, hst, hob, hni, hsk, hg⟩ := hrel
    have HS := Lib.hid hst
    have HK := Lib.hid hsk
    have HW := Lib.hid hw
    have HO := Lib.hid hob
    have HN := Lib.hid hni
    cases s with
    | nil =>
      simp only [BT.root, ptr, Option.map_none] at hp
      subst hp hbp hbb
      clear hst hsk hw hob hni
      have HZ := Lib.hid (show floorP o k t.kvs = bx by rw [← HX.out, HK.out]; rfl)
      cases bi with
      | none =>
        simp only [ptr, Option.map_none, Option.isSome_none]
        go_wp2_with fail
        go_ret2
        exact ⟨none, rfl, by rw [HZ.out]; exact HN.out, HW.out⟩
      | some j =>
        simp only [ptr, Option.map_some, Option.isSome_some]
        go_wp2_with fail
        go_ret2
        exact ⟨some j, rfl, by rw [HZ.out]; exact HN.out, HW.out⟩
    | node i l k' v b r =>
      obtain ⟨hk0, hv0, hl3, hr4⟩ := hst.ht.1.cells_
      obtain ⟨_, hh1, _⟩ := hst.hc.header
      simp only [BT.root, ptr, Option.map_some, rb_om] at hk0 hp hh1
      subst hp hbp hbb
      have ho := Lib.hid H.out.fine
      have NI := Lib.hid (show NodeIs w rbL (some i) (some (k', v)) by have := hst.nodeIs; obtain ⟨m, hm⟩ := hw; subst hm; exact this)
      rcases Int.lt_trichotomy (o.rk k) (o.rk k') with hlt | he | hgt
      · have By := Lib.hid (fun (w1 : World) (h1 : OrdAt w1 ob o) => by1_lt o ob k k' w1 ho.out h1 hlt)
        have e1 := Lib.hid (show floX o k bx (.node i l k' v b r) = floX o k bx l by simp only [floX]; rw [if_neg (by omega), if_pos hlt])
        clear hst hsk hlt hob hw hni
        go_wp2_with fail
        go_quiet ((go_at_call 72; exact Calls.quiet_of (By.out _ HO.out)))
        go_wp2_with fail
        go_roundg (l.count + 1)
        case measure => simp only [BT.count] at hg; omega
        case rel =>
          obtain ⟨m, hm⟩ := HW.out
          exact ⟨.lf i k' v b r :: c, l, bi, bx, rfl, rfl, rfl, ⟨m + nq, by rw [hm, World.drewN_drewN]⟩, (HS.out.drewN nq).downL, HO.out.drewN nq, HN.out, by rw [HK.out, e1.out], by omega⟩
      · have By := Lib.hid (fun (w1 : World) (h1 : OrdAt w1 ob o) => by1_eq o ob k k' w1 ho.out h1 he)
        have e1 := Lib.hid (show floorP o k t.kvs = some (k', v) by rw [← HX.out, HK.out]; simp only [floX]; rw [if_pos he])
        clear hst hsk he hob hw hni
        go_wp2_with fail
        go_quiet ((go_at_call 72; exact Calls.quiet_of (By.out _ HO.out)))
        go_wp2_with fail
        go_ret2
        obtain ⟨m, hm⟩ := HW.out
        exact ⟨some i, rfl, by rw [e1.out]; exact NI.out, m + nq, by rw [hm, World.drewN_drewN]⟩
      · have By := Lib.hid (fun (w1 : World) (h1 : OrdAt w1 ob o) => by1_gt o ob k k' w1 ho.out h1 hgt)
        have e1 := Lib.hid (show floX o k bx (.node i l k' v b r) = floX o k (some (k', v)) r by simp only [floX]; rw [if_neg (by omega), if_neg (by omega)])
        clear hst hsk hgt hob hw hni
        go_wp2_with fail
        go_quiet ((go_at_call 72; exact Calls.quiet_of (By.out _ HO.out)))
        go_wp2_with fail
        go_roundg (r.count + 1)
        case measure => simp only [BT.count] at hg; omega
        case rel =>
          obtain ⟨m, hm⟩ := HW.out
          exact ⟨.rf i l k' v b :: c, r, some i, some (k', v), rfl, rfl, rfl, ⟨m + nq, by rw [hm, World.drewN_drewN]⟩, (HS.out.drewN nq).downR, HO.out.drewN nq, NI.out, by rw [HK.out, e1.out], by omega⟩

theorem implRedBlackFloor_walk (o : Ord) (ho : o.fine) (n cap : Nat) (A : Option Addr) (acts : List Do) (k : Int) (w : World) (hn : acts.length = n) (hn1 : n ≤ 1000) (ha : ActsAt w w.heap.size A acts) :
    Calls Try.prog 41 #[.agg #[.int .i64 o.kind, .int .i64 o.m], .slice A n cap, .int .i64 k] w fun e w' => e = .returned (tripV (floorP o k (run o acts))) ∧ Below w.heap.size w w' := by
  have Ha := Lib.hid ha
  clear ha
  go_enter Try.func41, Try.ntmps41
  go_wp2_with fail
  have B0 := Lib.hid (show Below w.heap.size w (w.alloc (.cells #[.int .i64 o.kind, .int .i64 o.m] 23)) from (Below.refl _ _).alloc (Nat.le_refl _) _)
  refine (rb_walk o ho n cap A acts _ hn hn1 ((Ha.out.below B0.out).more (by simp))).mono ?_
  rintro e w1 ⟨tb, rfl, ⟨ob, t, ht, hk⟩, b1⟩
  have G := Lib.hid (rbFloor_walk o ob _ _ tb t k ht)
  have B1 := Lib.hid (B0.out.trans (b1.mono (by simp)))
  rw [hk] at G
  clear ht b1 hk
  generalize hx : floorP o k (run o acts) = x at *
  have HX := Lib.hid hx
  clear hx
  go_wp2_with fail
  refine G.out.mono ?_
  rintro e w2 ⟨p, rfl, ni, m, rfl⟩
  have NI := Lib.hid ni
  clear ni G
  go_wp2_with fail
  refine (rbNode2_walk _ p x (NI.out.drewN m)).mono ?_
  rintro e w3 ⟨rfl, m2, rfl⟩
  clear NI
  rcases x with _ | ⟨a, b⟩
  · simp only [tripV]
    go_wp2_with fail
    go_ret3
    exact ⟨by rw [HX.out]; rfl, Below.drewN' B1.out _⟩
  · simp only [tripV]
    go_wp2_with fail
    go_ret3
    exact ⟨by rw [HX.out]; rfl, Below.drewN' B1.out _⟩

set_option maxRecDepth 100000 in
theorem rbCeiling_walk (o : Ord) (ob B : Nat) (w : World) (tb : Nat) (t : BT) (k : Int) (h : RbAt o ob B w tb t) :
    Calls Try.prog 60 #[.pointer (some ⟨tb, 0, none⟩), .iface 3 (.int .i64 k)] w fun e w' => ∃ p : Option Nat, e = .returned (.tuple #[ptr p, .bool p.isSome]) ∧ NodeIs w rbL p (ceilP o k t.kvs) ∧ ∃ n, w' = w.drewN n := by
  obtain ⟨hsl, _⟩ := h.st.hc.slot_cell
  simp only [slot, ptr] at hsl
  have H := Lib.hid h
  have HX := Lib.hid (show ceX o k none t = ceilP o k t.kvs by rw [ceX_eq h.asc]; simp)
  clear h
  go_enter Try.func60, Try.ntmps60
  go_wp2_with fail
  go_loopg [4, 5, 6] (t.count + 1) (fun g bp bb p wr => ∃ (c : Ctx) (s : BT) (bi : Option Nat) (bx : Option (Int × Int)), p = ptr s.root ∧ bp = ptr bi ∧ bb = .bool bi.isSome ∧ (∃ m, wr = w.drewN m) ∧ St rbL wr ⟨tb, cmpv ob, t.count⟩ c s ∧ OrdAt wr ob o ∧ NodeIs w rbL bi bx ∧ ceX o k none t = ceX o k bx s ∧ s.count < g)
  case atStart => exact ⟨[], t, none, none, rfl, rfl, rfl, ⟨0, rfl⟩, H.out.st, H.out.ord, NodeIs.none _ _, rfl, by omega⟩
  case round =>
    clear hsl
    obtain ⟨c, s, bi, bx, hp, hbp, hbb, hw, hst, hob, hni, hsk, hg⟩ := hrel
    have HS := Lib.hid hst
    have HK := Lib.hid hsk
    have HW := Lib.hid hw
    have HO := Lib.hid hob
    have HN := Lib.hid hni
    cases s with
    | nil =>
      simp only [BT.root, ptr, Option.map_none] at hp
      subst hp hbp hbb
      clear hst hsk hw hob hni
      have HZ := Lib.hid (show ceilP o k t.kvs = bx by rw [← HX.out, HK.out]; rfl)
      cases bi with
      | none =>
        simp only [ptr, Option.map_none, Option.isSome_none]
        go_wp2_with fail
        go_ret2
        exact ⟨none, rfl, by rw [HZ.out]; exact HN.out, HW.out⟩
      | some j =>
        simp only [ptr, Option.map_some, Option.isSome_some]
        go_wp2_with fail
        go_ret2
        exact ⟨some j, rfl, by rw [HZ.out]; exact HN.out, HW.out⟩
    | node i l k' v b r =>
      obtain ⟨hk0, hv0, hl3, hr4⟩ := hst.ht.1.cells_
      obtain ⟨_, hh1, _⟩ := hst.hc.header
      simp only [BT.root, ptr, Option.map_some, rb_om] at hk0 hp hh1
      subst hp hbp hbb
      have ho := Lib.hid H.out.fine
      have NI := Lib.hid (show NodeIs w rbL (some i) (some (k', v)) by have := hst.nodeIs; obtain ⟨m, hm⟩ := hw; subst hm; exact this)
      rcases Int.lt_trichotomy (o.rk k) (o.rk k') with hlt | he | hgt
      · have By := Lib.hid (fun (w1 : World) (h1 : OrdAt w1 ob o) => by1_lt o ob k k' w1 ho.out h1 hlt)
        have e1 := Lib.hid (show ceX o k bx (.node i l k' v b r) = ceX o k (some (k', v)) l by simp only [ceX]; rw [if_neg (by omega), if_pos hlt])
        clear hst hsk hlt hob hw hni
        go_wp2_with fail
        go_quiet ((go_at_call 72; exact Calls.quiet_of (By.out _ HO.out)))
        go_wp2_with fail
        go_roundg (l.count + 1)
        case measure => simp only [BT.count] at hg; omega
        case rel =>
          obtain ⟨m, hm⟩ := HW.out
          exact ⟨.lf i k' v b r :: c, l, some i, some (k', v), rfl, rfl, rfl, ⟨m + nq, by rw [hm, World.drewN_drewN]⟩, (HS.out.drewN nq).downL, HO.out.drewN nq, NI.out, by rw [HK.out, e1.out], by omega⟩
      · have By := Lib.hid (fun (w1 : World) (h1 : OrdAt w1 ob o) => by1_eq o ob k k' w1 ho.out h1 he)
        have e1 := Lib.hid (show ceilP o k t.kvs = some (k', v) by rw [← HX.out, HK.out]; simp only [ceX]; rw [if_pos he])
        clear hst hsk he hob hw hni
        go_wp2_with fail
        go_quiet ((go_at_call 72; exact Calls.quiet_of (By.out _ HO.out)))
        go_wp2_with fail
        go_ret2
        obtain ⟨m, hm⟩ := HW.out
        exact ⟨some i, rfl, by rw [e1.out]; exact NI.out, m + nq, by rw [hm, World.drewN_drewN]⟩
      · have By := Lib.hid (fun (w1 : World) (h1 : OrdAt w1 ob o) => by1_gt o ob k k' w1 ho.out h1 hgt)
        have e1 := Lib.hid (show ceX o k bx (.node i l k' v b r) = ceX o k bx r by simp only [ceX]; rw [if_neg (by omega), if_neg (by omega)])
        clear hst hsk hgt hob hw hni
        go_wp2_with fail
        go_quiet ((go_at_call 72; exact Calls.quiet_of (By.out _ HO.out)))
        go_wp2_with fail
        go_roundg (r.count + 1)
        case measure => simp only [BT.count] at hg; omega
        case rel =>
          obtain ⟨m, hm⟩ := HW.out
          exact ⟨.rf i l k' v b :: c, r, bi, bx, rfl, rfl, rfl, ⟨m + nq, by rw [hm, World.drewN_drewN]⟩, (HS.out.drewN nq).downR, HO.out.drewN nq, HN.out, by rw [HK.out, e1.out], by omega⟩

theorem implRedBlackCeiling_walk (o : Ord) (ho : o.fine) (n cap : Nat) (A : Option Addr) (acts : List Do) (k : Int) (w : World) (hn : acts.length = n) (hn1 : n ≤ 1000) (ha : ActsAt w w.heap.size A acts) :
    Calls Try.prog 39 #[.agg #[.int .i64 o.kind, .int .i64 o.m], .slice A n cap, .int .i64 k] w fun e w' => e = .returned (tripV (ceilP o k (run o acts))) ∧ Below w.heap.size w w' := by
  have Ha := Lib.hid ha
  clear ha
  go_enter Try.func39, Try.ntmps39
  go_wp2_with fail
  have B0 := Lib.hid (show Below w.heap.size w (w.alloc (.cells #[.int .i64 o.kind, .int .i64 o.m] 23)) from (Below.refl _ _).alloc (Nat.le_refl _) _)
  refine (rb_walk o ho n cap A acts _ hn hn1 ((Ha.out.below B0.out).more (by simp))).mono ?_
  rintro e w1 ⟨tb, rfl, ⟨ob, t, ht, hk⟩, b1⟩
  have G := Lib.hid (rbCeiling_walk o ob _ _ tb t k ht)
  have B1 := Lib.hid (B0.out.trans (b1.mono (by simp)))
  rw [hk] at G
  clear ht b1 hk
  generalize hx : ceilP o k (run o acts) = x at *
  have HX := Lib.hid hx
  clear hx
  go_wp2_with fail
  refine G.out.mono ?_
  rintro e w2 ⟨p, rfl, ni, m, rfl⟩
  have NI := Lib.hid ni
  clear ni G
  go_wp2_with fail
  refine (rbNode2_walk _ p x (NI.out.drewN m)).mono ?_
  rintro e w3 ⟨rfl, m2, rfl⟩
  clear NI
  rcases x with _ | ⟨a, b⟩
  · simp only [tripV]
    go_wp2_with fail
    go_ret3
    exact ⟨by rw [HX.out]; rfl, Below.drewN' B1.out _⟩
  · simp only [tripV]
    go_wp2_with fail
    go_ret3
    exact ⟨by rw [HX.out]; rfl, Below.drewN' B1.out _⟩

section
variable {w0 w w' : World} {g B C : Nat} {o : Ord} {rows : List (Option Addr × List Value)} {sts : List (Value × KV)}
theorem keptFloorT (h : Kept w0 g o rows sts B w) (ho : o.fine) (A : Option Addr) (acts : List Do) (k : Int) (n cap : Nat) (hn : acts.length = n) (hn1 : n ≤ 1000) (hm2 : (A, actCells acts) ∈ rows) :
    Calls Try.prog 41 #[.agg #[.int .i64 o.kind, .int .i64 o.m], .slice A n cap, .int .i64 k] w fun e w' => e = .returned (tripV (floorP o k (run o acts))) ∧ Kept w0 g o rows sts w'.heap.size w' := by
  refine (implRedBlackFloor_walk o ho n cap A acts k w hn hn1 ((h.rows _ hm2).acts.more h.le)).mono ?_
  rintro e w' ⟨rfl, b⟩
  exact ⟨rfl, h.on b⟩
theorem keptCeilingT (h : Kept w0 g o rows sts B w) (ho : o.fine) (A : Option Addr) (acts : List Do) (k : Int) (n cap : Nat) (hn : acts.length = n) (hn1 : n ≤ 1000) (hm2 : (A, actCells acts) ∈ rows) :
    Calls Try.prog 39 #[.agg #[.int .i64 o.kind, .int .i64 o.m], .slice A n cap, .int .i64 k] w fun e w' => e = .returned (tripV (ceilP o k (run o acts))) ∧ Kept w0 g o rows sts w'.heap.size w' := by
  refine (implRedBlackCeiling_walk o ho n cap A acts k w hn hn1 ((h.rows _ hm2).acts.more h.le)).mono ?_
  rintro e w' ⟨rfl, b⟩
  exact ⟨rfl, h.on b⟩
end
end Go.Proofs.Ytmgjpppplapgpaa.Rb
