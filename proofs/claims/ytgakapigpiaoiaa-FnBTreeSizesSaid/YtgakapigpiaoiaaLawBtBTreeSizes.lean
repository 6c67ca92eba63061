/- For every order of 3 to 64 children, every order of keys and every list of acts: each node tells how many nodes are in it and below it. No condition. -/
import Derived.Test.YtgakapigpiaoiaaBtStates
import Derived.Test.YtgakapigpiaoiaaSpecSizes
import Derived.Test.YtgakapigpiaoiaaSpecFine
import Derived.Deep.RegionHeld3
import Derived.IntWalk
namespace Go.Proofs.Ytgakapigpiaoiaa.Bt
open Go.RowKit Go.Proofs.Ytgakapigpiaoiaa

set_option maxHeartbeats 4000000 in
set_option maxRecDepth 100000 in
theorem lawBTreeSizes_walk (m : Int) (o : Ord) (cap : Nat) (A : Option Addr) (acts : List Do) (w : World) (hA : A = none → acts.length = 0 ∧ cap = 0) (ha : ActsAt w w.heap.size A acts) :
    Calls Try.prog 5 #[.int .i64 m, .agg #[.int .i64 o.kind, .int .i64 o.m], .slice A acts.length cap] w fun e w' => e = .returned (.bool true) ∧ Below w.heap.size w w' := by
  have Ha := Lib.hid ha
  have HA := Lib.hid hA
  clear ha hA
  by_cases h0 : 2147483647 < acts.length
  · go_enter Try.func5, Try.ntmps5
    go_wp2_with fail
    go_ret
    exact ⟨rfl, (Below.refl _ _).alloc (Nat.le_refl _) _⟩
  by_cases hm1 : m < 3
  · go_enter Try.func5, Try.ntmps5
    go_wp2_with fail
    go_ret
    exact ⟨rfl, (Below.refl _ _).alloc (Nat.le_refl _) _⟩
  by_cases hm2 : 64 < m
  · have hm1' : ¬ m < 3 := hm1
    go_enter Try.func5, Try.ntmps5
    go_wp2_with fail
    go_ret
    exact ⟨rfl, (Below.refl _ _).alloc (Nat.le_refl _) _⟩
  have hm : 3 ≤ m ∧ m ≤ 64 := ⟨by omega, by omega⟩
  by_cases hp : ¬ o.fine
  · go_enter Try.func5, Try.ntmps5
    go_wp2_with fail
    refine (fine_no o hp _).mono ?_
    rintro e w1 ⟨rfl, rfl⟩
    go_wp2_with fail
    go_ret
    exact ⟨rfl, ((Below.refl _ _).alloc (Nat.le_refl _) _).alloc (by simp) _⟩
  replace hp := Classical.not_not.1 hp
  by_cases h3 : 300 < acts.length
  · go_enter Try.func5, Try.ntmps5
    go_wp2_with fail
    refine (fine_yes o hp _).mono ?_
    rintro e w1 ⟨rfl, rfl⟩
    go_wp2_with fail
    go_ret
    exact ⟨rfl, ((Below.refl _ _).alloc (Nat.le_refl _) _).alloc (by simp) _⟩
  have Fi := Lib.hid (show o.fine from hp)
  have L3 := Lib.hid h3
  have q0 := run_length_le o acts
  have RL := Lib.hid (show (run o acts).length ≤ 1000 by omega)
  clear q0
  go_enter Try.func5, Try.ntmps5
  go_wp2_with fail
  refine (fine_yes o hp _).mono ?_
  rintro e w1 ⟨rfl, rfl⟩
  have K := Lib.hid (Kept.start o Ha.out)
  generalize (w.alloc (.cells #[.int .i64 o.kind, .int .i64 o.m] 23)).alloc (.cells #[.int .i64 o.kind, .int .i64 o.m] 23) = w1 at *
  obtain ⟨hc0, hc1⟩ := K.out.c
  have CS := Lib.hid (implBTreeShape_walk m hm o Fi.out acts.length cap A acts w1 rfl (by have := L3.out; omega) ((K.out.rows (A, actCells acts) (by simp)).acts.more K.out.le))
  go_wp2_with fail
  refine CS.out.mono ?_
  rintro e w2 ⟨L, hh, A', cap', rfl, hL, la, sh, b⟩
  have K2 := Lib.hid (K.out.on b)
  have LA := Lib.hid la
  generalize hn : L.length = n at *
  have HN := Lib.hid hn
  have SZ := Lib.hid (fun j x (hx : L[j]? = some x) (wx : World) (bx : Below w2.heap.size w2 wx) => sizes_at sh hm.2 n hn hL cap' A' hx (la.below bx))
  clear la sh b CS hc0 hc1 hn K
  go_wp2_with fail
  go_loopw [8, 9, 39] (fun ev nv j wr => ∃ (k : Nat) (eb : Bool), k ≤ n ∧ j = .int .i64 k ∧ ev = .bool eb ∧ nv = .bool true ∧ Below w2.heap.size w2 wr) (fun _ _ j _ => n - (intOf j).toNat)
  case atStart => exact ⟨0, true, Nat.zero_le _, rfl, rfl, rfl, Below.refl _ _⟩
  case round =>
    obtain ⟨k, eb, hk, rfl, rfl, rfl, hb⟩ := hrel
    have HB := Lib.hid hb
    by_cases hlt : k < n
    · obtain ⟨x, hx⟩ : ∃ x, L[k]? = some x := ⟨_, List.getElem?_eq_getElem (by rw [HN.out]; exact hlt)⟩
      obtain ⟨ad, K1, c1, K2', c2, K3, c3, rfl, r⟩ := LA.out k x hx
      obtain ⟨g0, g1, g2, g3, g4⟩ := (r.below hb).cells
      have S1 := Lib.hid (SZ.out k x hx)
      generalize x.keys.length = ne at *
      generalize x.vals.length = nv at *
      generalize x.kids.length = nk at *
      generalize x.up = xu at *
      generalize hxs : x.size = xs at *
      have HXS := Lib.hid hxs
      have KB := Lib.hid (Blk.new wr 39 #[.int .i64 xu, .slice K1 ne c1, .slice K2' nv c2, .slice K3 nk c3, .int .i64 xs])
      have B1 := Lib.hid (hb.alloc hb.size (.cells #[.int .i64 xu, .slice K1 ne c1, .slice K2' nv c2, .slice K3 nk c3, .int .i64 xs] 39))
      have hb4 : (wr.alloc (.cells #[.int .i64 xu, .slice K1 ne c1, .slice K2' nv c2, .slice K3 nk c3, .int .i64 xs] 39)).cell? ⟨wr.heap.size, 4, none⟩ = some (.int .i64 xs) := KB.out.cell 4
      clear hb hx r hxs SZ LA
      go_wp2_with fail
      generalize hwb : wr.alloc (.cells #[.int .i64 xu, .slice K1 ne c1, .slice K2' nv c2, .slice K3 nk c3, .int .i64 xs] 39) = wb at *
      clear hwb
      have CC := Lib.hid (S1.out wb B1.out)
      clear g0 g1 g2 g3 g4
      refine CC.out.mono ?_
      rintro e w3 ⟨xe, rfl, q, rfl⟩
      have hc4 : (wb.drewN q).cell? ⟨wr.heap.size, 4, none⟩ = some (.int .i64 xs) := hb4
      have hxx : (Value.bool (xs == xs)) = .bool true := by simp
      cases eb with
      | true =>
        go_wp2_with fail
        go_roundw
        case rel => exact ⟨k + 1, _, by omega, by go_num, rfl, rfl, Below.drewN' B1.out q⟩
        case measure => simp [intOf]; omega
      | false =>
        go_wp2_with fail
        go_roundw
        case rel => exact ⟨k + 1, false, by omega, by go_num, rfl, rfl, Below.drewN' B1.out q⟩
        case measure => simp [intOf]; omega
    · obtain rfl : k = n := by omega
      have KB := Lib.hid (K2.out.on hb)
      clear hb
      cases eb with
      | true =>
        go_wp2_with fail
        refine (keptGrows KB.out).mono ?_
        rintro e w7 ⟨rfl, kk⟩
        have K := Lib.hid kk
        clear kk
        go_wp2_with fail
        go_ret
        exact ⟨rfl, K.out.below⟩
      | false =>
        go_wp2_with fail
        refine (keptGrows KB.out).mono ?_
        rintro e w7 ⟨rfl, kk⟩
        have K := Lib.hid kk
        clear kk
        go_wp2_with fail
        go_ret
        exact ⟨rfl, K.out.below⟩

end Go.Proofs.Ytgakapigpiaoiaa.Bt
