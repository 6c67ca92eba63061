/- For every order and every list of acts: there are as many keys and values as the size tells, and none just if it is empty; the keys ascend in the order. No condition. -/
import Derived.Test.YtpkgmgebhnhhjaaBtKept
import Derived.Test.YtpkgmgebhnhhjaaSpecRun
import Derived.Deep.RegionHeld3
import Derived.IntWalk
namespace Go.Proofs.Ytpkgmgebhnhhjaa.Bt
open Go.RowKit Go.Proofs.Ytpkgmgebhnhhjaa

theorem cells5 {w w' : World} {p0 p1 p2 p3 p4 : Addr} {x0 x1 x2 x3 x4 : Value} (h0 : w.cell? p0 = some x0) (h1 : w.cell? p1 = some x1) (h2 : w.cell? p2 = some x2) (h3 : w.cell? p3 = some x3) (h4 : w.cell? p4 = some x4) (b : Below w.drew.heap.size w.drew w') :
    (w'.cell? p0 = some x0 ∧ w'.cell? p1 = some x1) ∧ w'.cell? p2 = some x2 ∧ w'.cell? p3 = some x3 ∧ w'.cell? p4 = some x4 := by
  have k : ∀ {p : Addr} {v : Value}, w.cell? p = some v → w'.cell? p = some v := fun hp => (b.cell (World.block_lt_of_cell? w _ hp)).trans hp
  exact ⟨⟨k h0, k h1⟩, k h2, k h3, k h4⟩

set_option maxHeartbeats 4000000 in
set_option maxRecDepth 100000 in
theorem lawBTreeSize_walk (m : Int) (o : Ord) (cap : Nat) (A : Option Addr) (acts : List Do) (w : World) (hA : A = none → acts.length = 0 ∧ cap = 0) (ha : ActsAt w w.heap.size A acts) :
    Calls Try.prog 8 #[.int .i64 m, .agg #[.int .i64 o.kind, .int .i64 o.m], .slice A acts.length cap] w fun e w' => e = .returned (.bool true) ∧ Below w.heap.size w w' := by
  have Ha := Lib.hid ha
  have HA := Lib.hid hA
  clear ha hA
  by_cases h0 : 2147483647 < acts.length
  · go_enter Try.func8, Try.ntmps8
    go_wp2_with fail
    go_ret
    exact ⟨rfl, (Below.refl _ _).alloc (Nat.le_refl _) _⟩
  by_cases hm1 : m < 3
  · go_enter Try.func8, Try.ntmps8
    go_wp2_with fail
    go_ret
    exact ⟨rfl, (Below.refl _ _).alloc (Nat.le_refl _) _⟩
  by_cases hm2 : 64 < m
  · have hm1' : ¬ m < 3 := hm1
    go_enter Try.func8, Try.ntmps8
    go_wp2_with fail
    go_ret
    exact ⟨rfl, (Below.refl _ _).alloc (Nat.le_refl _) _⟩
  have hm : 3 ≤ m ∧ m ≤ 64 := ⟨by omega, by omega⟩
  by_cases hp : ¬ o.fine
  · go_enter Try.func8, Try.ntmps8
    go_wp2_with fail
    refine (fine_no o hp _).mono ?_
    rintro e w1 ⟨rfl, rfl⟩
    go_wp2_with fail
    go_ret
    exact ⟨rfl, ((Below.refl _ _).alloc (Nat.le_refl _) _).alloc (by simp) _⟩
  replace hp := Classical.not_not.1 hp
  by_cases h3 : 300 < acts.length
  · go_enter Try.func8, Try.ntmps8
    go_wp2_with fail
    refine (fine_yes o hp _).mono ?_
    rintro e w1 ⟨rfl, rfl⟩
    go_wp2_with fail
    go_ret
    exact ⟨rfl, ((Below.refl _ _).alloc (Nat.le_refl _) _).alloc (by simp) _⟩
  have Fi := Lib.hid (show o.fine from hp)
  have L3 := Lib.hid h3
  have q0 := run_length_le o acts
  have RL := Lib.hid (show (run o acts).length ≤ 1000 by omega)
  clear q0
  go_enter Try.func8, Try.ntmps8
  go_wp2_with fail
  refine (fine_yes o hp _).mono ?_
  rintro e w1 ⟨rfl, rfl⟩
  have K := Lib.hid (Kept.start o Ha.out)
  generalize (w.alloc (.cells #[.int .i64 o.kind, .int .i64 o.m] 23)).alloc (.cells #[.int .i64 o.kind, .int .i64 o.m] 23) = w1 at *
  have Asc0 := Lib.hid (Asc.run o acts)
  have C0 := Lib.hid (fun (wx : World) (K : Kept w w.heap.size o [(A, actCells acts)] [] (w.heap.size + 1) wx) => implBTreeState_walk m hm o Fi.out acts.length cap A acts wx rfl (by have := L3.out; omega) ((K.rows (A, actCells acts) (by simp)).acts.more K.le))
  obtain ⟨hc0, hc1⟩ := K.out.c
  generalize run o acts = l at *
  go_wp2_with fail
  refine (C0.out _ K.out).mono ?_
  rintro e w2 ⟨v, rfl, hst, b2⟩
  obtain ⟨A1, c1, A2, c2, rfl, own1, own2⟩ := hst
  have R1 := Lib.hid ((RowAt.of_own own1).below ((Below.refl _ _).alloc (Nat.le_refl _) (.cells #[.slice A1 l.length c1, .slice A2 l.length c2, .int .i64 (l.length : Int), .bool ((l.length : Int) == 0)] 41)))
  have OB := Lib.hid (Blk.alloc (K.out.ord.below b2 K.out.ord.lt) (.cells #[.slice A1 l.length c1, .slice A2 l.length c2, .int .i64 (l.length : Int), .bool ((l.length : Int) == 0)] 41))
  have SB := Lib.hid (Blk.new w2 41 #[.slice A1 l.length c1, .slice A2 l.length c2, .int .i64 (l.length : Int), .bool ((l.length : Int) == 0)])
  have B2 := Lib.hid ((K.out.below.trans (b2.mono K.out.below.size)).alloc (K.out.below.trans (b2.mono K.out.below.size)).size (.cells #[.slice A1 l.length c1, .slice A2 l.length c2, .int .i64 (l.length : Int), .bool ((l.length : Int) == 0)] 41))
  clear own1 own2 b2 K C0 hc0 hc1
  generalize hn : l.length = n at *
  have HN := Lib.hid hn
  clear hn
  go_wp2_with fail
  generalize w2.alloc (.cells #[.slice A1 n c1, .slice A2 n c2, .int .i64 (n : Int), .bool ((n : Int) == 0)] 41) = w3 at *
  go_loopw [8] (fun i wr => ∃ k : Nat, 1 ≤ k ∧ (k ≤ n ∨ k = 1) ∧ i = .int .i64 k ∧ Below w.heap.size w wr ∧ Blk wr w.heap.size 23 #[.int .i64 o.kind, .int .i64 o.m] ∧ Blk wr w2.heap.size 41 #[.slice A1 n c1, .slice A2 n c2, .int .i64 (n : Int), .bool ((n : Int) == 0)] ∧ RowAt wr w2.heap.size A1 (intRow (l.map Prod.fst))) (fun i _ => n - (intOf i).toNat)
  case atStart => exact ⟨1, Nat.le_refl _, .inr rfl, rfl, B2.out, OB.out, SB.out, R1.out⟩
  case round =>
    obtain ⟨k, hk1, hk, rfl, hw, ho, hs, hr⟩ := hrel
    have hs0 : wr.cell? ⟨w2.heap.size, 0, none⟩ = some (.slice A1 n c1) := hs.cell 0
    have hs1 : wr.cell? ⟨w2.heap.size, 1, none⟩ = some (.slice A2 n c2) := hs.cell 1
    have hs2 : wr.cell? ⟨w2.heap.size, 2, none⟩ = some (.int .i64 n) := hs.cell 2
    have hs3 : wr.cell? ⟨w2.heap.size, 3, none⟩ = some (.bool ((n : Int) == 0)) := hs.cell 3
    have hc0 : wr.cell? ⟨w.heap.size, 0, none⟩ = some (.int .i64 o.kind) := ho.cell 0
    have hc1 : wr.cell? ⟨w.heap.size, 1, none⟩ = some (.int .i64 o.m) := ho.cell 1
    by_cases hlt : k < n
    · obtain ⟨j, hkj⟩ : ∃ j, k = j + 1 := ⟨k - 1, by omega⟩
      obtain ⟨p, hp⟩ : ∃ p, l[j]? = some p := ⟨_, List.getElem?_eq_getElem (by have := HN.out; omega)⟩
      obtain ⟨q, hq⟩ : ∃ q, l[k]? = some q := ⟨_, List.getElem?_eq_getElem (by have := HN.out; omega)⟩
      have hlt2 := asc_next Asc0.out hp (by rw [← hkj]; exact hq)
      obtain ⟨a, rfl, hab, hx⟩ := hr.get (intRow_get (show (l.map Prod.fst)[j]? = some p.1 by simp [hp]))
      obtain ⟨a', ha', _, hy⟩ := hr.get (intRow_get (show (l.map Prod.fst)[k]? = some q.1 by simp [hq]))
      injection ha' with ha'
      subst ha'
      have c := fun w1 => scompare_any o Fi.out p.1 q.1 w1
      rw [cmp_lt hlt2] at c
      have C := Lib.hid c
      have HW := Lib.hid hw
      have HO := Lib.hid ho
      have HS := Lib.hid hs
      have HR := Lib.hid hr
      have HKJ := Lib.hid hkj
      have hj0 : (1 : Int) ≤ (k : Int) := by omega
      have hjn : (k : Int) < (n : Int) := by omega
      have hjm : (n : Int) ≤ 1000 := by have := RL.out; have := HN.out; omega
      have hj2 : IntKind.i64.wrap ((k : Int) - 1) = (k : Int) - 1 := IntWalk.i64_in _ (by omega)
      have hj3 : ((k : Int) - 1).toNat = j := by omega
      have hj4 : (0 : Int) ≤ (k : Int) - 1 := by omega
      have hj5 : (k : Int) - 1 < (n : Int) := by omega
      clear c hw ho hs hr hp hq hlt2 hk hk1 hkj hlt
      go_wp2_with fail
      go_region_held3 (fun w' => (w'.cell? ⟨w.heap.size, 0, none⟩ = some (.int .i64 o.kind) ∧ w'.cell? ⟨w.heap.size, 1, none⟩ = some (.int .i64 o.m)) ∧ w'.cell? ⟨w2.heap.size, 0, none⟩ = some (.slice (some a) n c1) ∧ w'.cell? (a.add j) = some (.int .i64 p.1) ∧ w'.cell? (a.add k) = some (.int .i64 q.1)) (first | exact ⟨⟨hc0, hc1⟩, hs0, hx, hy⟩ | exact K3.out)
        (first
          | (go_at_call 35; refine (C.out _).mono ?_; rintro e w1 ⟨rfl, b1⟩; have B1 := Lib.hid b1; have K3 := Lib.hid (cells5 hc0 hc1 hs0 hx hy b1); clear b1))
      all_goals
        go_wp2_with fail
        go_roundw
        case rel => exact ⟨k + 1, by omega, .inl (by omega), by go_num, HW.out.drew.trans (B1.out.mono HW.out.size), HO.out.drew.below B1.out HO.out.lt, HS.out.drew.below B1.out HS.out.lt, (HR.out.below ((Below.refl _ _).drew.trans (B1.out.mono (Nat.le_of_lt HS.out.lt))))⟩
        case measure => simp [intOf]; omega
    · have HW := Lib.hid hw
      have hd0 : decide (k < n) = false := decide_eq_false hlt
      clear hw ho hs hr hk hk1 hlt
      go_wp2_with fail
      refine (growsBTree_walk _).mono ?_
      rintro e wz ⟨rfl, bz⟩
      have BZ := Lib.hid bz
      clear bz
      go_wp2_with fail
      go_ret
      exact ⟨rfl, HW.out.trans (BZ.out.mono HW.out.size)⟩

end Go.Proofs.Ytpkgmgebhnhhjaa.Bt
