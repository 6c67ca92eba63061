import Derived.Test.YtgakapigpiaoiaaBtShape
import Derived.Test.YtgakapigpiaoiaaBtShP
import Derived.IntWalk
namespace Go.Proofs.Ytgakapigpiaoiaa.Bt
open Go.RowKit Go.Proofs.Ytgakapigpiaoiaa
theorem ShapeOf.fills {m : Int} {l : KV} {L : List BK} {h : Nat} (sh : ShapeOf m l L h) {j : Nat} {b : BK} (hb : L[j]? = some b) : FillsB m j b := by
  rcases sh with ⟨rfl, rfl, rfl⟩ | ⟨σ, rt, r, S, hrt, hf, rfl, rfl, rfl⟩
  · simp at hb
  · exact bks_fills S hf hrt rfl hb
set_option maxHeartbeats 4000000 in
set_option maxRecDepth 100000 in
theorem filled_walk {m : Int} (hm : 3 ≤ m ∧ m ≤ 64) {l : KV} {L : List BK} {h : Nat} (sh : ShapeOf m l L h) (n cap : Nat) (A : Option Addr) (hn : L.length = n) (hn1 : n ≤ 1000) (w : World) (hr : ListAt w w.heap.size A L) :
    Calls Try.prog 10 #[.slice A n cap, .int .i64 m] w fun e w' => e = .returned (.bool true) ∧ Below w.heap.size w w' := by
  have SH := Lib.hid (fun j b (hb : L[j]? = some b) => sh.fills hb)
  have HR := Lib.hid hr
  have HN := Lib.hid hn
  clear sh hr hn
  have hw1 : IntKind.i64.wrap (m + 1) = m + 1 := IntWalk.i64_in _ (by omega)
  have hw2 : IntKind.i64.wrap (m - 1) = m - 1 := IntWalk.i64_in _ (by omega)
  go_enter Try.func10, Try.ntmps10
  go_wp2_with fail
  go_loopw [10] (fun i wr => ∃ k : Nat, k ≤ n ∧ i = .int .i64 k ∧ Below w.heap.size w wr) (fun i _ => n - (intOf i).toNat)
  case atStart => exact ⟨0, Nat.zero_le _, rfl, Below.refl _ _⟩
  case round =>
    obtain ⟨k, hk, rfl, hb⟩ := hrel
    have HB := Lib.hid hb
    by_cases hlt : k < n
    · obtain ⟨x, hx⟩ : ∃ x, L[k]? = some x := ⟨_, List.getElem?_eq_getElem (by rw [HN.out]; exact hlt)⟩
      obtain ⟨ad, K1, c1, K2, c2, K3, c3, rfl, r⟩ := HR.out k x hx
      obtain ⟨g0, g1, g2, g3, g4⟩ := (r.below hb).cells
      have F := Lib.hid (SH.out k x hx)
      have f1 := F.out.kids
      have f2 := F.out.least0
      have f3 := F.out.least
      have f4 := F.out.keys
      have f5 := F.out.leaf
      have f6 := F.out.some
      generalize x.keys.length = ne at *
      generalize x.vals.length = nv at *
      generalize x.kids.length = nk at *
      generalize x.up = xu at *
      generalize x.size = xs at *
      have KB := Lib.hid (Blk.new wr 39 #[.int .i64 xu, .slice K1 ne c1, .slice K2 nv c2, .slice K3 nk c3, .int .i64 xs])
      have B1 := Lib.hid (hb.alloc hb.size (.cells #[.int .i64 xu, .slice K1 ne c1, .slice K2 nv c2, .slice K3 nk c3, .int .i64 xs] 39))
      clear hb hx r
      have hw3 : IntKind.i64.wrap ((m + 1).tdiv 2) = (m + 1) / 2 := IntWalk.i64_quo _ _ (by omega)
      have hw4 : IntKind.i64.wrap ((m + 1) / 2 - 1) = (m + 1) / 2 - 1 := IntWalk.i64_in _ (by omega)
      have q1 : decide (m < (nk : Int)) = false := decide_eq_false (by omega)
      have q2 : decide (m - 1 < (ne : Int)) = false := decide_eq_false (by omega)
      have q3 : ((ne : Int) == 0) = false := by simp; omega
      by_cases hk0 : k = 0
      · have q4 : ((k : Int) == 0) = true := by simp; omega
        have q5 : decide (0 < k) = false := decide_eq_false (by omega)
        by_cases hn0 : nk = 0
        · have q6 : decide (0 < nk) = false := decide_eq_false (by omega)
          have q7 : ((nk : Int) == 0) = true := by simp; omega
          clear f1 f2 f3 f4 f5 f6 hk0 hn0 F
          go_wp2_with fail
          go_roundw
          case rel => exact ⟨k + 1, by omega, by go_num, B1.out⟩
          case measure => simp [intOf]; omega
        · have q6 : decide (0 < nk) = true := decide_eq_true (by omega)
          have q7 : ((nk : Int) == 0) = false := by simp; omega
          have f7 := f2 hk0 (by omega)
          have q8 : decide ((nk : Int) < 2) = false := decide_eq_false (by omega)
          have q9 : decide (nk < 2) = false := decide_eq_false (by omega)
          clear f1 f2 f3 f4 f5 f6 f7 hk0 hn0 F
          go_wp2_with fail
          go_roundw
          case rel => exact ⟨k + 1, by omega, by go_num, B1.out⟩
          case measure => simp [intOf]; omega
      · have q4 : ((k : Int) == 0) = false := by simp; omega
        have q5 : decide (0 < k) = true := decide_eq_true (by omega)
        by_cases hn0 : nk = 0
        · have q6 : decide (0 < nk) = false := decide_eq_false (by omega)
          have q7 : ((nk : Int) == 0) = true := by simp; omega
          have f7 := f5 hk0 hn0
          have q8 : decide ((ne : Int) < (m + 1) / 2 - 1) = false := decide_eq_false (by omega)
          clear f1 f2 f3 f4 f5 f6 f7 hk0 hn0 F
          go_wp2_with fail
          go_roundw
          case rel => exact ⟨k + 1, by omega, by go_num, B1.out⟩
          case measure => simp [intOf]; omega
        · have q6 : decide (0 < nk) = true := decide_eq_true (by omega)
          have q7 : ((nk : Int) == 0) = false := by simp; omega
          have f7 := f3 hk0 (by omega)
          have q8 : decide ((nk : Int) < (m + 1) / 2) = false := decide_eq_false (by omega)
          clear f1 f2 f3 f4 f5 f6 f7 hk0 hn0 F
          go_wp2_with fail
          go_roundw
          case rel => exact ⟨k + 1, by omega, by go_num, B1.out⟩
          case measure => simp [intOf]; omega
    · obtain rfl : n = k := by omega
      clear hb
      go_wp2_with fail
      go_ret
      exact ⟨rfl, HB.out⟩
end Go.Proofs.Ytgakapigpiaoiaa.Bt
