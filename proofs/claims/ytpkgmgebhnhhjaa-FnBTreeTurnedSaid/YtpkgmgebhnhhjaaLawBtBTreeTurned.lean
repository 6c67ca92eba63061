/- For every list of acts: downwards it is what it is upwards, from the other end. No condition. -/
import Derived.Test.YtpkgmgebhnhhjaaBtKept
import Derived.Test.YtpkgmgebhnhhjaaSpecRun
import Derived.Deep.RegionHeld3
import Derived.Deep.RegionHeldLaw
import Derived.IntWalk
namespace Go.Proofs.Ytpkgmgebhnhhjaa.Bt
open Go.RowKit Go.Proofs.Ytpkgmgebhnhhjaa

set_option maxHeartbeats 4000000 in
set_option maxRecDepth 100000 in
theorem lawBTreeTurned_walk (m : Int) (cap : Nat) (A : Option Addr) (acts : List Do) (w : World) (_hA : A = none → acts.length = 0 ∧ cap = 0) (ha : ActsAt w w.heap.size A acts) :
    Calls Try.prog 10 #[.int .i64 m, .slice A acts.length cap] w fun e w' => e = .returned (.bool true) ∧ Below w.heap.size w w' := by
  have Ha := Lib.hid ha
  clear ha
  by_cases h0 : 2147483647 < acts.length
  · go_enter Try.func10, Try.ntmps10
    go_wp2_with fail
    go_ret
    exact ⟨rfl, Below.refl _ _⟩
  by_cases hm1 : m < 3
  · go_enter Try.func10, Try.ntmps10
    go_wp2_with fail
    go_ret
    exact ⟨rfl, Below.refl _ _⟩
  by_cases hm2 : 64 < m
  · have hm1' : ¬ m < 3 := hm1
    go_enter Try.func10, Try.ntmps10
    go_wp2_with fail
    go_ret
    exact ⟨rfl, Below.refl _ _⟩
  have hm : 3 ≤ m ∧ m ≤ 64 := ⟨by omega, by omega⟩
  by_cases h3 : 300 < acts.length
  · go_enter Try.func10, Try.ntmps10
    go_wp2_with fail
    go_ret
    exact ⟨rfl, Below.refl _ _⟩
  have Ca := Lib.hid (implBTreeState_walk m hm oUp (.inl rfl) acts.length cap A acts w rfl (by omega) Ha.out)
  have Cb := Lib.hid (fun (wx : World) (b : Below w.heap.size w wx) => implBTreeState_walk m hm oDown (.inr (.inl rfl)) acts.length cap A acts wx rfl (by omega) ((Ha.out.below b).more b.size))
  rw [run_rev] at Cb
  have RL := Lib.hid (show (run oUp acts).length ≤ 1000 by have := run_length_le oUp acts; omega)
  generalize run oUp acts = l at *
  generalize hn : l.length = n at *
  have hnr : l.reverse.length = n := by rw [List.length_reverse, hn]
  have HN := Lib.hid hn
  have HR := Lib.hid hnr
  clear hn hnr
  go_enter Try.func10, Try.ntmps10
  go_wp2_with fail
  refine Ca.out.mono ?_
  rintro e w2 ⟨v, rfl, hst, b2⟩
  obtain ⟨A1, c1, A2, c2, rfl, own1, own2⟩ := hst
  rw [HN.out] at own1 own2
  simp only [HN.out]
  have R1 := Lib.hid (RowAt.of_own own1)
  have R2 := Lib.hid (RowAt.of_own own2)
  have B2 := Lib.hid b2
  clear own1 own2 b2 Ca
  go_wp2_with fail
  have B3 := Lib.hid (B2.out.alloc B2.out.size (.cells #[.slice A1 n c1, .slice A2 n c2, .int .i64 (n : Int), .bool ((n : Int) == 0)] 41))
  have S3 := Lib.hid (Blk.new w2 41 #[.slice A1 n c1, .slice A2 n c2, .int .i64 (n : Int), .bool ((n : Int) == 0)])
  have Q1 := Lib.hid (R1.out.below ((Below.refl _ _).alloc (Nat.le_refl _) (.cells #[.slice A1 n c1, .slice A2 n c2, .int .i64 (n : Int), .bool ((n : Int) == 0)] 41)))
  have Q2 := Lib.hid (R2.out.below ((Below.refl _ _).alloc (Nat.le_refl _) (.cells #[.slice A1 n c1, .slice A2 n c2, .int .i64 (n : Int), .bool ((n : Int) == 0)] 41)))
  clear R1 R2
  generalize w2.alloc (.cells #[.slice A1 n c1, .slice A2 n c2, .int .i64 (n : Int), .bool ((n : Int) == 0)] 41) = w3 at *
  refine (Cb.out _ B3.out).mono ?_
  rintro e w4 ⟨v, rfl, hst, b4⟩
  obtain ⟨A3, c3, A4, c4, rfl, own3, own4⟩ := hst
  rw [HR.out] at own3 own4
  simp only [HR.out]
  have R3 := Lib.hid ((RowAt.of_own own3).below ((Below.refl _ _).alloc (Nat.le_refl _) (.cells #[.slice A3 n c3, .slice A4 n c4, .int .i64 (n : Int), .bool ((n : Int) == 0)] 41)))
  have R4 := Lib.hid ((RowAt.of_own own4).below ((Below.refl _ _).alloc (Nat.le_refl _) (.cells #[.slice A3 n c3, .slice A4 n c4, .int .i64 (n : Int), .bool ((n : Int) == 0)] 41)))
  have S5 := Lib.hid (Blk.alloc (S3.out.below b4 S3.out.lt) (.cells #[.slice A3 n c3, .slice A4 n c4, .int .i64 (n : Int), .bool ((n : Int) == 0)] 41))
  have T5 := Lib.hid (Blk.new w4 41 #[.slice A3 n c3, .slice A4 n c4, .int .i64 (n : Int), .bool ((n : Int) == 0)])
  have lt2 := S3.out.lt
  have Q5 := Lib.hid ((Q1.out.below (b4.mono (Nat.le_of_lt lt2))).below ((Below.refl w2.heap.size w4).alloc (Nat.le_trans (Nat.le_of_lt lt2) b4.size) (.cells #[.slice A3 n c3, .slice A4 n c4, .int .i64 (n : Int), .bool ((n : Int) == 0)] 41)))
  have Q6 := Lib.hid ((Q2.out.below (b4.mono (Nat.le_of_lt lt2))).below ((Below.refl w2.heap.size w4).alloc (Nat.le_trans (Nat.le_of_lt lt2) b4.size) (.cells #[.slice A3 n c3, .slice A4 n c4, .int .i64 (n : Int), .bool ((n : Int) == 0)] 41)))
  have B5 := Lib.hid ((B3.out.trans (b4.mono B3.out.size)).alloc (B3.out.trans (b4.mono B3.out.size)).size (.cells #[.slice A3 n c3, .slice A4 n c4, .int .i64 (n : Int), .bool ((n : Int) == 0)] 41))
  clear own3 own4 b4 lt2 Cb B2 B3 S3 Q1 Q2
  have ha0 : (w4.alloc (.cells #[.slice A3 n c3, .slice A4 n c4, .int .i64 (n : Int), .bool ((n : Int) == 0)] 41)).cell? ⟨w2.heap.size, 0, none⟩ = some (.slice A1 n c1) := S5.out.cell 0
  have ha1 : (w4.alloc (.cells #[.slice A3 n c3, .slice A4 n c4, .int .i64 (n : Int), .bool ((n : Int) == 0)] 41)).cell? ⟨w2.heap.size, 1, none⟩ = some (.slice A2 n c2) := S5.out.cell 1
  have ha2 : (w4.alloc (.cells #[.slice A3 n c3, .slice A4 n c4, .int .i64 (n : Int), .bool ((n : Int) == 0)] 41)).cell? ⟨w2.heap.size, 2, none⟩ = some (.int .i64 n) := S5.out.cell 2
  have hb0 : (w4.alloc (.cells #[.slice A3 n c3, .slice A4 n c4, .int .i64 (n : Int), .bool ((n : Int) == 0)] 41)).cell? ⟨w4.heap.size, 0, none⟩ = some (.slice A3 n c3) := T5.out.cell 0
  have hb1 : (w4.alloc (.cells #[.slice A3 n c3, .slice A4 n c4, .int .i64 (n : Int), .bool ((n : Int) == 0)] 41)).cell? ⟨w4.heap.size, 1, none⟩ = some (.slice A4 n c4) := T5.out.cell 1
  have hb2 : (w4.alloc (.cells #[.slice A3 n c3, .slice A4 n c4, .int .i64 (n : Int), .bool ((n : Int) == 0)] 41)).cell? ⟨w4.heap.size, 2, none⟩ = some (.int .i64 n) := T5.out.cell 2
  go_wp2_with fail
  generalize w4.alloc (.cells #[.slice A3 n c3, .slice A4 n c4, .int .i64 (n : Int), .bool ((n : Int) == 0)] 41) = w5 at *
  go_loopw [59] (fun i wr => ∃ k : Nat, k ≤ n ∧ i = .int .i64 k ∧ ∃ m, wr = w5.drewN m) (fun i _ => n - (intOf i).toNat)
  case atStart => exact ⟨0, Nat.zero_le _, rfl, 0, rfl⟩
  case round =>
    obtain ⟨k, hk, rfl, hm⟩ := hrel
    have HM := Lib.hid hm
    replace ha0 : wr.cell? ⟨w2.heap.size, 0, none⟩ = some (.slice A1 n c1) := by obtain ⟨m, rfl⟩ := hm; exact ha0
    replace ha1 : wr.cell? ⟨w2.heap.size, 1, none⟩ = some (.slice A2 n c2) := by obtain ⟨m, rfl⟩ := hm; exact ha1
    replace ha2 : wr.cell? ⟨w2.heap.size, 2, none⟩ = some (.int .i64 n) := by obtain ⟨m, rfl⟩ := hm; exact ha2
    replace hb0 : wr.cell? ⟨w4.heap.size, 0, none⟩ = some (.slice A3 n c3) := by obtain ⟨m, rfl⟩ := hm; exact hb0
    replace hb1 : wr.cell? ⟨w4.heap.size, 1, none⟩ = some (.slice A4 n c4) := by obtain ⟨m, rfl⟩ := hm; exact hb1
    replace hb2 : wr.cell? ⟨w4.heap.size, 2, none⟩ = some (.int .i64 n) := by obtain ⟨m, rfl⟩ := hm; exact hb2
    by_cases hlt : k < n
    · obtain ⟨p, hp⟩ : ∃ p, l[k]? = some p := ⟨_, List.getElem?_eq_getElem (by have := HN.out; omega)⟩
      have hq : l.reverse[n - 1 - k]? = some p := by
        rw [List.getElem?_reverse (by have := HN.out; omega), ← hp]; congr 1; have := HN.out; omega
      obtain ⟨a1, rfl, _, hx1⟩ := Q5.out.get (intRow_get (show (l.map Prod.fst)[k]? = some p.1 by simp [hp]))
      obtain ⟨a2, rfl, _, hx2⟩ := Q6.out.get (intRow_get (show (l.map Prod.snd)[k]? = some p.2 by simp [hp]))
      obtain ⟨a3, rfl, _, hx3⟩ := R3.out.get (intRow_get (show (l.reverse.map Prod.fst)[n - 1 - k]? = some p.1 by rw [List.getElem?_map, hq]; rfl))
      obtain ⟨a4, rfl, _, hx4⟩ := R4.out.get (intRow_get (show (l.reverse.map Prod.snd)[n - 1 - k]? = some p.2 by rw [List.getElem?_map, hq]; rfl))
      have hy1 : wr.cell? (a1.add k) = some (.int .i64 p.1) := by obtain ⟨m, rfl⟩ := hm; exact hx1
      have hy2 : wr.cell? (a2.add k) = some (.int .i64 p.2) := by obtain ⟨m, rfl⟩ := hm; exact hx2
      have hy3 : wr.cell? (a3.add (n - 1 - k)) = some (.int .i64 p.1) := by obtain ⟨m, rfl⟩ := hm; exact hx3
      have hy4 : wr.cell? (a4.add (n - 1 - k)) = some (.int .i64 p.2) := by obtain ⟨m, rfl⟩ := hm; exact hx4
      have hk0 : (0 : Int) ≤ (k : Int) := by omega
      have hkn : (k : Int) < (n : Int) := by omega
      have hn1 : (n : Int) ≤ 1000 := by have := RL.out; have := HN.out; omega
      have hw1 : IntKind.i64.wrap ((n : Int) - 1) = (n : Int) - 1 := IntWalk.i64_in _ (by omega)
      have hw2 : IntKind.i64.wrap ((n : Int) - 1 - (k : Int)) = (n : Int) - 1 - (k : Int) := IntWalk.i64_in _ (by omega)
      have hw3 : ((n : Int) - 1 - (k : Int)).toNat = n - 1 - k := by omega
      have hw4 : (0 : Int) ≤ (n : Int) - 1 - (k : Int) := by omega
      have hw5 : (n : Int) - 1 - (k : Int) < (n : Int) := by omega
      generalize n - 1 - k = j at *
      clear hm hp hq hx1 hx2 hx3 hx4 hlt
      go_wp2_with fail
      go_quiet (fail)
      go_wp2_with fail
      go_roundw
      case rel =>
        obtain ⟨m, hm⟩ := HM.out
        exact ⟨k + 1, by omega, by go_num, m + nq, by rw [hm, World.drewN_drewN]⟩
      case measure => simp [intOf]; omega
    · clear hm
      have hd0 : decide (k < n) = false := decide_eq_false hlt
      go_wp2_with fail
      refine (growsBTree_walk _).mono ?_
      rintro e wz ⟨rfl, bz⟩
      have BZ := Lib.hid bz
      clear bz
      go_wp2_with fail
      go_ret
      obtain ⟨m, rfl⟩ := HM.out
      exact ⟨rfl, (Below.drewN' B5.out m).trans (BZ.out.mono (Below.drewN' B5.out m).size)⟩

end Go.Proofs.Ytpkgmgebhnhhjaa.Bt
