import Derived.Test.YtgakapigpiaoiaaBtShape
import Derived.Test.YtgakapigpiaoiaaBtShP
import Derived.Test.YtgakapigpiaoiaaSpecLeaves
import Derived.IntWalk
namespace Go.Proofs.Ytgakapigpiaoiaa.Bt
open Go.RowKit Go.Proofs.Ytgakapigpiaoiaa
section
variable {rt : Nat} {σ : Store}
set_option maxHeartbeats 4000000 in
set_option maxRecDepth 100000 in
theorem counts_walk {L : List BK} (S : Shp σ rt) (hfe : ∀ i d, σ i = some d → d.es.length ≤ 1000) (n cap : Nat) (A : Option Addr) (hn : L.length = n) : ∀ i d, σ i = some d → ∀ (a : Nat) (u left : Int) (w : World) (C : Nat), SubB L σ i a u → (lvOf σ i : Int) ≤ left → left ≤ 200000 → ListAt w C A L → (nk σ i).length ≤ 100000 → cnt σ i ≤ 100000 →
    Calls Try.prog 14 #[.slice A n cap, .int .i64 a, .int .i64 left] w fun e w' => e = .returned (.tuple #[.int .i64 (nk σ i).length, .int .i64 (cnt σ i)]) ∧ ∃ q, w' = w.drewN q := by
  refine lv_ind S fun i d h ih a u left w C s hl hl2 hr hk hc => ?_
  obtain ⟨ad, K1, c1, K2, c2, K3, c3, rfl, r⟩ := hr a _ (s.here S h)
  have hlt := s.lt S h
  rw [hn] at hlt
  have hlv : lvOf σ i = d.lv := by unfold lvOf; rw [h]
  rw [hlv] at hl
  have hne := hfe i d h
  have hknb : d.ks.length ≤ 1001 := by
    rcases Nat.eq_zero_or_pos d.lv with h0 | h0
    · rw [S.leaf i d h h0]; simp
    · rw [S.inner i d h h0]; omega
  obtain ⟨g0, g1, g2, g3, g4⟩ := r.cells
  simp only [List.length_map, posB_length] at g1 g2 g3
  have R := Lib.hid r
  have HR := Lib.hid hr
  have HH := Lib.hid h
  have HS := Lib.hid s
  have HI := Lib.hid ih
  have HL := Lib.hid (nk_length S h)
  have HC := Lib.hid (cnt_row S h)
  have HK := Lib.hid hk
  have HCB := Lib.hid hc
  have HLV := Lib.hid hl
  have ha1 : decide (n ≤ a) = false := decide_eq_false (by omega)
  have ha0 : decide ((a : Int) < 0) = false := decide_eq_false (by omega)
  have ha2 : (a : Int) < (n : Int) := by omega
  have ha3 : (0 : Int) ≤ (a : Int) := by omega
  have hl0 : decide (left < 0) = false := decide_eq_false (by omega)
  generalize hX : d.es.length = ne at *
  generalize hY : d.ks.length = kn at *
  have HX := Lib.hid hX
  have HY := Lib.hid hY
  have HN := Lib.hid hn
  clear hX hY ih s r hr h hk hc hl hn g0 g2 g4 hlt hlv
  go_enter Try.func14, Try.ntmps14
  go_wp2_with fail
  clear g1 g3
  go_loopw [8, 9, 38] (fun ev nv j wr => ∃ k : Nat, k ≤ kn ∧ j = .int .i64 k ∧ ev = .int .i64 (ne + ((d.ks.take k).map fun c => (nk σ c).length).sum : Nat) ∧ nv = .int .i64 (1 + ((d.ks.take k).map (cnt σ)).sum : Nat) ∧ ∃ q, wr = w.drewN q) (fun _ _ j _ => kn - (intOf j).toNat)
  case atStart => exact ⟨0, Nat.zero_le _, rfl, by simp, rfl, 0, rfl⟩
  case round =>
    obtain ⟨k, hk, rfl, rfl, rfl, q, rfl⟩ := hrel
    by_cases hlt : k < kn
    · obtain ⟨c, hkc⟩ : ∃ c, d.ks[k]? = some c := ⟨_, List.getElem?_eq_getElem (by rw [HY.out]; exact hlt)⟩
      obtain ⟨hsp, hsl⟩ := split_at hkc
      obtain ⟨hpk, sc⟩ := HS.out.kid S HH.out hsp
      rw [hsl] at hpk
      obtain ⟨a3, rfl, _, hc3⟩ := (R.out.below (Below.drewN' (Below.refl C w) q)).r3 _ _ (intRow_at hpk)
      have hmc : c ∈ d.ks := List.mem_of_getElem? hkc
      obtain ⟨cd, hcd, _, hcl⟩ := S.kid i d c HH.out hmc
      have hlc : lvOf σ c + 1 = d.lv := by unfold lvOf; rw [hcd]; simp only; omega
      have e1 := sum_take (cnt σ) d.ks hkc
      have e2 := sum_take_le (cnt σ) d.ks (k + 1)
      have e3 := HC.out
      have e4 := HCB.out
      have e5 := sum_take (fun c => (nk σ c).length) d.ks hkc
      have e6 := sum_take_le (fun c => (nk σ c).length) d.ks (k + 1)
      have e7 := HL.out
      have e8 := HK.out
      have e9 := HLV.out
      generalize a + 1 + ((d.ks.take k).map (cnt σ)).sum = ka at *
      have CC := Lib.hid (HI.out c hmc ka (a : Int) (left - 1) (w.drewN q) C sc (by omega) (by omega) (HR.out.below (Below.drewN' (Below.refl C w) q)) (by omega) (by omega))
      generalize hU : (nk σ c).length = uu at *
      generalize hV : cnt σ c = vv at *
      have E := Lib.hid (show ne + ((d.ks.take k).map fun c => (nk σ c).length).sum + uu = ne + ((d.ks.take (k + 1)).map fun c => (nk σ c).length).sum ∧ ne + ((d.ks.take (k + 1)).map fun c => (nk σ c).length).sum ≤ 100000 ∧ 1 + ((d.ks.take k).map (cnt σ)).sum + vv = 1 + ((d.ks.take (k + 1)).map (cnt σ)).sum ∧ 1 + ((d.ks.take (k + 1)).map (cnt σ)).sum ≤ 100000 from ⟨by omega, by omega, by omega, by omega⟩)
      generalize hP : ne + ((d.ks.take k).map fun c => (nk σ c).length).sum = pp at E
      generalize hQ : ne + ((d.ks.take (k + 1)).map fun c => (nk σ c).length).sum = qq at E
      generalize hP2 : 1 + ((d.ks.take k).map (cnt σ)).sum = pv at E
      generalize hQ2 : 1 + ((d.ks.take (k + 1)).map (cnt σ)).sum = qv at E
      have HQ := Lib.hid hQ
      have HQ2 := Lib.hid hQ2
      have hwl : IntKind.i64.wrap (left - 1) = left - 1 := IntWalk.i64_in _ (by omega)
      have hw1 : IntKind.i64.wrap ((pp : Int) + (uu : Int)) = (qq : Int) := by have := E.out; rw [IntWalk.i64_in _ (by omega)]; omega
      have hw2 : IntKind.i64.wrap ((pv : Int) + (vv : Int)) = (qv : Int) := by have := E.out; rw [IntWalk.i64_in _ (by omega)]; omega
      clear hP hQ hP2 hQ2 hU hV e1 e2 e3 e4 e5 e6 e7 e8 e9 hsp hsl hpk sc hmc hcd hcl hlc hkc
      go_wp2_with fail
      refine CC.out.mono ?_
      rintro e w1 ⟨rfl, q2, rfl⟩
      go_wp2_with fail
      go_roundw
      case rel => exact ⟨k + 1, by omega, by go_num, by rw [HQ.out], by rw [HQ2.out], q + q2, rfl⟩
      case measure => simp [intOf]; omega
    · obtain rfl : k = kn := by omega
      go_wp2_with fail
      go_ret2
      refine ⟨?_, q, rfl⟩
      rw [HL.out, HC.out, List.take_of_length_le (by rw [HY.out]; exact Nat.le_refl _)]
      rfl
end
end Go.Proofs.Ytgakapigpiaoiaa.Bt
