import Derived.Test.YtgakapigpiaoiaaBtBks
import Derived.Test.YtgakapigpiaoiaaBtTops
import Derived.IntWalk
namespace Go.Proofs.Ytgakapigpiaoiaa.Bt
open Go.RowKit Go.Proofs.Ytgakapigpiaoiaa
theorem sum_take (f : Nat → Nat) (ks : List Nat) {k c : Nat} (h : ks[k]? = some c) : ((ks.take (k + 1)).map f).sum = ((ks.take k).map f).sum + f c := by
  rw [List.take_add_one, h]; simp
theorem sum_take_le (f : Nat → Nat) (ks : List Nat) (k : Nat) : ((ks.take k).map f).sum ≤ (ks.map f).sum := by
  conv => rhs; rw [← List.take_append_drop k ks]
  rw [List.map_append, List.sum_append]; omega
section
variable {B rt i : Nat} {w w' : World} {H : Hd} {o : Ord} {σ : Store} {α : Nat → Arr} {d : ND}
set_option maxHeartbeats 1000000 in
set_option maxRecDepth 100000 in
theorem btNodeSize_walk (S : Shp σ rt) : ∀ i d, σ i = some d → ∀ w, St w B H o σ α → cnt σ i ≤ 100000 →
    Calls Try.prog 21 #[.pointer (some ⟨i, 0, none⟩)] w fun e w' => e = .returned (.int .i64 (cnt σ i)) ∧ ∃ q, w' = w.drewN q := by
  refine lv_ind S fun i d h ih w s hc => ?_
  have HC := Lib.hid (cnt_row S h)
  have HH := Lib.hid h
  have HS := Lib.hid s
  have HI := Lib.hid ih
  have HL := Lib.hid hc
  have hc2 := (s.cells h).2.2.1
  have hlen : d.ks.length ≤ 100000 := by
    have := cnt_row S h
    have h2 : ∀ ks : List Nat, (∀ k ∈ ks, ∃ c, σ k = some c) → ks.length ≤ (ks.map (cnt σ)).sum := by
      intro ks
      induction ks with
      | nil => intro _; simp
      | cons k ks ihk =>
        intro hk
        obtain ⟨c, hkc⟩ := hk k (by simp)
        have h3 := cnt_pos S hkc
        have h4 := ihk fun k' hk' => hk k' (by simp [hk'])
        simp only [List.length_cons, List.map_cons, List.sum_cons]; omega
    have := h2 d.ks (kids_some S h)
    omega
  clear h s ih hc
  generalize hl : d.ks.length = n at *
  have HN := Lib.hid hl
  clear hl
  go_enter Try.func21, Try.ntmps21
  go_wp2_with fail
  go_loopw [3, 13] (fun v j wr => ∃ k : Nat, k ≤ n ∧ v = .int .i64 (1 + ((d.ks.take k).map (cnt σ)).sum : Nat) ∧ j = .int .i64 k ∧ ∃ q, wr = w.drewN q) (fun _ j _ => n - (intOf j).toNat)
  case atStart => exact ⟨0, Nat.zero_le _, rfl, rfl, 0, rfl⟩
  case round =>
    clear hc2
    obtain ⟨k, hk, rfl, rfl, q, rfl⟩ := hrel
    by_cases hlt : k < n
    · obtain ⟨c, hkc⟩ : ∃ c, d.ks[k]? = some c := ⟨_, List.getElem?_eq_getElem (by rw [HN.out]; exact hlt)⟩
      have s2 := HS.out.drewN q
      obtain ⟨g, hA, hg, _⟩ := s2.kid HH.out hkc
      have e1 := sum_take (cnt σ) d.ks hkc
      have e2 := sum_take_le (cnt σ) d.ks (k + 1)
      have e3 := HC.out
      have e4 := HL.out
      have C := Lib.hid (HI.out c (List.mem_of_getElem? hkc) _ s2 (by omega))
      have E := Lib.hid (show 1 + ((d.ks.take k).map (cnt σ)).sum + cnt σ c = 1 + ((d.ks.take (k + 1)).map (cnt σ)).sum ∧ 1 + ((d.ks.take (k + 1)).map (cnt σ)).sum ≤ 100000 from ⟨by omega, by omega⟩)
      generalize hX : 1 + ((d.ks.take k).map (cnt σ)).sum = X at E
      generalize hY : 1 + ((d.ks.take (k + 1)).map (cnt σ)).sum = Y at E
      have HY := Lib.hid hY
      clear hX hY e1 e2 e3 e4 s2 hkc HS
      try rw [hA]
      clear hA
      go_wp2_with fail
      refine C.out.mono ?_
      rintro e w1 ⟨rfl, q2, rfl⟩
      have hw : IntKind.i64.wrap ((X : Int) + (cnt σ c : Nat)) = (Y : Int) := by have := E.out; rw [IntWalk.i64_in _ (by omega)]; omega
      clear C
      go_wp2_with fail
      go_roundw
      case rel => exact ⟨k + 1, by omega, by rw [HY.out], by go_num, q + q2, rfl⟩
      case measure => simp [intOf]; omega
    · obtain rfl : k = n := by omega
      go_wp2_with fail
      go_ret
      refine ⟨?_, q, rfl⟩
      rw [HC.out, List.take_of_length_le (by rw [HN.out]; exact Nat.le_refl _)]
      rfl
end
theorem lv_first {σ : Store} {rt i k : Nat} {d : ND} {ks : List Nat} (S : Shp σ rt) (h : σ i = some d) (hk : d.ks = k :: ks) : ∃ c, σ k = some c ∧ c.lv + 1 = d.lv := by
  obtain ⟨c, hc, _, hl⟩ := S.kid i d k h (by rw [hk]; simp)
  exact ⟨c, hc, by omega⟩
set_option maxHeartbeats 1000000 in
set_option maxRecDepth 100000 in
theorem btHeight0_none (w : World) : Calls Try.prog 26 #[.pointer none] w fun e w' => e = .returned (.int .i64 0) ∧ ∃ q, w' = w.drewN q := by
  go_enter Try.func26, Try.ntmps26
  go_wp2_with fail
  go_loopw [0, 3] (fun p v wr => p = .pointer none ∧ v = .int .i64 0 ∧ ∃ q, wr = w.drewN q) (fun _ _ _ => 0)
  case atStart => exact ⟨rfl, rfl, 0, rfl⟩
  case round =>
    obtain ⟨rfl, rfl, q, rfl⟩ := hrel
    go_wp2_with fail
    go_ret
    exact ⟨rfl, q, rfl⟩
set_option maxHeartbeats 1000000 in
set_option maxRecDepth 100000 in
theorem btHeight0_walk {B rt i L : Nat} {w : World} {H : Hd} {o : Ord} {σ : Store} {α : Nat → Arr} {d : ND} (S : Shp σ rt) (s : St w B H o σ α) (h : σ i = some d) (hL : d.lv = L) (hl : L ≤ 100000) :
    Calls Try.prog 26 #[.pointer (some ⟨i, 0, none⟩)] w fun e w' => e = .returned (.int .i64 (L + 1 : Nat)) ∧ ∃ q, w' = w.drewN q := by
  have HS := Lib.hid s
  have SS := Lib.hid S
  have HI := Lib.hid (show ∃ (x : Nat) (xd : ND), σ x = some xd ∧ xd.lv + 0 = L ∧ Value.pointer (some ⟨i, 0, none⟩) = .pointer (some ⟨x, 0, none⟩) from ⟨i, d, h, by omega, rfl⟩)
  clear s S h hL
  go_enter Try.func26, Try.ntmps26
  go_wp2_with fail
  go_loopw [0, 3] (fun p v wr => ∃ k : Nat, v = .int .i64 k ∧ (∃ q, wr = w.drewN q) ∧ ∃ (x : Nat) (xd : ND), σ x = some xd ∧ xd.lv + k = L ∧ p = .pointer (some ⟨x, 0, none⟩)) (fun _ v _ => L + 1 - (intOf v).toNat)
  case atStart => exact ⟨0, rfl, ⟨0, rfl⟩, HI.out⟩
  case round =>
    obtain ⟨k, rfl, ⟨q, rfl⟩, x, xd, hx, hxl, rfl⟩ := hrel
    have s2 := HS.out.drewN q
    have hk := (s2.cells hx).2.2.1
    have hw : IntKind.i64.wrap ((k : Int) + 1) = ((k + 1 : Nat) : Int) := by rw [IntWalk.i64_in _ (by omega)]; omega
    cases hks : xd.ks with
    | nil =>
      have h0 := SS.out.lv0 hx hks
      rw [hks] at hk
      have HE := Lib.hid (show k = L by omega)
      clear h0 hxl hks hx s2
      go_wp2_with fail
      go_ret
      exact ⟨by rw [HE.out]; rfl, q, rfl⟩
    | cons c ks =>
      obtain ⟨cd, hcd, hcl⟩ := lv_first SS.out hx hks
      obtain ⟨g, hA, hg, _⟩ := s2.kid hx (j := 0) (k := c) (by rw [hks]; rfl)
      rw [hks, hA] at hk
      simp only [List.length_cons] at hk
      have HX := Lib.hid (show σ c = some cd ∧ cd.lv + (k + 1) = L from ⟨hcd, by omega⟩)
      have hkL : k + 1 ≤ L := by omega
      clear hks hx s2 hcd hcl hA hxl
      generalize ks.length = len at *
      have h1 : (1 : Int) ≤ (len : Int) + 1 := by omega
      have h0 : ((len : Int) + 1 == 0) = false := by simp; omega
      go_wp2_with fail
      go_roundw
      case rel => exact ⟨k + 1, by go_num, ⟨q, rfl⟩, c, cd, HX.out.1, HX.out.2, rfl⟩
      case measure => simp [intOf]; omega
set_option maxRecDepth 100000 in
theorem btHeight_walk0 (w : World) (tb : Nat) (h : w.cell? ⟨tb, 0, none⟩ = some (.pointer none)) : Calls Try.prog 20 #[.pointer (some ⟨tb, 0, none⟩)] w fun e w' => e = .returned (.int .i64 0) ∧ ∃ q, w' = w.drewN q := by
  go_enter Try.func20, Try.ntmps20
  go_wp2_with fail
  refine (btHeight0_none _).mono ?_
  rintro e w1 ⟨rfl, q, rfl⟩
  go_wp2_with fail
  go_ret
  exact ⟨rfl, q, rfl⟩
set_option maxRecDepth 100000 in
theorem btHeight_walk1 {B rt : Nat} {w : World} {H : Hd} {o : Ord} {σ : Store} {α : Nat → Arr} {d : ND} (S : Shp σ rt) (s : St w B H o σ α) (h : σ rt = some d) (hl : d.lv ≤ 1000) (hc : w.cell? ⟨H.tb, 0, none⟩ = some (.pointer (some ⟨rt, 0, none⟩))) :
    Calls Try.prog 20 #[.pointer (some ⟨H.tb, 0, none⟩)] w fun e w' => e = .returned (.int .i64 (d.lv + 1 : Nat)) ∧ ∃ q, w' = w.drewN q := by
  have C := Lib.hid (btHeight0_walk S s h rfl (by omega))
  clear S s h
  go_enter Try.func20, Try.ntmps20
  go_wp2_with fail
  refine C.out.mono ?_
  rintro e w1 ⟨rfl, q, rfl⟩
  go_wp2_with fail
  go_ret
  exact ⟨rfl, q, rfl⟩
end Go.Proofs.Ytgakapigpiaoiaa.Bt
