import Derived.Test.YtgakapigpiaoiaaSpecCounts
namespace Go.Proofs.Ytgakapigpiaoiaa.Bt
open Go.RowKit Go.Proofs.Ytgakapigpiaoiaa
section
variable {σ : Store} {rt : Nat}
theorem nk_le_cnt (S : Shp σ rt) (hf : ∀ i d, σ i = some d → d.es.length ≤ 63) : ∀ i d, σ i = some d → (nk σ i).length ≤ 63 * cnt σ i := by
  refine lv_ind S fun i d h ih => ?_
  rw [cnt_row S h, nk_length S h]
  have := hf i d h
  have go : ∀ ks : List Nat, (∀ k ∈ ks, k ∈ d.ks) → (ks.map fun k => (nk σ k).length).sum ≤ 63 * (ks.map (cnt σ)).sum := by
    intro ks
    induction ks with
    | nil => intro _; simp
    | cons k ks ihk =>
      intro hks
      simp only [List.map_cons, List.sum_cons]
      have h1 := ih k (hks k (by simp))
      have h2 := ihk fun k' hk' => hks k' (by simp [hk'])
      omega
  have := go d.ks fun _ hk => hk
  omega
theorem SubB.cnt_le (S : Shp σ rt) {L : List BK} {i n : Nat} {d : ND} {u : Int} (s : SubB L σ i n u) (h : σ i = some d) : cnt σ i ≤ L.length := by
  obtain ⟨P, Q, rfl, _⟩ := s.ex
  have := bks_length S i d h n u
  simp only [List.length_append]
  omega
end
theorem sizes_at {m : Int} {l : KV} {L : List BK} {h : Nat} (sh : ShapeOf m l L h) (hm : m ≤ 64) (n : Nat) (hn : L.length = n) (hn1 : n ≤ 1000) {w : World} {C : Nat} (cap : Nat) (A : Option Addr) {j : Nat} {x : BK} (hx : L[j]? = some x) (la : ListAt w C A L) :
    Calls Try.prog 14 #[.slice A n cap, .int .i64 j, .int .i64 n] w fun e w' => ∃ xe : Int, e = .returned (.tuple #[.int .i64 xe, .int .i64 x.size]) ∧ ∃ q, w' = w.drewN q := by
  rcases sh with ⟨rfl, rfl, rfl⟩ | ⟨σ, rt, r, S, hrt, hf, rfl, rfl, rfl⟩
  · simp at hx
  · have hfe : ∀ i d, σ i = some d → d.es.length ≤ 63 := fun i d hi => by have := (hf i d hi).1; omega
    have hj := (List.getElem?_eq_some_iff.1 hx).1
    have hlen := bks_length S rt r hrt 0 (-1)
    obtain ⟨y, yd, v, hy, sy⟩ := sub_each S rt r hrt 0 (-1) (SubB.self σ rt (-1)) j (by omega)
    rw [Nat.zero_add] at sy
    have hh := sy.here S hy
    rw [hx] at hh
    injection hh with hh
    have hly : lvOf σ y = yd.lv := by unfold lvOf; rw [hy]
    have h1 := lv_lt_cnt S y yd hy
    have h2 := sy.cnt_le S hy
    have h3 := nk_le_cnt S hfe y yd hy
    have hxs : x.size = (cnt σ y : Int) := by rw [hh]
    rw [hxs]
    refine (counts_walk S (fun i d hi => by have := hfe i d hi; omega) n cap A hn y yd hy j v n w C sy (by rw [hly]; omega) (by omega) la (by omega) (by omega)).mono ?_
    rintro e w' ⟨rfl, q, rfl⟩
    exact ⟨_, rfl, q, rfl⟩
end Go.Proofs.Ytgakapigpiaoiaa.Bt
