import Derived.Test.YtgakapigpiaoiaaBtBlocks
import Derived.Test.YtgakapigpiaoiaaBtList
import Derived.Test.YtgakapigpiaoiaaBtTops
namespace Go.Proofs.Ytgakapigpiaoiaa.Bt
open Go.RowKit Go.Proofs.Ytgakapigpiaoiaa
def ShapeOf (m : Int) (l : KV) (L : List BK) (h : Nat) : Prop :=
  (l = [] ∧ L = [] ∧ h = 0) ∨ ∃ (σ : Store) (rt : Nat) (r : ND), Shp σ rt ∧ σ rt = some r ∧ Fit σ m rt ∧ nk σ rt = l ∧ L = bks σ rt 0 (-1) ∧ h = r.lv + 1
theorem BtAt.shape {m : Int} {o : Ord} {B : Nat} {w : World} {H : Hd} {σ : Store} {α : Nat → Arr} {l : KV} (h : BtAt m o B w H σ α l) (hl : l.length ≤ 1000) :
    (H.root = Option.none ∧ ShapeOf m l [] 0) ∨ ∃ rt r, H.root = Option.some rt ∧ Shp σ rt ∧ σ rt = some r ∧ ShapeOf m l (bks σ rt 0 (-1)) (r.lv + 1) ∧ (bks σ rt 0 (-1)).length = cnt σ rt ∧ cnt σ rt ≤ 1000 ∧ r.lv ≤ 1000 ∧ (∀ i d, σ i = some d → d.es.length ≤ 1000) ∧ UpOk σ rt (-1) := by
  rcases h.rooted with ⟨h1, h2⟩ | ⟨rt, h1, S, h3, h4⟩
  · exact .inl ⟨h1, .inl ⟨h2, rfl, rfl⟩⟩
  · obtain ⟨r, hr, hp⟩ := S.root
    have hfe : ∀ i d, σ i = some d → d.es.length ≤ 1000 := fun i d hi => by have := (h4 i d hi).1; have := h.m3; omega
    have hc : cnt σ rt ≤ 1000 := by
      have := cnt_le S (fun i d hi => (h4 i d hi).2.2) rt r hr
      rw [h3] at this
      omega
    refine .inr ⟨rt, r, h1, S, hr, .inr ⟨σ, rt, r, S, hr, by rw [← h.hm]; exact h4, h3, rfl, rfl⟩, bks_length S rt r hr 0 (-1), hc, ?_, hfe, ⟨r, hr, .inl ⟨hp, rfl⟩⟩⟩
    have := lv_lt_cnt S rt r hr
    omega
theorem blocks_nil (A : Option Addr) (cap n : Nat) (u : Int) (w : World) : Calls Try.prog 16 #[.slice A n cap, .pointer none, .int .i64 u] w fun e w' => e = .returned (.tuple #[.slice A n cap, .int .i64 (-1)]) ∧ w' = w := by
  go_enter Try.func16, Try.ntmps16
  go_wp2_with fail
  go_ret2
  exact ⟨rfl, rfl⟩
end Go.Proofs.Ytgakapigpiaoiaa.Bt
