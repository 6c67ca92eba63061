/-
  The plain side of the B-tree's shape: where each node stands in the list; what the reference's checks find. No program is in sight here.
-/
import Derived.Test.YtgakapigpiaoiaaBtBks
import Derived.Test.YtgakapigpiaoiaaBtSplitR
namespace Go.Proofs.Ytgakapigpiaoiaa.Bt

section
variable {σ : Store} {rt i n : Nat} {d : ND} {u : Int} {L : List BK} {m : Int}

theorem SubB.self (σ : Store) (i : Nat) (u : Int) : SubB (bks σ i 0 u) σ i 0 u := ⟨[], [], by simp, rfl⟩
/-- Each number of a node's list is that of a node at it or below it. -/
theorem sub_each (S : Shp σ rt) : ∀ i d, σ i = some d → ∀ (n : Nat) (u : Int), SubB L σ i n u → ∀ j, j < cnt σ i → ∃ (x : Nat) (xd : ND) (v : Int), σ x = some xd ∧ SubB L σ x (n + j) v := by
  refine lv_ind S fun i d h ih n u s j hj => ?_
  cases j with
  | zero => exact ⟨i, d, u, h, s⟩
  | succ j =>
    rw [cnt_row S h] at hj
    have go : ∀ kR kL : List Nat, d.ks = kL ++ kR → ∀ j, j < (kR.map (cnt σ)).sum → ∃ (x : Nat) (xd : ND) (v : Int), σ x = some xd ∧ SubB L σ x (n + 1 + (kL.map (cnt σ)).sum + j) v := by
      intro kR
      induction kR with
      | nil => intro kL _ j hj; simp at hj
      | cons k kR ihk =>
        intro kL hk j hj
        obtain ⟨_, sk⟩ := s.kid S h hk
        obtain ⟨c, hc⟩ := kids_some S h k (by rw [hk]; simp)
        rcases Nat.lt_or_ge j (cnt σ k) with hlt | hge
        · exact ih k (by rw [hk]; simp) _ _ sk j hlt
        · obtain ⟨x, xd, v, h1, h2⟩ := ihk (kL ++ [k]) (by rw [hk]; simp) (j - cnt σ k) (by simp only [List.map_cons, List.sum_cons] at hj; omega)
          refine ⟨x, xd, v, h1, ?_⟩
          have e : n + 1 + ((kL ++ [k]).map (cnt σ)).sum + (j - cnt σ k) = n + 1 + (kL.map (cnt σ)).sum + j := by simp; omega
          rw [← e]; exact h2
    obtain ⟨x, xd, v, h1, h2⟩ := go d.ks [] rfl j (by omega)
    refine ⟨x, xd, v, h1, ?_⟩
    have e : n + 1 + (([] : List Nat).map (cnt σ)).sum + j = n + (j + 1) := by simp; omega
    rw [← e]; exact h2

/-- What Filled looks at holds of each. -/
structure FillsB (m : Int) (j : Nat) (b : BK) : Prop where
  kids : (b.kids.length : Int) ≤ m
  least0 : j = 0 → 0 < b.kids.length → 2 ≤ b.kids.length
  least : j ≠ 0 → 0 < b.kids.length → (m + 1) / 2 ≤ (b.kids.length : Int)
  keys : (b.keys.length : Int) ≤ m - 1
  leaf : j ≠ 0 → b.kids.length = 0 → (m + 1) / 2 - 1 ≤ (b.keys.length : Int)
  some : 1 ≤ b.keys.length
theorem bks_fills (S : Shp σ rt) (hf : Fit σ m rt) (h : σ i = some d) (hi : i = rt) {j : Nat} {b : BK} (hb : (bks σ i 0 u)[j]? = some b) : FillsB m j b := by
  obtain ⟨x, xd, hx, e1, _, e3, _, h5, h6⟩ := bks_all S i d h 0 u j b hb
  obtain ⟨f1, f2, f3⟩ := hf x xd hx
  have hne : j ≠ 0 → x ≠ rt := by
    intro hj e
    subst e
    obtain ⟨r, hr, hp⟩ := S.root
    rw [hx] at hr; injection hr with hr; subst hr
    exact h5 (by omega) hp
  have hk : b.keys.length = xd.es.length := by rw [e1, List.length_map]
  have hin : 0 < xd.ks.length → xd.ks.length = xd.es.length + 1 := by
    intro h0
    rcases Nat.eq_zero_or_pos xd.lv with hl | hl
    · have := S.leaf x xd hx hl
      rw [this] at h0; simp at h0
    · exact S.inner x xd hx hl
  refine ⟨?_, fun _ h0 => ?_, fun hj h0 => ?_, by omega, fun hj h0 => ?_, by omega⟩
  · rcases Nat.eq_zero_or_pos xd.ks.length with h0 | h0
    · omega
    · have := hin h0; omega
  · have := hin (by omega); omega
  · have := hin (by omega); have := f2 (hne hj); omega
  · have := f2 (hne hj); omega

/-- A node's row by its first child and entry. -/
theorem rowKvs_step (f : Nat → KV) (ks : List Nat) (es : List En) (j k : Nat) (hk : ks[j]? = some k) (hl : ks.length = es.length + 1) :
    rowKvs f (ks.drop j) (es.drop j) = f k ++ (match es[j]? with | some e => [e.kv] | none => []) ++ (if j + 1 < ks.length then rowKvs f (ks.drop (j + 1)) (es.drop (j + 1)) else []) := by
  have hj := (List.getElem?_eq_some_iff.1 hk).1
  have hk' := (List.getElem?_eq_some_iff.1 hk).2
  rw [List.drop_eq_getElem_cons hj, hk']
  rcases Nat.lt_or_ge j es.length with hlt | hge
  · rw [List.drop_eq_getElem_cons hlt, List.getElem?_eq_getElem hlt, if_pos (by omega)]
    simp [rowKvs]
  · rw [List.drop_eq_nil_of_le hge, List.getElem?_eq_none hge, if_neg (by omega)]
    simp [rowKvs]
end
end Go.Proofs.Ytgakapigpiaoiaa.Bt
