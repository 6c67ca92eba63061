import Derived.Test.YtgakapigpiaoiaaBtWays
namespace Go.Proofs.Ytgakapigpiaoiaa.Bt
structure BK where
  up : Int
  keys : List Int
  vals : List Int
  kids : List Int
  size : Int
def cntN (σ : Store) : Nat → Nat → Nat
  | 0, _ => 1
  | n + 1, i => match σ i with
    | none => 1
    | some d => 1 + (d.ks.map (cntN σ n)).sum
def cnt (σ : Store) (i : Nat) : Nat := match σ i with
  | none => 1
  | some d => cntN σ d.lv i
def posB (g : Nat → Nat) : Nat → List Nat → List Int
  | _, [] => []
  | p, k :: ks => (p : Int) :: posB g (p + g k) ks
def rowB (f : Nat → Nat → Int → List BK) (g : Nat → Nat) (u : Int) : Nat → List Nat → List BK
  | _, [] => []
  | p, k :: ks => f k p u ++ rowB f g u (p + g k) ks
def bksN (σ : Store) : Nat → Nat → Nat → Int → List BK
  | 0, i, n, u => match σ i with
    | none => []
    | some d => [⟨u, d.es.map En.k, d.es.map En.v, posB (cnt σ) (n + 1) d.ks, cnt σ i⟩]
  | h + 1, i, n, u => match σ i with
    | none => []
    | some d => ⟨u, d.es.map En.k, d.es.map En.v, posB (cnt σ) (n + 1) d.ks, cnt σ i⟩ :: rowB (bksN σ h) (cnt σ) n (n + 1) d.ks
def bks (σ : Store) (i n : Nat) (u : Int) : List BK := match σ i with
  | none => []
  | some d => bksN σ d.lv i n u
section
variable {σ : Store} {rt i p n : Nat} {d q : ND} {f f' : Nat → Nat → Int → List BK} {g g' : Nat → Nat} {u : Int} {ks : List Nat}
theorem rowB_congr (h : ∀ k ∈ ks, ∀ n u, f k n u = f' k n u) : rowB f g u p ks = rowB f' g u p ks := by
  induction ks generalizing p with
  | nil => rfl
  | cons k ks ih => simp only [rowB]; rw [h k (by simp), ih fun k' hk' => h k' (by simp [hk'])]
theorem posB_length : (posB g p ks).length = ks.length := by
  induction ks generalizing p with
  | nil => rfl
  | cons k ks ih => simp [posB, ih]
theorem posB_append (l r : List Nat) : posB g p (l ++ r) = posB g p l ++ posB g (p + (l.map g).sum) r := by
  induction l generalizing p with
  | nil => simp [posB]
  | cons k l ih => simp only [List.cons_append, posB, ih, List.map_cons, List.sum_cons, Nat.add_assoc]
theorem rowB_append (l r : List Nat) : rowB f g u p (l ++ r) = rowB f g u p l ++ rowB f g u (p + (l.map g).sum) r := by
  induction l generalizing p with
  | nil => simp [rowB]
  | cons k l ih => simp only [List.cons_append, rowB, ih, List.map_cons, List.sum_cons, Nat.add_assoc, List.append_assoc]
theorem rowB_length (h : ∀ k ∈ ks, ∀ n u, (f k n u).length = g k) : (rowB f g u p ks).length = (ks.map g).sum := by
  induction ks generalizing p with
  | nil => rfl
  | cons k ks ih => simp only [rowB, List.length_append, List.map_cons, List.sum_cons]; rw [h k (by simp), ih fun k' hk' => h k' (by simp [hk'])]
theorem map_congr' {β γ : Type} {l : List β} {f g : β → γ} (h : ∀ x ∈ l, f x = g x) : l.map f = l.map g := List.map_congr_left h
theorem cnt_row (S : Shp σ rt) (h : σ i = some d) : cnt σ i = 1 + (d.ks.map (cnt σ)).sum := by
  unfold cnt
  rw [h]
  simp only
  cases hl : d.lv with
  | zero => rw [S.leaf i d h hl]; rfl
  | succ l =>
    simp only [cntN, h]
    rw [map_congr' fun k hk => ?_]
    obtain ⟨c, hc, _, h2⟩ := S.kid i d k h hk
    rw [hc]
    simp only
    rw [show c.lv = l by omega]
theorem bks_row (S : Shp σ rt) (h : σ i = some d) : bks σ i n u = ⟨u, d.es.map En.k, d.es.map En.v, posB (cnt σ) (n + 1) d.ks, cnt σ i⟩ :: rowB (bks σ) (cnt σ) n (n + 1) d.ks := by
  conv => lhs; unfold bks
  rw [h]
  simp only
  cases hl : d.lv with
  | zero => simp only [bksN, h]; rw [S.leaf i d h hl]; rfl
  | succ l =>
    simp only [bksN, h]
    rw [rowB_congr fun k hk n u => ?_]
    obtain ⟨c, hc, _, h2⟩ := S.kid i d k h hk
    unfold bks
    rw [hc]
    simp only
    rw [show c.lv = l by omega]
theorem lv_ind {P : Nat → Prop} (S : Shp σ rt) (st : ∀ i d, σ i = some d → (∀ k ∈ d.ks, P k) → P i) : ∀ i d, σ i = some d → P i := by
  suffices hh : ∀ n, ∀ i d, σ i = some d → d.lv = n → P i from fun i d h => hh _ i d h rfl
  intro n
  induction n with
  | zero => exact fun i d h h0 => st i d h fun k hk => by rw [S.leaf i d h h0] at hk; simp at hk
  | succ n ih =>
    intro i d h hl
    refine st i d h fun k hk => ?_
    obtain ⟨c, hc, _, h2⟩ := S.kid i d k h hk
    exact ih k c hc (by omega)
theorem bks_length (S : Shp σ rt) : ∀ i d, σ i = some d → ∀ n u, (bks σ i n u).length = cnt σ i := by
  refine lv_ind S fun i d h ih n u => ?_
  rw [bks_row S h, cnt_row S h, List.length_cons, rowB_length ih]
  omega
theorem cnt_pos (S : Shp σ rt) (h : σ i = some d) : 1 ≤ cnt σ i := by
  rw [cnt_row S h]; omega
theorem kids_some (S : Shp σ rt) (h : σ i = some d) : ∀ k ∈ d.ks, ∃ c, σ k = some c := fun k hk => by
  obtain ⟨c, hc, _⟩ := S.kid i d k h hk
  exact ⟨c, hc⟩
structure SubB (L : List BK) (σ : Store) (i n : Nat) (u : Int) : Prop where
  ex : ∃ P Q, L = P ++ (bks σ i n u ++ Q) ∧ P.length = n
theorem SubB.here (S : Shp σ rt) {L : List BK} (s : SubB L σ i n u) (h : σ i = some d) : L[n]? = some ⟨u, d.es.map En.k, d.es.map En.v, posB (cnt σ) (n + 1) d.ks, cnt σ i⟩ := by
  obtain ⟨P, Q, rfl, rfl⟩ := s.ex
  rw [bks_row S h, List.getElem?_append_right (Nat.le_refl _)]
  simp
theorem SubB.lt (S : Shp σ rt) {L : List BK} (s : SubB L σ i n u) (h : σ i = some d) : n < L.length := (List.getElem?_eq_some_iff.1 (s.here S h)).1
theorem SubB.kid (S : Shp σ rt) {L : List BK} (s : SubB L σ i n u) (h : σ i = some d) {kL kR : List Nat} {k : Nat} (hk : d.ks = kL ++ k :: kR) :
    (posB (cnt σ) (n + 1) d.ks)[kL.length]? = some ((n + 1 + (kL.map (cnt σ)).sum : Nat) : Int) ∧ SubB L σ k (n + 1 + (kL.map (cnt σ)).sum) n := by
  constructor
  · rw [hk, posB_append, List.getElem?_append_right (by rw [posB_length]; exact Nat.le_refl _), posB_length, Nat.sub_self]
    simp [posB]
  · obtain ⟨P, Q, rfl, rfl⟩ := s.ex
    have hl := rowB_length (f := bks σ) (g := cnt σ) (u := (P.length : Int)) (p := P.length + 1) (ks := kL) (fun k' hk' n' u' => by
      obtain ⟨c, hc⟩ := kids_some S h k' (by rw [hk]; simp [hk'])
      exact bks_length S k' c hc n' u')
    rw [bks_row S h, hk, rowB_append]
    simp only [rowB]
    refine ⟨⟨P ++ ⟨u, d.es.map En.k, d.es.map En.v, posB (cnt σ) (P.length + 1) (kL ++ k :: kR), cnt σ i⟩ :: rowB (bks σ) (cnt σ) P.length (P.length + 1) kL, rowB (bks σ) (cnt σ) P.length (P.length + 1 + (kL.map (cnt σ)).sum + cnt σ k) kR ++ Q, by simp, ?_⟩⟩
    rw [List.length_append, List.length_cons, hl]; omega
theorem nk_length (S : Shp σ rt) (h : σ i = some d) : (nk σ i).length = d.es.length + (d.ks.map fun k => (nk σ k).length).sum := by
  rw [nk_row S h]
  have go : ∀ (ks : List Nat) (es : List En), (ks = [] ∨ ks.length = es.length + 1) → (rowKvs (nk σ) ks es).length = es.length + (ks.map fun k => (nk σ k).length).sum := by
    intro ks
    induction ks with
    | nil => intro es _; simp [rowKvs]
    | cons k ks ih =>
      intro es hl
      cases es with
      | nil =>
        have : ks = [] := by rcases hl with hl | hl; cases hl; simpa using hl
        subst this
        simp [rowKvs]
      | cons e es =>
        simp only [rowKvs, List.length_append, List.length_cons, List.map_cons, List.sum_cons]
        have hl' : ks.length = es.length + 1 := by rcases hl with hl | hl; cases hl; simpa using hl
        rw [ih es (.inr hl')]
        omega
  refine go d.ks d.es ?_
  rcases Nat.eq_zero_or_pos d.lv with h0 | h0
  · exact .inl (S.leaf i d h h0)
  · exact .inr (S.inner i d h h0)
theorem cnt_le (S : Shp σ rt) (hf : ∀ i d, σ i = some d → 1 ≤ d.es.length) : ∀ i d, σ i = some d → cnt σ i ≤ (nk σ i).length := by
  refine lv_ind S fun i d h ih => ?_
  rw [cnt_row S h, nk_length S h]
  have := hf i d h
  have go : ∀ ks : List Nat, (∀ k ∈ ks, k ∈ d.ks) → (ks.map (cnt σ)).sum ≤ (ks.map fun k => (nk σ k).length).sum := by
    intro ks
    induction ks with
    | nil => intro _; simp
    | cons k ks ihk =>
      intro hks
      simp only [List.map_cons, List.sum_cons]
      have h1 := ih k (hks k (by simp))
      have h2 := ihk fun k' hk' => hks k' (by simp [hk'])
      omega
  have := go d.ks fun _ hk => hk
  omega
theorem lv_lt_cnt (S : Shp σ rt) : ∀ i d, σ i = some d → d.lv < cnt σ i := by
  have : ∀ i d, σ i = some d → ∀ e, σ i = some e → e.lv < cnt σ i := by
    refine lv_ind (P := fun i => ∀ e, σ i = some e → e.lv < cnt σ i) S fun i d h ih e he => ?_
    rw [h] at he; injection he with he; subst he
    rw [cnt_row S h]
    cases hks : d.ks with
    | nil => rw [S.lv0 h hks]; simp
    | cons k ks =>
      obtain ⟨c, hc, _, hl⟩ := S.kid i d k h (by rw [hks]; simp)
      have := ih k (by rw [hks]; simp) c hc
      simp only [List.map_cons, List.sum_cons]
      omega
  exact fun i d h => this i d h d h
end
end Go.Proofs.Ytgakapigpiaoiaa.Bt
