import Derived.Test.YtgakapigpiaoiaaBtSpl
import Derived.Test.YtgakapigpiaoiaaBtPures
import Derived.Test.YtgakapigpiaoiaaBtMems
namespace Go.Proofs.Ytgakapigpiaoiaa.Bt
def rankT (o : Ord) (z : Int) (es : KV) : Nat := (es.takeWhile fun p => decide (o.rk p.1 < z)).length
def hitT (o : Ord) (k : Int) (es : KV) : Bool := match es[rankT o (o.rk k) es]? with
  | none => false
  | some p => o.rk p.1 == o.rk k
def insT (m : Int) (o : Ord) (k v : Int) : Nat → List Fr → Tr → Tr
  | 0, c, t => plug c t
  | n + 1, c, t =>
    let j := rankT o (o.rk k) t.es
    if hitT o k t.es = true then plug c (.nd (t.es.set j (k, v)) t.ks)
    else match t.ks[j]? with
      | some t' => insT m o k v n (⟨t.es.take j, t.es.drop j, t.ks.take j, t.ks.drop (j + 1)⟩ :: c) t'
      | none => spl m c (.nd (t.es.insertIdx j (k, v)) t.ks)
section
variable {σ σ' : Store} {rt x i : Nat} {d : ND} {c : List Fr} {m : Int} {o : Ord}
theorem rankT_map (o : Ord) (z : Int) (es : List En) : rankT o z (es.map En.kv) = rank o z es := by
  unfold rankT rank
  rw [List.takeWhile_map, List.length_map]
  rfl
theorem hitT_map (o : Ord) (k : Int) (es : List En) : hitT o k (es.map En.kv) = hit o k es := by
  unfold hitT hit
  rw [rankT_map, List.getElem?_map]
  cases es[rank o (o.rk k) es]? <;> rfl
theorem abs_low (S : Shp σ rt) {l : Nat} (hs : ∀ j d, σ j = some d → d.lv < l → ∃ d', σ' j = some d' ∧ Sm d d') (j : Nat) (d : ND) (h : σ j = some d) (hl : d.lv < l) : abs σ' j = abs σ j := by
  have go : ∀ n, ∀ j d, σ j = some d → d.lv = n → n < l → absN σ' n j = absN σ n j := by
    intro n
    induction n with
    | zero =>
      intro j d h he hl
      obtain ⟨d', h', e1, _⟩ := hs j d h (by omega)
      simp [absN, h, h', e1]
    | succ n ih =>
      intro j d h he hl
      obtain ⟨d', h', e1, e2, _⟩ := hs j d h (by omega)
      simp only [absN, h, h', e1, e2]
      refine absRow_congr fun k hk => ?_
      obtain ⟨c, hc, _, h2⟩ := S.kid j d k h hk
      exact ih k c hc (by omega) (by omega)
  obtain ⟨d', h', _, _, e3⟩ := hs j d h hl
  unfold abs
  rw [h, h']
  simp only [e3]
  exact go d.lv j d h rfl hl
theorem set_es_abs (S : Shp σ rt) (h : σ i = some d) {es : List En} (h1 : σ' i = some { d with es := es }) (ho : ∀ j, j ≠ i → σ' j = σ j) : UpA σ σ' i d.lv ∧ abs σ' i = absRow (abs σ) d.ks es := by
  have kin : ∀ k, k ∈ d.ks → ∃ c, σ k = some c ∧ c.lv + 1 = d.lv ∧ k ≠ i := by
    intro k hk
    obtain ⟨c, hc, _, h2⟩ := S.kid i d k h hk
    refine ⟨c, hc, h2, ?_⟩
    rintro rfl
    rw [h] at hc; injection hc with hc; subst hc; omega
  have low : ∀ j e, σ j = some e → e.lv < d.lv → ∃ d', σ' j = some d' ∧ Sm e d' := by
    intro j e hj hl
    have : j ≠ i := by rintro rfl; rw [h] at hj; injection hj with hj; subst hj; omega
    exact ⟨e, by rw [ho j this]; exact hj, Sm.refl e⟩
  constructor
  · have A : Off σ σ' i := fun j e hj hne _ => ⟨e, by rw [ho j hne]; exact hj, Sm.refl e⟩
    exact A.upA S h h1 rfl
  · have := abs_kids (σ := σ) (σ' := σ') (i := i) (d := { d with es := es }) (fun k hk => by
      obtain ⟨c, hc, h2, h3⟩ := kin k hk
      exact ⟨c, by rw [ho k h3]; exact hc, h2⟩) (fun h0 => S.leaf i d h h0) h1 (fun k hk => by
      obtain ⟨c, hc, h2, _⟩ := kin k hk
      exact abs_low S low k c hc (by omega))
    simpa using this
theorem map_insertIdx {α β : Type} (f : α → β) (l : List α) (n : Nat) (a : α) : (l.insertIdx n a).map f = (l.map f).insertIdx n (f a) := by
  induction n generalizing l with
  | zero => simp
  | succ n ih =>
    cases l with
    | nil => simp
    | cons b l => simp [ih]
theorem insT_hit (S : Shp σ rt) (h : σ x = some d) {en : En} (hh : hit o en.k d.es = true) (n : Nat) (a : APath σ rt x c) :
    abs (upd σ x (some { d with es := d.es.set (rank o (o.rk en.k) d.es) en })) rt = insT m o en.k en.v (n + 1) c (abs σ x) := by
  obtain ⟨u, e1⟩ := set_es_abs (σ' := upd σ x (some { d with es := d.es.set (rank o (o.rk en.k) d.es) en })) S h (upd_at _ _ _) (fun j hj => upd_ne _ _ hj)
  rw [(a.keep S h u).2, e1, abs_row S h]
  unfold insT absRow Tr.es Tr.ks
  simp only [hitT_map, rankT_map, hh, if_true]
  rw [List.map_set]
  rfl
theorem insT_leaf (S : Shp σ rt) (h : σ x = some d) (h0 : d.lv = 0) {en : En} (hh : hit o en.k d.es = false) (n : Nat) (a : APath σ rt x c) :
    APath (upd σ x (some { d with es := d.es.insertIdx (rank o (o.rk en.k) d.es) en })) rt x c ∧ spl m c (abs (upd σ x (some { d with es := d.es.insertIdx (rank o (o.rk en.k) d.es) en })) x) = insT m o en.k en.v (n + 1) c (abs σ x) := by
  obtain ⟨u, e1⟩ := set_es_abs (σ' := upd σ x (some { d with es := d.es.insertIdx (rank o (o.rk en.k) d.es) en })) S h (upd_at _ _ _) (fun j hj => upd_ne _ _ hj)
  refine ⟨(a.keep S h u).1, ?_⟩
  rw [e1, abs_row S h]
  unfold insT absRow Tr.es Tr.ks
  simp only [hitT_map, rankT_map, hh]
  rw [S.leaf x d h h0, map_insertIdx]
  simp [En.kv]
theorem insT_down (S : Shp σ rt) (h : σ x = some d) {k v : Int} (hh : hit o k d.es = false) {y : Nat} (hy : d.ks[rank o (o.rk k) d.es]? = some y) (n : Nat) (a : APath σ rt x c) :
    ∃ f, APath σ rt y (f :: c) ∧ insT m o k v (n + 1) c (abs σ x) = insT m o k v n (f :: c) (abs σ y) := by
  have hk := getElem?_split hy
  have hlt := (List.getElem?_eq_some_iff.1 hy).1
  have hr := rank_le o (o.rk k) d.es
  have hl : (d.ks.take (rank o (o.rk k) d.es)).length = (d.es.take (rank o (o.rk k) d.es)).length := by rw [List.length_take, List.length_take]; omega
  refine ⟨_, a.down h hk (List.take_append_drop _ _).symm hl, ?_⟩
  rw [abs_row S h]
  conv => lhs; unfold insT absRow Tr.es Tr.ks
  simp only [hitT_map, rankT_map, hh, List.getElem?_map, hy, Option.map_some]
  simp [List.map_take, List.map_drop]
end
end Go.Proofs.Ytgakapigpiaoiaa.Bt
