import Derived.Test.YtgakapigpiaoiaaBtAbs
import Derived.Test.YtgakapigpiaoiaaBtPures
namespace Go.Proofs.Ytgakapigpiaoiaa.Bt
section
variable {σ σ' : Store} {rt i p : Nat} {d q q' : ND} {kL X kR : List Nat} {Y : List (Nat × ND)} {es' : List En}
theorem Seg.abs (S : Shp σ rt) (s : Seg σ σ' p q kL X kR Y es') : Bt.abs σ' p = .nd (es'.map En.kv) (kL.map (Bt.abs σ) ++ (Y.map (fun y => absRow (Bt.abs σ) y.2.ks y.2.es) ++ kR.map (Bt.abs σ))) ∧ UpA σ σ' p q.lv := by
  have u := s.surg S
  refine ⟨?_, u.upA S⟩
  rw [abs_row (u.shp S) s.hp]
  unfold absRow
  simp only [List.map_append, List.map_map]
  rw [List.map_congr_left (f := Bt.abs σ') (g := Bt.abs σ) (l := kL) fun k hk => s.old_abs S (.inl hk)]
  rw [List.map_congr_left (f := Bt.abs σ') (g := Bt.abs σ) (l := kR) fun k hk => s.old_abs S (.inr hk)]
  rw [List.map_congr_left (f := Bt.abs σ' ∘ Prod.fst) (g := fun y => Tr.nd (y.2.es.map En.kv) (y.2.ks.map (Bt.abs σ))) (l := Y) fun y hy => s.new_abs S hy]
end
section
variable {σ σ' : Store} {rt x p l r a b n nr : Nat} {d q da db : ND} {kL kR kA kB : List Nat} {eL eR eA eB : List En} {e f : En}
theorem split_abs (S : Shp σ rt) (hx : σ x = some d) (hq : σ p = some q) (_hes : d.es = eA ++ e :: eB) (hks : d.ks = kA ++ kB) (hc : Cut d.lv kA kB eA eB)
    (hqk : q.ks = kL ++ x :: kR) (hqe : q.es = eL ++ eR) (hlen : kL.length = eL.length) (hl0 : σ l = none) (hr0 : σ r = none) (hlr : l ≠ r)
    (h_l : σ' l = some ⟨some p, eA, kA, d.lv⟩) (h_r : σ' r = some ⟨some p, eB, kB, d.lv⟩) (h_p : σ' p = some ⟨q.par, eL ++ e :: eR, kL ++ l :: r :: kR, q.lv⟩) (h_x : σ' x = none)
    (hgA : ∀ g ∈ kA, ∀ gd, σ g = some gd → σ' g = some { gd with par := some l }) (hgB : ∀ g ∈ kB, ∀ gd, σ g = some gd → σ' g = some { gd with par := some r })
    (off : ∀ j, j ≠ p → j ≠ x → j ≠ l → j ≠ r → j ∉ kA → j ∉ kB → σ' j = σ j) :
    abs σ' p = .nd ((eL ++ e :: eR).map En.kv) (kL.map (abs σ) ++ absRow (abs σ) kA eA :: absRow (abs σ) kB eB :: kR.map (abs σ)) ∧ UpA σ σ' p q.lv := by
  obtain ⟨hpar, hlv⟩ := S.kidOf hq (by rw [hqk]; simp) hx
  have hxl : x ≠ l := fun e => by rw [e, hl0] at hx; cases hx
  have hxr : x ≠ r := fun e => by rw [e, hr0] at hx; cases hx
  have hkso : ksOf σ x = kA ++ kB := by unfold ksOf; rw [hx]; exact hks
  have s : Seg σ σ' p q kL [x] kR [(l, ⟨some p, eA, kA, d.lv⟩), (r, ⟨some p, eB, kB, d.lv⟩)] (eL ++ e :: eR) := by
    refine ⟨hq, by simpa using hqk, by simpa using h_p, by simp, ?_, ?_, by simpa using hlr, by simp [hkso], ?_, ?_, ?_⟩
    · have := S.inner p q hq (by omega)
      rw [hqk, hqe] at this
      simp only [List.length_append, List.length_cons] at this
      simp; omega
    · intro y hy
      simp only [List.mem_cons, List.not_mem_nil, or_false] at hy
      rcases hy with rfl | rfl
      · refine ⟨h_l, rfl, hlv, fun h0 => ?_, fun h0 => ?_, .inr hl0⟩
        · rcases hc with ⟨_, h1, _⟩ | ⟨h1, _⟩
          · exact h1
          · simp only at h0; omega
        · rcases hc with ⟨h1, _⟩ | ⟨_, h1, _⟩
          · simp only at h0; omega
          · exact h1
      · refine ⟨h_r, rfl, hlv, fun h0 => ?_, fun h0 => ?_, .inr hr0⟩
        · rcases hc with ⟨_, _, h1⟩ | ⟨h1, _⟩
          · exact h1
          · simp only at h0; omega
        · rcases hc with ⟨h1, _⟩ | ⟨_, _, h1⟩
          · simp only at h0; omega
          · exact h1
    · intro y hy g hg gd hgd
      simp only [List.mem_cons, List.not_mem_nil, or_false] at hy
      rcases hy with rfl | rfl
      · exact hgA g hg gd hgd
      · exact hgB g hg gd hgd
    · intro y hy _
      simp only [List.mem_singleton] at hy
      subst hy; exact h_x
    · intro j h1 h2 h3 h4
      simp only [List.map_cons, List.map_nil, List.mem_cons, List.not_mem_nil, or_false, not_or] at h2 h3
      simp only [List.map_cons, List.map_nil, List.flatten_cons, List.flatten_nil, List.append_nil, hkso, List.mem_append, not_or] at h4
      exact off j h1 h2 h3.1 h3.2 h4.1 h4.2
  have h := s.abs S
  simpa using h
theorem recut_abs (S : Shp σ rt) (ha : σ a = some da) (hb : σ b = some db) (hq : σ p = some q) (hqk : q.ks = kL ++ a :: b :: kR) (hqe : q.es = eL ++ e :: eR) (_hlen : kL.length = eL.length)
    {ea eb : List En} {ka kb : List Nat} (_he : da.es ++ e :: db.es = ea ++ f :: eb) (hk : da.ks ++ db.ks = ka ++ kb) (hc : Cut da.lv ka kb ea eb)
    (h_a : σ' a = some ⟨some p, ea, ka, da.lv⟩) (h_b : σ' b = some ⟨some p, eb, kb, da.lv⟩) (h_p : σ' p = some ⟨q.par, eL ++ f :: eR, q.ks, q.lv⟩)
    (hgA : ∀ g ∈ ka, ∀ gd, σ g = some gd → σ' g = some { gd with par := some a }) (hgB : ∀ g ∈ kb, ∀ gd, σ g = some gd → σ' g = some { gd with par := some b })
    (off : ∀ j, j ≠ p → j ≠ a → j ≠ b → j ∉ ka → j ∉ kb → σ' j = σ j) :
    abs σ' p = .nd ((eL ++ f :: eR).map En.kv) (kL.map (abs σ) ++ absRow (abs σ) ka ea :: absRow (abs σ) kb eb :: kR.map (abs σ)) ∧ UpA σ σ' p q.lv := by
  obtain ⟨hpa, hla⟩ := S.kidOf hq (by rw [hqk]; simp) ha
  obtain ⟨hpb, hlb⟩ := S.kidOf hq (by rw [hqk]; simp) hb
  have hab : a ≠ b := by
    have := S.nd p q hq
    rw [hqk, List.nodup_append] at this
    have := (List.nodup_cons.1 this.2.1).1
    simp only [List.mem_cons, not_or] at this
    exact this.1
  have hka : ksOf σ a = da.ks := by unfold ksOf; rw [ha]
  have hkb : ksOf σ b = db.ks := by unfold ksOf; rw [hb]
  have s : Seg σ σ' p q kL [a, b] kR [(a, ⟨some p, ea, ka, da.lv⟩), (b, ⟨some p, eb, kb, da.lv⟩)] (eL ++ f :: eR) := by
    refine ⟨hq, by simpa using hqk, by rw [h_p, hqk]; simp, by simp, ?_, ?_, by simpa using hab, by simp [hka, hkb, hk], ?_, ?_, ?_⟩
    · have := S.inner p q hq (by omega)
      rw [hqk, hqe] at this
      simp only [List.length_append, List.length_cons] at this
      simp; omega
    · intro y hy
      simp only [List.mem_cons, List.not_mem_nil, or_false] at hy
      rcases hy with rfl | rfl
      · refine ⟨h_a, rfl, hla, fun h0 => ?_, fun h0 => ?_, .inl (by simp)⟩
        · rcases hc with ⟨_, h1, _⟩ | ⟨h1, _⟩
          · exact h1
          · simp only at h0; omega
        · rcases hc with ⟨h1, _⟩ | ⟨_, h1, _⟩
          · simp only at h0; omega
          · exact h1
      · refine ⟨h_b, rfl, hla, fun h0 => ?_, fun h0 => ?_, .inl (by simp)⟩
        · rcases hc with ⟨_, _, h1⟩ | ⟨h1, _⟩
          · exact h1
          · simp only at h0; omega
        · rcases hc with ⟨h1, _⟩ | ⟨_, _, h1⟩
          · simp only at h0; omega
          · exact h1
    · intro y hy g hg gd hgd
      simp only [List.mem_cons, List.not_mem_nil, or_false] at hy
      rcases hy with rfl | rfl
      · exact hgA g hg gd hgd
      · exact hgB g hg gd hgd
    · intro y hy hn
      simp only [List.mem_cons, List.not_mem_nil, or_false] at hy
      exact absurd (by rcases hy with rfl | rfl <;> simp) hn
    · intro j h1 h2 h3 h4
      simp only [List.mem_cons, List.not_mem_nil, or_false, not_or] at h2
      simp only [List.map_cons, List.map_nil, List.flatten_cons, List.flatten_nil, List.append_nil, hka, hkb, hk, List.mem_append, not_or] at h4
      exact off j h1 h2.1 h2.2 h4.1 h4.2
  have h := s.abs S
  simpa using h
theorem merge_abs (S : Shp σ rt) (ha : σ a = some da) (hb : σ b = some db) (hq : σ p = some q) (hqk : q.ks = kL ++ a :: b :: kR) (hqe : q.es = eL ++ e :: eR) (_hlen : kL.length = eL.length)
    {n m : Nat} (hn : n = a ∧ m = b ∨ n = b ∧ m = a)
    (h_n : σ' n = some ⟨some p, da.es ++ e :: db.es, da.ks ++ db.ks, da.lv⟩) (h_m : σ' m = none) (h_p : σ' p = some ⟨q.par, eL ++ eR, kL ++ n :: kR, q.lv⟩)
    (hg : ∀ g, g ∈ da.ks ∨ g ∈ db.ks → ∀ gd, σ g = some gd → σ' g = some { gd with par := some n })
    (off : ∀ j, j ≠ p → j ≠ a → j ≠ b → j ∉ da.ks → j ∉ db.ks → σ' j = σ j) :
    abs σ' p = .nd ((eL ++ eR).map En.kv) (kL.map (abs σ) ++ absRow (abs σ) (da.ks ++ db.ks) (da.es ++ e :: db.es) :: kR.map (abs σ)) ∧ UpA σ σ' p q.lv := by
  obtain ⟨hpa, hla⟩ := S.kidOf hq (by rw [hqk]; simp) ha
  obtain ⟨hpb, hlb⟩ := S.kidOf hq (by rw [hqk]; simp) hb
  have hka : ksOf σ a = da.ks := by unfold ksOf; rw [ha]
  have hkb : ksOf σ b = db.ks := by unfold ksOf; rw [hb]
  have s : Seg σ σ' p q kL [a, b] kR [(n, ⟨some p, da.es ++ e :: db.es, da.ks ++ db.ks, da.lv⟩)] (eL ++ eR) := by
    refine ⟨hq, by simpa using hqk, by simpa using h_p, by simp, ?_, ?_, by simp, by simp [hka, hkb], ?_, ?_, ?_⟩
    · have := S.inner p q hq (by omega)
      rw [hqk, hqe] at this
      simp only [List.length_append, List.length_cons] at this
      simp; omega
    · intro y hy
      simp only [List.mem_singleton] at hy
      subst hy
      refine ⟨h_n, rfl, hla, fun h0 => ?_, fun h0 => ?_, .inl (by rcases hn with ⟨rfl, _⟩ | ⟨rfl, _⟩ <;> simp)⟩
      · simp only at h0 ⊢
        rw [S.leaf a da ha h0, S.leaf b db hb (by omega)]; rfl
      · simp only at h0 ⊢
        have h1 := S.inner a da ha h0
        have h2 := S.inner b db hb (by omega)
        simp only [List.length_append, List.length_cons]; omega
    · intro y hy g hgm gd hgd
      simp only [List.mem_singleton] at hy
      subst hy
      exact hg g (by simpa using hgm) gd hgd
    · intro y hy hno
      simp only [List.mem_cons, List.not_mem_nil, or_false] at hy
      simp only [List.map_cons, List.map_nil, List.mem_singleton] at hno
      have : y = m := by
        rcases hn with ⟨rfl, rfl⟩ | ⟨rfl, rfl⟩ <;> rcases hy with rfl | rfl
        · exact absurd rfl hno
        · rfl
        · rfl
        · exact absurd rfl hno
      subst this; exact h_m
    · intro j h1 h2 h3 h4
      simp only [List.mem_cons, List.not_mem_nil, or_false, not_or] at h2
      simp only [List.map_cons, List.map_nil, List.flatten_cons, List.flatten_nil, List.append_nil, hka, hkb, List.mem_append, not_or] at h4
      exact off j h1 h2.1 h2.2 h4.1 h4.2
  have h := s.abs S
  simpa using h
theorem merge_new (S : Shp σ rt) (ha : σ a = some da) (hb : σ b = some db) (hq : σ p = some q) (hqk : q.ks = kL ++ a :: b :: kR) (hqe : q.es = eL ++ e :: eR) (_hlen : kL.length = eL.length)
    {n m : Nat} (hn : n = a ∧ m = b ∨ n = b ∧ m = a)
    (h_n : σ' n = some ⟨some p, da.es ++ e :: db.es, da.ks ++ db.ks, da.lv⟩) (h_m : σ' m = none) (h_p : σ' p = some ⟨q.par, eL ++ eR, kL ++ n :: kR, q.lv⟩)
    (hg : ∀ g, g ∈ da.ks ∨ g ∈ db.ks → ∀ gd, σ g = some gd → σ' g = some { gd with par := some n })
    (off : ∀ j, j ≠ p → j ≠ a → j ≠ b → j ∉ da.ks → j ∉ db.ks → σ' j = σ j) :
    abs σ' n = absRow (abs σ) (da.ks ++ db.ks) (da.es ++ e :: db.es) := by
  obtain ⟨hpa, hla⟩ := S.kidOf hq (by rw [hqk]; simp) ha
  obtain ⟨hpb, hlb⟩ := S.kidOf hq (by rw [hqk]; simp) hb
  have hka : ksOf σ a = da.ks := by unfold ksOf; rw [ha]
  have hkb : ksOf σ b = db.ks := by unfold ksOf; rw [hb]
  have s : Seg σ σ' p q kL [a, b] kR [(n, ⟨some p, da.es ++ e :: db.es, da.ks ++ db.ks, da.lv⟩)] (eL ++ eR) := by
    refine ⟨hq, by simpa using hqk, by simpa using h_p, by simp, ?_, ?_, by simp, by simp [hka, hkb], ?_, ?_, ?_⟩
    · have := S.inner p q hq (by omega)
      rw [hqk, hqe] at this
      simp only [List.length_append, List.length_cons] at this
      simp; omega
    · intro y hy
      simp only [List.mem_singleton] at hy
      subst hy
      refine ⟨h_n, rfl, hla, fun h0 => ?_, fun h0 => ?_, .inl (by rcases hn with ⟨rfl, _⟩ | ⟨rfl, _⟩ <;> simp)⟩
      · simp only at h0 ⊢
        rw [S.leaf a da ha h0, S.leaf b db hb (by omega)]; rfl
      · simp only at h0 ⊢
        have h1 := S.inner a da ha h0
        have h2 := S.inner b db hb (by omega)
        simp only [List.length_append, List.length_cons]; omega
    · intro y hy g hgm gd hgd
      simp only [List.mem_singleton] at hy
      subst hy
      exact hg g (by simpa using hgm) gd hgd
    · intro y hy hno
      simp only [List.mem_cons, List.not_mem_nil, or_false] at hy
      simp only [List.map_cons, List.map_nil, List.mem_singleton] at hno
      have : y = m := by
        rcases hn with ⟨rfl, rfl⟩ | ⟨rfl, rfl⟩ <;> rcases hy with rfl | rfl
        · exact absurd rfl hno
        · rfl
        · rfl
        · exact absurd rfl hno
      subst this; exact h_m
    · intro j h1 h2 h3 h4
      simp only [List.mem_cons, List.not_mem_nil, or_false, not_or] at h2
      simp only [List.map_cons, List.map_nil, List.flatten_cons, List.flatten_nil, List.append_nil, hka, hkb, List.mem_append, not_or] at h4
      exact off j h1 h2.1 h2.2 h4.1 h4.2
  have h := s.new_abs S (y := (n, ⟨some p, da.es ++ e :: db.es, da.ks ++ db.ks, da.lv⟩)) (by simp)
  exact h
end
end Go.Proofs.Ytgakapigpiaoiaa.Bt
