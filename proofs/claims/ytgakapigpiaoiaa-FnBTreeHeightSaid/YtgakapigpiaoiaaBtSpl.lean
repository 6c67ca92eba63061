import Derived.Test.YtgakapigpiaoiaaBtAbsOp
namespace Go.Proofs.Ytgakapigpiaoiaa.Bt
def Tr.es : Tr → KV
  | .nd es _ => es
def Tr.ks : Tr → List Tr
  | .nd _ ks => ks
def cutL (M : Nat) (t : Tr) : Tr := .nd (t.es.take M) (t.ks.take (M + 1))
def cutR (M : Nat) (t : Tr) : Tr := .nd (t.es.drop (M + 1)) (t.ks.drop (M + 1))
def cutM (M : Nat) (t : Tr) : Int × Int := t.es.getD M (0, 0)
def midOf (m : Int) : Nat := ((m - 1) / 2).toNat
def spl (m : Int) : List Fr → Tr → Tr
  | [], t => if (t.es.length : Int) ≤ m - 1 then t else .nd [cutM (midOf m) t] [cutL (midOf m) t, cutR (midOf m) t]
  | f :: c, t => if (t.es.length : Int) ≤ m - 1 then plug (f :: c) t else spl m c (.nd (f.eL ++ cutM (midOf m) t :: f.eR) (f.kL ++ cutL (midOf m) t :: cutR (midOf m) t :: f.kR))
section
variable {σ σ' : Store} {rt x p l r nr M : Nat} {d q : ND} {kA kB kL kR : List Nat} {eA eB eL eR : List En} {e : En} {c : List Fr} {m : Int}
theorem abs_same (S : Shp σ rt) (hs : ∀ j d, σ j = some d → ∃ d', σ' j = some d' ∧ Sm d d') (j : Nat) (d : ND) (h : σ j = some d) : abs σ' j = abs σ j := by
  have go : ∀ n, ∀ j d, σ j = some d → d.lv = n → absN σ' n j = absN σ n j := by
    intro n
    induction n with
    | zero =>
      intro j d h _
      obtain ⟨d', h', e1, _⟩ := hs j d h
      simp [absN, h, h', e1]
    | succ n ih =>
      intro j d h hl
      obtain ⟨d', h', e1, e2, _⟩ := hs j d h
      simp only [absN, h, h', e1, e2]
      refine absRow_congr fun k hk => ?_
      obtain ⟨c, hc, _, h2⟩ := S.kid j d k h hk
      exact ih k c hc (by omega)
  obtain ⟨d', h', _, _, e3⟩ := hs j d h
  unfold abs
  rw [h, h']
  simp only [e3]
  exact go d.lv j d h rfl
theorem abs_es (S : Shp σ rt) (h : σ x = some d) : (abs σ x).es = d.es.map En.kv := by rw [abs_row S h]; rfl
theorem spl_fine (S : Shp σ rt) (h : σ x = some d) (hf : (d.es.length : Int) ≤ m - 1) (a : APath σ rt x c) : abs σ rt = spl m c (abs σ x) := by
  have he : ((abs σ x).es.length : Int) ≤ m - 1 := by rw [abs_es S h, List.length_map]; exact hf
  rw [a.now S]
  cases c with
  | nil => unfold spl; rw [if_pos he]; rfl
  | cons f c => unfold spl; rw [if_pos he]
theorem nodup_split {l1 r1 l2 r2 : List Nat} {x : Nat} (h : (l1 ++ x :: r1).Nodup) (e : l1 ++ x :: r1 = l2 ++ x :: r2) : l1 = l2 ∧ r1 = r2 := by
  induction l1 generalizing l2 with
  | nil =>
    cases l2 with
    | nil => simpa using e
    | cons b l2 =>
      simp only [List.nil_append, List.cons_append, List.cons.injEq] at e
      have := (List.nodup_cons.1 h).1
      rw [e.2] at this
      simp at this
  | cons a l1 ih =>
    cases l2 with
    | nil =>
      simp only [List.nil_append, List.cons_append, List.cons.injEq] at e
      rw [List.cons_append] at h
      have := (List.nodup_cons.1 h).1
      rw [e.1] at this
      simp at this
    | cons b l2 =>
      simp only [List.cons_append, List.cons.injEq] at e
      obtain ⟨h1, h2⟩ := ih (List.nodup_cons.1 h).2 e.2
      exact ⟨by rw [e.1, h1], h2⟩
theorem APath.inv (S : Shp σ rt) (a : APath σ rt x c) (hx : σ x = some d) (hp : d.par = some p) (hq : σ p = some q) (hk : q.ks = kL ++ x :: kR) (he : q.es = eL ++ eR) (hl : kL.length = eL.length) :
    ∃ c', c = ⟨eL.map En.kv, eR.map En.kv, kL.map (abs σ), kR.map (abs σ)⟩ :: c' ∧ APath σ rt p c' := by
  cases a with
  | root =>
    obtain ⟨d', h1, h2⟩ := S.root
    rw [hx] at h1; injection h1 with h1; subst h1
    rw [hp] at h2; cases h2
  | @down p' i q' c' kL' kR' eL' eR' a' hq' hk' he' hl' =>
    obtain ⟨d', h1, h2, _⟩ := S.kid p' q' x hq' (by rw [hk']; simp)
    rw [hx] at h1; injection h1 with h1; subst h1
    rw [hp] at h2; injection h2 with h2; subst h2
    rw [hq] at hq'; injection hq' with hq'; subst hq'
    have nd := S.nd p q hq
    rw [hk] at nd hk'
    obtain ⟨e1, e2⟩ := nodup_split nd hk'
    subst e1 e2
    rw [he] at he'
    obtain ⟨e3, e4⟩ := List.append_inj he' (by omega)
    subst e3 e4
    exact ⟨c', rfl, a'⟩
theorem APath.nil (S : Shp σ x) (a : APath σ x x c) : c = [] := by
  cases a with
  | root => rfl
  | @down p' i q' c' kL' kR' eL' eR' a' hq' hk' he' hl' =>
    exfalso
    obtain ⟨d', h1, h2, _⟩ := S.kid p' q' x hq' (by rw [hk']; simp)
    obtain ⟨d2, h3, h4⟩ := S.root
    rw [h1] at h3; injection h3 with h3; subst h3
    rw [h2] at h4; cases h4
theorem cut_abs (f : Nat → Tr) (hes : d.es = eA ++ e :: eB) (hks : d.ks = kA ++ kB) (hc : Cut d.lv kA kB eA eB) (hM : eA.length = M) :
    cutL M (absRow f d.ks d.es) = absRow f kA eA ∧ cutR M (absRow f d.ks d.es) = absRow f kB eB ∧ cutM M (absRow f d.ks d.es) = e.kv := by
  subst hM
  have hk : (kA ++ kB).take (eA.length + 1) = kA ∧ (kA ++ kB).drop (eA.length + 1) = kB := by
    rcases hc with ⟨_, h1, h2⟩ | ⟨_, h1, _⟩
    · subst h1 h2; simp
    · rw [← h1]; simp
  refine ⟨?_, ?_, ?_⟩
  · unfold cutL absRow Tr.es Tr.ks
    simp only [hes, hks]
    rw [← List.map_take, ← List.map_take, hk.1]
    simp
  · unfold cutR absRow Tr.es Tr.ks
    simp only [hes, hks]
    rw [← List.map_drop, ← List.map_drop, hk.2]
    simp
  · unfold cutM absRow Tr.es
    simp [hes]
theorem split_up (S : Shp σ rt) (hx : σ x = some d) (hq : σ p = some q) (hes : d.es = eA ++ e :: eB) (hks : d.ks = kA ++ kB) (hc : Cut d.lv kA kB eA eB)
    (hqk : q.ks = kL ++ x :: kR) (hqe : q.es = eL ++ eR) (hlen : kL.length = eL.length) (hl0 : σ l = none) (hr0 : σ r = none) (hlr : l ≠ r)
    (h_l : σ' l = some ⟨some p, eA, kA, d.lv⟩) (h_r : σ' r = some ⟨some p, eB, kB, d.lv⟩) (h_p : σ' p = some ⟨q.par, eL ++ e :: eR, kL ++ l :: r :: kR, q.lv⟩) (h_x : σ' x = none)
    (hgA : ∀ g ∈ kA, ∀ gd, σ g = some gd → σ' g = some { gd with par := some l }) (hgB : ∀ g ∈ kB, ∀ gd, σ g = some gd → σ' g = some { gd with par := some r })
    (off : ∀ j, j ≠ p → j ≠ x → j ≠ l → j ≠ r → j ∉ kA → j ∉ kB → σ' j = σ j) (hov : ¬ (d.es.length : Int) ≤ m - 1) (hM : eA.length = midOf m) (a : APath σ rt x c) :
    ∃ c', APath σ' rt p c' ∧ spl m c (abs σ x) = spl m c' (abs σ' p) := by
  have T := split_abs S hx hq hes hks hc hqk hqe hlen hl0 hr0 hlr h_l h_r h_p h_x hgA hgB off
  obtain ⟨hpar, _⟩ := S.kidOf hq (by rw [hqk]; simp) hx
  obtain ⟨c', rfl, a'⟩ := a.inv S hx hpar hq hqk hqe hlen
  refine ⟨c', (a'.keep S hq T.2).1, ?_⟩
  have hn : ¬ ((abs σ x).es.length : Int) ≤ m - 1 := by rw [abs_es S hx, List.length_map]; exact hov
  conv => lhs; unfold spl
  rw [if_neg hn]
  obtain ⟨h1, h2, h3⟩ := cut_abs (abs σ) hes hks hc hM
  rw [abs_row S hx, h1, h2, h3, T.1]
  simp
theorem splitRoot_up (S : Shp σ x) (hx : σ x = some d) (hes : d.es = eA ++ e :: eB) (hks : d.ks = kA ++ kB) (hc : Cut d.lv kA kB eA eB)
    (hl0 : σ l = none) (hr0 : σ r = none) (hn0 : σ nr = none) (hlr : l ≠ r) (hln : l ≠ nr) (hrn : r ≠ nr)
    (h_l : σ' l = some ⟨some nr, eA, kA, d.lv⟩) (h_r : σ' r = some ⟨some nr, eB, kB, d.lv⟩) (h_n : σ' nr = some ⟨none, [e], [l, r], d.lv + 1⟩) (h_x : σ' x = none)
    (hgA : ∀ g ∈ kA, ∀ gd, σ g = some gd → σ' g = some { gd with par := some l }) (hgB : ∀ g ∈ kB, ∀ gd, σ g = some gd → σ' g = some { gd with par := some r })
    (off : ∀ j, j ≠ nr → j ≠ x → j ≠ l → j ≠ r → j ∉ kA → j ∉ kB → σ' j = σ j) (hov : ¬ (d.es.length : Int) ≤ m - 1) (hM : eA.length = midOf m) (a : APath σ x x c) :
    abs σ' nr = spl m c (abs σ x) := by
  have hxn : x ≠ nr := fun e => by rw [e, hn0] at hx; cases hx
  have hxl : x ≠ l := fun e => by rw [e, hl0] at hx; cases hx
  have hxr : x ≠ r := fun e => by rw [e, hr0] at hx; cases hx
  have own := S.not_own hx
  obtain ⟨S0, _⟩ := grow_top (p := nr) (σ' := upd (upd σ x (some { d with par := some nr })) nr (some ⟨none, [], [x], d.lv + 1⟩)) S hx hn0 (upd_at _ _ _) (by rw [upd_ne _ _ hxn, upd_at]) (fun j h1 h2 => by rw [upd_ne _ _ h1, upd_ne _ _ h2])
  have kidsNe : ∀ g, g ∈ kA ∨ g ∈ kB → g ≠ x ∧ g ≠ nr := by
    intro g hg
    have hm : g ∈ d.ks := by rw [hks]; simpa using hg
    refine ⟨fun e => own (e ▸ hm), fun e => ?_⟩
    obtain ⟨c, hc, _⟩ := S.kid x d g hx hm
    rw [e, hn0] at hc; cases hc
  have T := split_abs (σ' := σ') (x := x) (p := nr) (l := l) (r := r) (kL := []) (kR := []) (eL := []) (eR := []) (e := e) (kA := kA) (kB := kB) (eA := eA) (eB := eB) S0 (d := { d with par := some nr }) (q := ⟨none, [], [x], d.lv + 1⟩) (by rw [upd_ne _ _ hxn, upd_at]) (upd_at _ _ _) hes hks hc rfl rfl rfl
    (by rw [upd_ne _ _ hln, upd_ne _ _ hxl.symm]; exact hl0) (by rw [upd_ne _ _ hrn, upd_ne _ _ hxr.symm]; exact hr0) hlr h_l h_r h_n h_x
    (fun g hg gd hgd => by have := kidsNe g (.inl hg); rw [upd_ne _ _ this.2, upd_ne _ _ this.1] at hgd; exact hgA g hg gd hgd)
    (fun g hg gd hgd => by have := kidsNe g (.inr hg); rw [upd_ne _ _ this.2, upd_ne _ _ this.1] at hgd; exact hgB g hg gd hgd)
    (fun j h1 h2 h3 h4 h5 h6 => by rw [off j h1 h2 h3 h4 h5 h6, upd_ne _ _ h1, upd_ne _ _ h2])
  have hn : ¬ ((abs σ x).es.length : Int) ≤ m - 1 := by rw [abs_es S hx, List.length_map]; exact hov
  obtain rfl := a.nil S
  unfold spl
  rw [if_neg hn]
  obtain ⟨h1, h2, h3⟩ := cut_abs (abs σ) hes hks hc hM
  rw [abs_row S hx, h1, h2, h3, T.1]
  have gs : ∀ g, g ∈ kA ∨ g ∈ kB → abs (upd (upd σ x (some { d with par := some nr })) nr (some ⟨none, [], [x], d.lv + 1⟩)) g = abs σ g := by
    intro g hg
    have hm : g ∈ d.ks := by rw [hks]; simpa using hg
    obtain ⟨gd, hgd, _⟩ := S.kid x d g hx hm
    refine abs_same S (fun j jd hj => ?_) g gd hgd
    by_cases hjx : j = x
    · subst hjx
      rw [hx] at hj; injection hj with hj; subst hj
      exact ⟨{ d with par := some nr }, by rw [upd_ne _ _ hxn, upd_at], rfl, rfl, rfl⟩
    · have hjn : j ≠ nr := fun e => by rw [e, hn0] at hj; cases hj
      exact ⟨jd, by rw [upd_ne _ _ hjn, upd_ne _ _ hjx]; exact hj, Sm.refl _⟩
  simp only [List.map_nil, List.nil_append, List.map_cons]
  unfold absRow
  rw [List.map_congr_left (l := kA) fun g hg => gs g (.inl hg), List.map_congr_left (l := kB) fun g hg => gs g (.inr hg)]
theorem split_two (S : Shp σ rt) (hx : σ x = some d) (hq : σ p = some q) (hes : d.es = eA ++ e :: eB) (hks : d.ks = kA ++ kB) (hc : Cut d.lv kA kB eA eB)
    (hqk : q.ks = kL ++ x :: kR) (hqe : q.es = eL ++ eR) (hlen : kL.length = eL.length) (hl0 : σ l = none) (hr0 : σ r = none) (hlr : l ≠ r)
    (h_l : σ' l = some ⟨some p, eA, kA, d.lv⟩) (h_r : σ' r = some ⟨some p, eB, kB, d.lv⟩) (h_p : σ' p = some ⟨q.par, eL ++ e :: eR, kL ++ l :: r :: kR, q.lv⟩) (h_x : σ' x = none)
    (hgA : ∀ g ∈ kA, ∀ gd, σ g = some gd → σ' g = some { gd with par := some l }) (hgB : ∀ g ∈ kB, ∀ gd, σ g = some gd → σ' g = some { gd with par := some r })
    (off : ∀ j, j ≠ p → j ≠ x → j ≠ l → j ≠ r → j ∉ kA → j ∉ kB → σ' j = σ j) :
    (nk σ' p = nk σ p ∧ nk σ' rt = nk σ rt ∧ Shp σ' rt) ∧ ∀ (m : Int) (c : List Fr), ¬ (d.es.length : Int) ≤ m - 1 → eA.length = midOf m → APath σ rt x c → ∃ c', APath σ' rt p c' ∧ spl m c (abs σ x) = spl m c' (abs σ' p) :=
  ⟨split_seg S hx hq hes hks hc hqk hqe hlen hl0 hr0 hlr h_l h_r h_p h_x hgA hgB off, fun _ _ hov hM a => split_up S hx hq hes hks hc hqk hqe hlen hl0 hr0 hlr h_l h_r h_p h_x hgA hgB off hov hM a⟩
theorem splitRoot_two (S : Shp σ x) (hx : σ x = some d) (hes : d.es = eA ++ e :: eB) (hks : d.ks = kA ++ kB) (hc : Cut d.lv kA kB eA eB)
    (hl0 : σ l = none) (hr0 : σ r = none) (hn0 : σ nr = none) (hlr : l ≠ r) (hln : l ≠ nr) (hrn : r ≠ nr)
    (h_l : σ' l = some ⟨some nr, eA, kA, d.lv⟩) (h_r : σ' r = some ⟨some nr, eB, kB, d.lv⟩) (h_n : σ' nr = some ⟨none, [e], [l, r], d.lv + 1⟩) (h_x : σ' x = none)
    (hgA : ∀ g ∈ kA, ∀ gd, σ g = some gd → σ' g = some { gd with par := some l }) (hgB : ∀ g ∈ kB, ∀ gd, σ g = some gd → σ' g = some { gd with par := some r })
    (off : ∀ j, j ≠ nr → j ≠ x → j ≠ l → j ≠ r → j ∉ kA → j ∉ kB → σ' j = σ j) :
    (nk σ' nr = nk σ x ∧ Shp σ' nr) ∧ ∀ (m : Int) (c : List Fr), ¬ (d.es.length : Int) ≤ m - 1 → eA.length = midOf m → APath σ x x c → abs σ' nr = spl m c (abs σ x) :=
  ⟨splitRoot_seg S hx hes hks hc hl0 hr0 hn0 hlr hln hrn h_l h_r h_n h_x hgA hgB off, fun _ _ hov hM a => splitRoot_up S hx hes hks hc hl0 hr0 hn0 hlr hln hrn h_l h_r h_n h_x hgA hgB off hov hM a⟩
end
end Go.Proofs.Ytgakapigpiaoiaa.Bt
