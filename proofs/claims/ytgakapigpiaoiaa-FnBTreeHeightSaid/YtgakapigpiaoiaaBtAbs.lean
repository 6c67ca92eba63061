import Derived.Test.YtgakapigpiaoiaaBtPures
namespace Go.Proofs.Ytgakapigpiaoiaa.Bt
inductive Tr where
  | nd (es : KV) (ks : List Tr)
def absRow (f : Nat → Tr) (ks : List Nat) (es : List En) : Tr := .nd (es.map En.kv) (ks.map f)
theorem absRow_congr {f g : Nat → Tr} {ks : List Nat} {es : List En} (h : ∀ k ∈ ks, f k = g k) : absRow f ks es = absRow g ks es := by
  unfold absRow
  rw [List.map_congr_left h]
def absN (σ : Store) : Nat → Nat → Tr
  | 0, i => match σ i with
    | none => .nd [] []
    | some d => .nd (d.es.map En.kv) []
  | h + 1, i => match σ i with
    | none => .nd [] []
    | some d => absRow (absN σ h) d.ks d.es
def abs (σ : Store) (i : Nat) : Tr := match σ i with
  | none => .nd [] []
  | some d => absN σ d.lv i
section
variable {σ σ' : Store} {rt i p : Nat} {d q q' : ND}
theorem abs_row (S : Shp σ rt) (h : σ i = some d) : abs σ i = absRow (abs σ) d.ks d.es := by
  unfold abs
  rw [h]
  simp only
  cases hl : d.lv with
  | zero => rw [S.leaf i d h hl]; simp [absN, h, absRow]
  | succ l =>
    simp only [absN, h]
    refine absRow_congr fun k hk => ?_
    obtain ⟨c, hc, _, h2⟩ := S.kid i d k h hk
    rw [hc]
    simp only
    rw [show c.lv = l by omega]
theorem absN_off (S : Shp σ rt) (hq : σ p = some q) (A : Off σ σ' p) (n : Nat) : ∀ j d, σ j = some d → d.lv = n → n ≤ q.lv → j ≠ p → d.par ≠ some p → absN σ' n j = absN σ n j := by
  induction n with
  | zero =>
    intro j d h hl hn hj hp
    obtain ⟨d', h', e1, e2, e3⟩ := A j d h hj hp
    simp [absN, h, h', e1]
  | succ n ih =>
    intro j d h hl hn hj hp
    obtain ⟨d', h', e1, e2, e3⟩ := A j d h hj hp
    simp only [absN, h, h', e1, e2]
    refine absRow_congr fun k hk => ?_
    obtain ⟨c, hc, h1, h2⟩ := S.kid j d k h hk
    refine ih k c hc (by omega) (by omega) ?_ ?_
    · rintro rfl
      rw [hq] at hc
      injection hc with hc
      subst hc
      omega
    · rw [h1]; intro e; injection e with e; exact hj e
theorem abs_off (S : Shp σ rt) (hq : σ p = some q) (A : Off σ σ' p) {j : Nat} (h : σ j = some d) (hl : d.lv ≤ q.lv) (hj : j ≠ p) (hp : d.par ≠ some p) : abs σ' j = abs σ j := by
  obtain ⟨d', h', _, _, e3⟩ := A j d h hj hp
  unfold abs
  rw [h, h']
  simp only [e3]
  exact absN_off S hq A d.lv j d h rfl hl hj hp
theorem abs_kids (hl : ∀ k ∈ d.ks, ∃ c, σ' k = some c ∧ c.lv + 1 = d.lv) (h0 : d.lv = 0 → d.ks = []) (h : σ' i = some d) (hk : ∀ k ∈ d.ks, abs σ' k = abs σ k) : abs σ' i = absRow (abs σ) d.ks d.es := by
  unfold abs
  rw [h]
  simp only
  cases hlv : d.lv with
  | zero => rw [h0 hlv]; simp [absN, h, absRow]
  | succ l =>
    simp only [absN, h]
    refine absRow_congr fun k hk' => ?_
    obtain ⟨c, hc, h2⟩ := hl k hk'
    have := hk k hk'
    unfold abs at this
    rw [hc] at this
    simp only at this
    rw [show l = c.lv by omega]
    exact this
structure UpA (σ σ' : Store) (i l : Nat) : Prop where
  hi : ∀ j d, σ j = some d → l < d.lv → ∃ d', σ' j = some d' ∧ Sm d d'
  lv : ∀ j d, σ j = some d → d.lv = l → ∃ d', σ' j = some d' ∧ d'.lv = l
  at_ : ∀ j d, σ j = some d → d.lv = l → j ≠ i → abs σ' j = abs σ j
theorem UpA.refl (σ : Store) (i l : Nat) : UpA σ σ i l := ⟨fun _ d h _ => ⟨d, h, Sm.refl d⟩, fun _ d h e => ⟨d, h, e⟩, fun _ _ _ _ _ => rfl⟩
theorem Off.upA (S : Shp σ rt) (hq : σ p = some q) (A : Off σ σ' p) (hq' : σ' p = some q') (hl : q'.lv = q.lv) : UpA σ σ' p q.lv := by
  have notKid : ∀ j d, σ j = some d → q.lv ≤ d.lv → d.par ≠ some p := by
    intro j d h hlv hp
    have := (S.kidLv h hp hq).1
    omega
  refine ⟨fun j d h hlt => A j d h ?_ (notKid j d h (by omega)), fun j d h e => ?_, fun j d h e hj => abs_off S hq A h (by omega) hj (notKid j d h (by omega))⟩
  · rintro rfl
    rw [hq] at h; injection h with h; subst h; omega
  · by_cases hj : j = p
    · subst hj; exact ⟨q', hq', hl⟩
    · obtain ⟨d', h', _, _, e3⟩ := A j d h hj (notKid j d h (by omega))
      exact ⟨d', h', by omega⟩
structure Fr where
  eL : KV
  eR : KV
  kL : List Tr
  kR : List Tr
def Fr.put (f : Fr) (t : Tr) : Tr := .nd (f.eL ++ f.eR) (f.kL ++ t :: f.kR)
def plug : List Fr → Tr → Tr
  | [], t => t
  | f :: c, t => plug c (f.put t)
inductive APath (σ : Store) (rt : Nat) : Nat → List Fr → Prop
  | root : APath σ rt rt []
  | down {p i : Nat} {q : ND} {c : List Fr} {kL kR : List Nat} {eL eR : List En} : APath σ rt p c → σ p = some q → q.ks = kL ++ i :: kR → q.es = eL ++ eR → kL.length = eL.length →
      APath σ rt i (⟨eL.map En.kv, eR.map En.kv, kL.map (abs σ), kR.map (abs σ)⟩ :: c)
theorem abs_mid (f : Nat → Tr) (kL : List Nat) (i : Nat) (kR : List Nat) (eL eR : List En) : absRow f (kL ++ i :: kR) (eL ++ eR) = (Fr.mk (eL.map En.kv) (eR.map En.kv) (kL.map f) (kR.map f)).put (f i) := by
  simp [absRow, Fr.put]
theorem APath.now (S : Shp σ rt) {c : List Fr} (a : APath σ rt i c) : abs σ rt = plug c (abs σ i) := by
  induction a with
  | root => rfl
  | down a hq hk he hl ih => rw [ih, abs_row S hq, hk, he, abs_mid]; rfl
theorem UpA.up (S : Shp σ rt) (hq : σ p = some q) {kL kR : List Nat} (hk : q.ks = kL ++ i :: kR) (h : σ i = some d) (u : UpA σ σ' i d.lv) : UpA σ σ' p q.lv ∧ (∃ q', σ' p = some q' ∧ Sm q q') ∧ (∀ k, k ∈ kL ∨ k ∈ kR → abs σ' k = abs σ k) ∧ abs σ' p = absRow (abs σ') q.ks q.es := by
  obtain ⟨d0, h0, hp, hl⟩ := S.kid p q i hq (by rw [hk]; simp)
  rw [h] at h0; injection h0 with h0; subst h0
  have hkl : ∀ k ∈ q.ks, ∃ c', σ' k = some c' ∧ c'.lv + 1 = q.lv := by
    intro k hk'
    obtain ⟨c', h1, _, h3⟩ := S.kid p q k hq hk'
    obtain ⟨d', h4, h5⟩ := u.lv k c' h1 (by omega)
    exact ⟨d', h4, by omega⟩
  have hsib : ∀ k ∈ q.ks, k ≠ i → abs σ' k = abs σ k := by
    intro k hk' hne
    obtain ⟨c', h1, _, h3⟩ := S.kid p q k hq hk'
    exact u.at_ k c' h1 (by omega) hne
  obtain ⟨q2, hq2, e1, e2, e3⟩ := u.hi p q hq (by omega)
  have hnd : i ∉ kL ∧ i ∉ kR := by
    have := S.nd p q hq
    rw [hk, List.nodup_append] at this
    refine ⟨fun hm => this.2.2 i hm i (by simp) rfl, ?_⟩
    exact (List.nodup_cons.1 this.2.1).1
  have hrow : abs σ' p = absRow (abs σ') q.ks q.es := by
    have := abs_kids (σ := σ') (σ' := σ') (i := p) (d := q2) (fun k hk' => by rw [e2] at hk'; rw [e3]; exact hkl k hk') (fun h0 => by rw [e2]; exact S.leaf p q hq (by omega)) hq2 (fun _ _ => rfl)
    rw [this, e1, e2]
  have up : UpA σ σ' p q.lv := by
    refine ⟨fun j e hj hlt => u.hi j e hj (by omega), fun j e hj he' => ?_, fun j e hj he' hne => ?_⟩
    · obtain ⟨e', h1, _, _, h2⟩ := u.hi j e hj (by omega)
      exact ⟨e', h1, by omega⟩
    · obtain ⟨e', h1, g1, g2, g3⟩ := u.hi j e hj (by omega)
      have hrow' := abs_kids (σ := σ) (σ' := σ') (i := j) (d := e') (fun k hk' => by
        rw [g2] at hk'
        obtain ⟨c', h3, _, h5⟩ := S.kid j e k hj hk'
        obtain ⟨d', h6, h7⟩ := u.lv k c' h3 (by omega)
        exact ⟨d', h6, by omega⟩) (fun h0 => by rw [g2]; exact S.leaf j e hj (by omega)) h1 (fun k hk' => by
        rw [g2] at hk'
        obtain ⟨c', h3, h4, h5⟩ := S.kid j e k hj hk'
        refine u.at_ k c' h3 (by omega) ?_
        rintro rfl
        rw [h] at h3
        injection h3 with h3
        subst h3
        rw [hp] at h4
        injection h4 with h4
        exact hne h4.symm)
      rw [hrow', g1, g2, abs_row S hj]
  refine ⟨up, ⟨q2, hq2, e1, e2, e3⟩, fun k hk' => ?_, hrow⟩
  rcases hk' with hm | hm
  · exact hsib k (by rw [hk]; simp [hm]) (fun e => hnd.1 (e ▸ hm))
  · exact hsib k (by rw [hk]; simp [hm]) (fun e => hnd.2 (e ▸ hm))
theorem APath.keep (S : Shp σ rt) {c : List Fr} (a : APath σ rt i c) : ∀ {d : ND}, σ i = some d → UpA σ σ' i d.lv → APath σ' rt i c ∧ abs σ' rt = plug c (abs σ' i) := by
  induction a with
  | root => exact fun _ _ => ⟨.root, rfl⟩
  | @down p i q c kL kR eL eR a hq hk he hl ih =>
    intro d h u
    obtain ⟨up, ⟨q2, hq2, e1, e2, e3⟩, hs, hrow⟩ := u.up S hq hk h
    obtain ⟨h1, h2⟩ := ih hq up
    have hL : kL.map (abs σ') = kL.map (abs σ) := List.map_congr_left fun k hm => hs k (.inl hm)
    have hR : kR.map (abs σ') = kR.map (abs σ) := List.map_congr_left fun k hm => hs k (.inr hm)
    have := APath.down h1 hq2 (e2.trans hk) (e1.trans he) hl
    rw [hL, hR] at this
    refine ⟨this, ?_⟩
    rw [h2, hrow, hk, he, abs_mid, hL, hR]
    rfl
end
section
variable {σ σ' : Store} {rt i p : Nat} {d q q' : ND}
theorem Surg.upA (S : Shp σ rt) (u : Surg σ σ' p q q') : UpA σ σ' p q.lv := (u.offs S).upA S u.hq u.hq' u.lv
theorem Surg.kid_abs (S : Shp σ rt) (u : Surg σ σ' p q q') {k : Nat} {c : ND} (hk : k ∈ q'.ks) (hc : σ' k = some c) : abs σ' k = absRow (abs σ) c.ks c.es := by
  obtain ⟨c', hc', h1, h2, h3, h4, h5, hall⟩ := u.new k hk
  rw [hc] at hc'
  injection hc' with hc'
  subst hc'
  have hpar : ∀ g ∈ c.ks, ∃ x gd, x ∈ q.ks ∧ σ g = some gd ∧ gd.par = some x ∧ gd.lv + 1 = c.lv ∧ σ' g = some { gd with par := some k } := by
    intro g hg
    obtain ⟨x, gd, hx, hgd, hp', hs⟩ := hall g hg
    obtain ⟨xd, hxd, _, hxl⟩ := S.kid p q x u.hq hx
    have := (S.kidLv hgd hp' hxd).1
    exact ⟨x, gd, hx, hgd, hp', by omega, hs⟩
  refine abs_kids (fun g hg => ?_) h3 hc (fun g hg => ?_)
  · obtain ⟨x, gd, _, _, _, hl, hs⟩ := hpar g hg
    exact ⟨_, hs, hl⟩
  · obtain ⟨x, gd, hx, hgd, hp', hl, hs⟩ := hpar g hg
    refine abs_off S u.hq (u.offs S) hgd (by omega) ?_ ?_
    · rintro rfl
      have := u.hq
      rw [hgd] at this
      injection this with this
      subst this
      omega
    · rw [hp']
      intro e
      injection e with e
      subst e
      obtain ⟨xd, hxd, _, hxl⟩ := S.kid x q x u.hq hx
      rw [u.hq] at hxd
      injection hxd with hxd
      subst hxd
      omega
end
section
variable {σ σ' : Store} {rt i p : Nat} {d q q' : ND} {kL X kR : List Nat} {Y : List (Nat × ND)} {es' : List En}
theorem Seg.old_abs (S : Shp σ rt) (s : Seg σ σ' p q kL X kR Y es') {k : Nat} (hk : k ∈ kL ∨ k ∈ kR) : abs σ' k = abs σ k := by
  have u := s.surg S
  have hm : k ∈ q.ks := by rw [s.hks]; rcases hk with h | h <;> simp [h]
  obtain ⟨c, hc, _⟩ := S.kid p q k s.hq hm
  have hm' : k ∈ kL ++ (Y.map Prod.fst ++ kR) := by rcases hk with h | h <;> simp [h]
  obtain ⟨c', hc', _⟩ := u.new k hm'
  have e : σ' k = σ k := by
    have h1 := u.kid_abs S hm' hc'
    have hnd := S.nd p q s.hq
    rw [s.hks, List.nodup_append, List.nodup_append] at hnd
    have lrX : k ∉ X := by
      intro hx
      rcases hk with h | h
      · exact hnd.2.2 k h k (by simp [hx]) rfl
      · exact hnd.2.1.2.2 k hx k h rfl
    refine s.off k ?_ lrX ?_ ?_
    · rintro rfl
      obtain ⟨c2, hc2, _, hl⟩ := S.kid k q k s.hq hm
      rw [s.hq] at hc2; injection hc2 with hc2; subst hc2; omega
    · intro hy
      have h2 := u.nd
      simp only at h2
      rw [List.nodup_append, List.nodup_append] at h2
      rcases hk with h | h
      · exact h2.2.2 k h k (by simp [hy]) rfl
      · exact h2.2.1.2.2 k hy k h rfl
    · intro hg
      obtain ⟨x, xd, gd, hx, hxd, _, hgd, hp', _⟩ := mem_grand S hg
      obtain ⟨c2, hc2, hp2, _⟩ := S.kid p q k s.hq hm
      rw [hgd] at hc2; injection hc2 with hc2; subst hc2
      rw [hp'] at hp2; injection hp2 with hp2
      subst hp2
      obtain ⟨c3, hc3, _, hl⟩ := S.kid x q x s.hq (by rw [s.hks]; simp [hx])
      rw [s.hq] at hc3; injection hc3 with hc3; subst hc3; omega
  rw [e, hc] at hc'
  injection hc' with hc'
  subst hc'
  rw [u.kid_abs S hm' (by rw [e]; exact hc), abs_row S hc]
theorem Seg.new_abs (S : Shp σ rt) (s : Seg σ σ' p q kL X kR Y es') {y : Nat × ND} (hy : y ∈ Y) : abs σ' y.1 = absRow (abs σ) y.2.ks y.2.es :=
  (s.surg S).kid_abs S (by simp only [List.mem_append]; exact .inr (.inl (List.mem_map.2 ⟨y, hy, rfl⟩))) (s.hY y hy).1
end
end Go.Proofs.Ytgakapigpiaoiaa.Bt
