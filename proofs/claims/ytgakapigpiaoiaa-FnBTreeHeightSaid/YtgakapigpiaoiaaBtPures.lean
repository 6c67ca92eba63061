/-
  Several texts as one (BtPure, BtSeg, BtFind, BtStep, BtInsP): each says its own in its remarks.
-/
import Derived.Test.YtgakapigpiaoiaaPures
namespace Go.Proofs.Ytgakapigpiaoiaa.Bt
structure En where
  b : Nat
  k : Int
  v : Int
def En.kv (e : En) : Int × Int := (e.k, e.v)
structure ND where
  par : Option Nat
  es : List En
  ks : List Nat
  lv : Nat
abbrev Store := Nat → Option ND
def upd (σ : Store) (i : Nat) (d : Option ND) : Store := fun j => if j = i then d else σ j
theorem upd_at (σ : Store) (i : Nat) (d : Option ND) : upd σ i d i = d := by simp [upd]
theorem upd_ne (σ : Store) {i j : Nat} (d : Option ND) (h : j ≠ i) : upd σ i d j = σ j := by simp [upd, h]
def rowKvs (f : Nat → KV) : List Nat → List En → KV
  | [], es => es.map En.kv
  | k :: _, [] => f k
  | k :: ks, e :: es => f k ++ e.kv :: rowKvs f ks es
def rowR (f : Nat → KV) : List En → List Nat → KV
  | [], _ => []
  | e :: es, ks => e.kv :: rowKvs f ks es
theorem rowKvs_congr {f g : Nat → KV} {ks : List Nat} {es : List En} (h : ∀ k ∈ ks, f k = g k) : rowKvs f ks es = rowKvs g ks es := by
  induction ks generalizing es with
  | nil => rfl
  | cons k ks ih =>
    cases es with
    | nil => exact h k (by simp)
    | cons e es => simp only [rowKvs]; rw [h k (by simp), ih (fun x hx => h x (by simp [hx]))]
theorem rowR_congr {f g : Nat → KV} {ks : List Nat} {es : List En} (h : ∀ k ∈ ks, f k = g k) : rowR f es ks = rowR g es ks := by
  cases es with
  | nil => rfl
  | cons e es => simp only [rowR]; rw [rowKvs_congr h]
theorem rowKvs_mid (f : Nat → KV) (kL : List Nat) (eL : List En) (k : Nat) (kR : List Nat) (eR : List En) (h : kL.length = eL.length) :
    rowKvs f (kL ++ k :: kR) (eL ++ eR) = rowKvs f kL eL ++ (f k ++ rowR f eR kR) := by
  induction kL generalizing eL with
  | nil =>
    cases eL with
    | nil => cases eR <;> simp [rowKvs, rowR]
    | cons e es => simp at h
  | cons a kL ih =>
    cases eL with
    | nil => simp at h
    | cons e eL => simp only [List.cons_append, rowKvs]; rw [ih eL (by simpa using h)]; simp
theorem rowKvs_cut (f : Nat → KV) (kA : List Nat) (eA : List En) (e : En) (kB : List Nat) (eB : List En) (h : kA.length = eA.length + 1 ∨ kA = [] ∧ kB = []) :
    rowKvs f (kA ++ kB) (eA ++ e :: eB) = rowKvs f kA eA ++ e.kv :: rowKvs f kB eB := by
  rcases h with h | ⟨rfl, rfl⟩
  · induction kA generalizing eA with
    | nil => simp at h
    | cons a kA ih =>
      cases eA with
      | nil =>
        have : kA = [] := by simpa using h
        subst this
        simp [rowKvs]
      | cons e' eA => simp only [List.cons_append, rowKvs]; rw [ih eA (by simpa using h)]; simp
  · simp [rowKvs]
theorem rowKvs_seg (f : Nat → KV) (kL : List Nat) (eL : List En) (Y : List Nat) (F : List En) (kR : List Nat) (eR : List En) (h : kL.length = eL.length) (hY : Y.length = F.length + 1) :
    rowKvs f (kL ++ (Y ++ kR)) (eL ++ (F ++ eR)) = rowKvs f kL eL ++ (rowKvs f Y F ++ rowR f eR kR) := by
  induction kL generalizing eL with
  | nil =>
    have : eL = [] := by simpa using h.symm
    subst this
    simp only [List.nil_append, rowKvs, List.map_nil]
    induction F generalizing Y with
    | nil =>
      match Y, hY with
      | [y], _ => cases eR <;> simp [rowKvs, rowR]
    | cons e F ih =>
      match Y, hY with
      | y :: Y, hY => simp only [List.cons_append, rowKvs]; rw [ih Y (by simpa using hY)]; simp
  | cons a kL ih =>
    cases eL with
    | nil => simp at h
    | cons e eL => simp only [List.cons_append, rowKvs]; rw [ih eL (by simpa using h)]; simp
def kvsN (σ : Store) : Nat → Nat → KV
  | 0, i => match σ i with
    | none => []
    | some d => d.es.map En.kv
  | h + 1, i => match σ i with
    | none => []
    | some d => rowKvs (kvsN σ h) d.ks d.es
def nk (σ : Store) (i : Nat) : KV := match σ i with
  | none => []
  | some d => kvsN σ d.lv i
structure Shp (σ : Store) (rt : Nat) : Prop where
  leaf : ∀ i d, σ i = some d → d.lv = 0 → d.ks = []
  inner : ∀ i d, σ i = some d → 0 < d.lv → d.ks.length = d.es.length + 1
  kid : ∀ i d k, σ i = some d → k ∈ d.ks → ∃ c, σ k = some c ∧ c.par = some i ∧ c.lv + 1 = d.lv
  top : ∀ i d, σ i = some d → d.par = none → i = rt
  up : ∀ i d p, σ i = some d → d.par = some p → ∃ q, σ p = some q ∧ i ∈ q.ks
  nd : ∀ i d, σ i = some d → d.ks.Nodup
  root : ∃ d, σ rt = some d ∧ d.par = none
  bd : ∀ i d q, σ i = some d → σ rt = some q → d.lv ≤ q.lv
section
variable {σ σ' : Store} {rt i p : Nat} {d q q' : ND}
theorem nk_row (S : Shp σ rt) (h : σ i = some d) : nk σ i = rowKvs (nk σ) d.ks d.es := by
  unfold nk
  rw [h]
  simp only
  cases hl : d.lv with
  | zero => rw [S.leaf i d h hl]; simp [kvsN, h, rowKvs]
  | succ l =>
    simp only [kvsN, h]
    refine rowKvs_congr fun k hk => ?_
    obtain ⟨c, hc, _, h2⟩ := S.kid i d k h hk
    rw [hc]
    simp only
    rw [show c.lv = l by omega]
theorem nk_leaf (S : Shp σ rt) (h : σ i = some d) (h0 : d.lv = 0) : nk σ i = d.es.map En.kv := by
  rw [nk_row S h, S.leaf i d h h0]; rfl
theorem Shp.kidLv (S : Shp σ rt) (h : σ i = some d) (hp : d.par = some p) (hq : σ p = some q) : d.lv + 1 = q.lv ∧ i ∈ q.ks := by
  obtain ⟨q1, h1, h2⟩ := S.up i d p h hp
  rw [hq] at h1
  injection h1 with h1
  subst h1
  obtain ⟨c, hc, _, hl⟩ := S.kid p q i hq h2
  rw [h] at hc
  injection hc with hc
  subst hc
  exact ⟨hl, h2⟩
def Sm (d d' : ND) : Prop := d'.es = d.es ∧ d'.ks = d.ks ∧ d'.lv = d.lv
theorem Sm.refl (d : ND) : Sm d d := ⟨rfl, rfl, rfl⟩
def Off (σ σ' : Store) (p : Nat) : Prop := ∀ j d, σ j = some d → j ≠ p → d.par ≠ some p → ∃ d', σ' j = some d' ∧ Sm d d'
theorem kvsN_off (S : Shp σ rt) (hq : σ p = some q) (A : Off σ σ' p) (n : Nat) : ∀ j d, σ j = some d → d.lv = n → n ≤ q.lv → j ≠ p → d.par ≠ some p → kvsN σ' n j = kvsN σ n j := by
  induction n with
  | zero =>
    intro j d h hl hn hj hp
    obtain ⟨d', h', e1, e2, e3⟩ := A j d h hj hp
    simp [kvsN, h, h', e1]
  | succ n ih =>
    intro j d h hl hn hj hp
    obtain ⟨d', h', e1, e2, e3⟩ := A j d h hj hp
    simp only [kvsN, h, h', e1, e2]
    refine rowKvs_congr fun k hk => ?_
    obtain ⟨c, hc, h1, h2⟩ := S.kid j d k h hk
    refine ih k c hc (by omega) (by omega) ?_ ?_
    · rintro rfl
      rw [hq] at hc
      injection hc with hc
      subst hc
      omega
    · rw [h1]; intro e; injection e with e; exact hj e
theorem nk_off (S : Shp σ rt) (hq : σ p = some q) (A : Off σ σ' p) {j : Nat} (h : σ j = some d) (hl : d.lv ≤ q.lv) (hj : j ≠ p) (hp : d.par ≠ some p) : nk σ' j = nk σ j := by
  obtain ⟨d', h', _, _, e3⟩ := A j d h hj hp
  unfold nk
  rw [h, h']
  simp only [e3]
  exact kvsN_off S hq A d.lv j d h rfl hl hj hp
theorem nk_kids (hl : ∀ k ∈ d.ks, ∃ c, σ' k = some c ∧ c.lv + 1 = d.lv) (h0 : d.lv = 0 → d.ks = []) (h : σ' i = some d) (hk : ∀ k ∈ d.ks, nk σ' k = nk σ k) : nk σ' i = rowKvs (nk σ) d.ks d.es := by
  unfold nk
  rw [h]
  simp only
  cases hlv : d.lv with
  | zero => rw [h0 hlv]; simp [kvsN, h, rowKvs]
  | succ l =>
    simp only [kvsN, h]
    refine rowKvs_congr fun k hk' => ?_
    obtain ⟨c, hc, h2⟩ := hl k hk'
    have := hk k hk'
    unfold nk at this
    rw [hc] at this
    simp only at this
    rw [show l = c.lv by omega]
    exact this
structure Upper (σ σ' : Store) (i l : Nat) : Prop where
  hi : ∀ j d, σ j = some d → l < d.lv → ∃ d', σ' j = some d' ∧ Sm d d'
  lv : ∀ j d, σ j = some d → d.lv = l → ∃ d', σ' j = some d' ∧ d'.lv = l
  at_ : ∀ j d, σ j = some d → d.lv = l → j ≠ i → nk σ' j = nk σ j
theorem Upper.refl (σ : Store) (i l : Nat) : Upper σ σ i l := ⟨fun _ d h _ => ⟨d, h, Sm.refl d⟩, fun _ d h e => ⟨d, h, e⟩, fun _ _ _ _ _ => rfl⟩
theorem Off.upper (S : Shp σ rt) (hq : σ p = some q) (A : Off σ σ' p) (hq' : σ' p = some q') (hl : q'.lv = q.lv) : Upper σ σ' p q.lv := by
  have notKid : ∀ j d, σ j = some d → q.lv ≤ d.lv → d.par ≠ some p := by
    intro j d h hlv hp
    have := (S.kidLv h hp hq).1
    omega
  refine ⟨fun j d h hlt => A j d h ?_ (notKid j d h (by omega)), fun j d h e => ?_, fun j d h e hj => nk_off S hq A h (by omega) hj (notKid j d h (by omega))⟩
  · rintro rfl
    rw [hq] at h; injection h with h; subst h; omega
  · by_cases hj : j = p
    · subst hj; exact ⟨q', hq', hl⟩
    · obtain ⟨d', h', _, _, e3⟩ := A j d h hj (notKid j d h (by omega))
      exact ⟨d', h', by omega⟩
def Ctxt (σ : Store) (rt i : Nat) (L R : KV) : Prop := ∃ d, σ i = some d ∧ ∀ σ', Upper σ σ' i d.lv → nk σ' rt = L ++ (nk σ' i ++ R)
theorem Ctxt.root (S : Shp σ rt) : Ctxt σ rt rt [] [] := by
  obtain ⟨d, h, _⟩ := S.root
  exact ⟨d, h, fun σ' _ => by simp⟩
theorem Ctxt.now {L R : KV} (c : Ctxt σ rt i L R) : nk σ rt = L ++ (nk σ i ++ R) := by
  obtain ⟨d, _, h⟩ := c
  exact h σ (Upper.refl _ _ _)
theorem Ctxt.then {L R : KV} (c : Ctxt σ rt i L R) (h : σ i = some d) (u : Upper σ σ' i d.lv) : nk σ' rt = L ++ (nk σ' i ++ R) := by
  obtain ⟨d', h', hh⟩ := c
  rw [h] at h'
  injection h' with h'
  subst h'
  exact hh σ' u
theorem Ctxt.down {L R : KV} (S : Shp σ rt) (c : Ctxt σ rt p L R) (hq : σ p = some q) {kL kR : List Nat} {eL eR : List En} (hk : q.ks = kL ++ i :: kR) (he : q.es = eL ++ eR) (hn : kL.length = eL.length) :
    Ctxt σ rt i (L ++ rowKvs (nk σ) kL eL) (rowR (nk σ) eR kR ++ R) := by
  obtain ⟨d, h, hp, hl⟩ := S.kid p q i hq (by rw [hk]; simp)
  refine ⟨d, h, fun σ' u => ?_⟩
  have hkl : ∀ k ∈ q.ks, ∃ c', σ' k = some c' ∧ c'.lv + 1 = q.lv := by
    intro k hk'
    obtain ⟨c', h1, _, h3⟩ := S.kid p q k hq hk'
    obtain ⟨d', h4, h5⟩ := u.lv k c' h1 (by omega)
    exact ⟨d', h4, by omega⟩
  have hsib : ∀ k ∈ q.ks, k ≠ i → nk σ' k = nk σ k := by
    intro k hk' hne
    obtain ⟨c', h1, _, h3⟩ := S.kid p q k hq hk'
    exact u.at_ k c' h1 (by omega) hne
  obtain ⟨q2, hq2, e1, e2, e3⟩ := u.hi p q hq (by omega)
  have hnd : i ∉ kL ∧ i ∉ kR := by
    have := S.nd p q hq
    rw [hk, List.nodup_append] at this
    refine ⟨fun hm => this.2.2 i hm i (by simp) rfl, ?_⟩
    exact (List.nodup_cons.1 this.2.1).1
  have hrow : nk σ' p = rowKvs (nk σ') q.ks q.es := by
    have := nk_kids (σ := σ') (σ' := σ') (i := p) (d := q2) (fun k hk' => by rw [e2] at hk'; rw [e3]; exact hkl k hk') (fun h0 => by rw [e2]; exact S.leaf p q hq (by omega)) hq2 (fun _ _ => rfl)
    rw [this, e1, e2]
  have up : Upper σ σ' p q.lv := by
    refine ⟨fun j e hj hlt => u.hi j e hj (by omega), fun j e hj he' => ?_, fun j e hj he' hne => ?_⟩
    · obtain ⟨e', h1, _, _, h2⟩ := u.hi j e hj (by omega)
      exact ⟨e', h1, by omega⟩
    · obtain ⟨e', h1, g1, g2, g3⟩ := u.hi j e hj (by omega)
      have hrow' := nk_kids (σ := σ) (σ' := σ') (i := j) (d := e') (fun k hk' => by
        rw [g2] at hk'
        obtain ⟨c', h3, _, h5⟩ := S.kid j e k hj hk'
        obtain ⟨d', h6, h7⟩ := u.lv k c' h3 (by omega)
        exact ⟨d', h6, by omega⟩) (fun h0 => by rw [g2]; exact S.leaf j e hj (by omega)) h1 (fun k hk' => by
        rw [g2] at hk'
        obtain ⟨c', h3, h4, h5⟩ := S.kid j e k hj hk'
        refine u.at_ k c' h3 (by omega) ?_
        rintro rfl
        rw [h] at h3
        injection h3 with h3
        subst h3
        rw [hp] at h4
        injection h4 with h4
        exact hne h4.symm)
      rw [hrow', g1, g2, nk_row S hj]
  rw [c.then hq up, hrow, hk, he, rowKvs_mid _ _ _ _ _ _ hn]
  rw [rowKvs_congr (f := nk σ') (g := nk σ) (ks := kL) fun k hk' => hsib k (by rw [hk]; simp [hk']) (fun e => hnd.1 (e ▸ hk'))]
  rw [rowR_congr (f := nk σ') (g := nk σ) (ks := kR) fun k hk' => hsib k (by rw [hk]; simp [hk']) (fun e => hnd.2 (e ▸ hk'))]
  simp
theorem kid_split (S : Shp σ rt) (hq : σ p = some q) (hi : i ∈ q.ks) : ∃ kL kR eL eR, q.ks = kL ++ i :: kR ∧ q.es = eL ++ eR ∧ kL.length = eL.length := by
  obtain ⟨kL, kR, hk⟩ := List.append_of_mem hi
  have hlen : q.ks.length = q.es.length + 1 := by
    refine S.inner p q hq ?_
    obtain ⟨c, _, _, h⟩ := S.kid p q i hq hi
    omega
  refine ⟨kL, kR, q.es.take kL.length, q.es.drop kL.length, hk, (List.take_append_drop _ _).symm, ?_⟩
  rw [hk] at hlen
  simp only [List.length_append, List.length_cons] at hlen
  rw [List.length_take]
  omega
theorem Ctxt.ex (S : Shp σ rt) (h : σ i = some d) : ∃ L R, Ctxt σ rt i L R := by
  obtain ⟨r, hr, _⟩ := S.root
  suffices hall : ∀ n, ∀ i d, σ i = some d → r.lv - d.lv = n → ∃ L R, Ctxt σ rt i L R from hall _ i d h rfl
  intro n
  induction n with
  | zero =>
    intro i d h hn
    cases hp : d.par with
    | none => rw [S.top i d h hp]; exact ⟨[], [], Ctxt.root S⟩
    | some p =>
      obtain ⟨q, hq, hm⟩ := S.up i d p h hp
      have h1 := (S.kidLv h hp hq).1
      have h2 := S.bd p q r hq hr
      omega
  | succ n ih =>
    intro i d h hn
    cases hp : d.par with
    | none => rw [S.top i d h hp]; exact ⟨[], [], Ctxt.root S⟩
    | some p =>
      obtain ⟨q, hq, hm⟩ := S.up i d p h hp
      have h1 := (S.kidLv h hp hq).1
      have h2 := S.bd p q r hq hr
      obtain ⟨L, R, hc⟩ := ih p q hq (by omega)
      obtain ⟨kL, kR, eL, eR, hk, he, hl⟩ := kid_split S hq hm
      exact ⟨_, _, hc.down S hq hk he hl⟩
theorem nk_root_same (S : Shp σ rt) (hq : σ p = some q) (u : Upper σ σ' p q.lv) (e : nk σ' p = nk σ p) : nk σ' rt = nk σ rt := by
  obtain ⟨L, R, hc⟩ := Ctxt.ex S hq
  rw [hc.then hq u, hc.now, e]
end
structure Surg (σ σ' : Store) (p : Nat) (q q' : ND) : Prop where
  hq : σ p = some q
  hq' : σ' p = some q'
  par : q'.par = q.par
  lv : q'.lv = q.lv
  pos : 0 < q.lv
  len : q'.ks.length = q'.es.length + 1
  nd : q'.ks.Nodup
  old : ∀ k ∈ q.ks, k ∉ q'.ks → σ' k = none
  fresh : ∀ k ∈ q'.ks, k ∈ q.ks ∨ σ k = none
  new : ∀ k ∈ q'.ks, ∃ c, σ' k = some c ∧ c.par = some p ∧ c.lv + 1 = q.lv ∧ (c.lv = 0 → c.ks = []) ∧ (0 < c.lv → c.ks.length = c.es.length + 1) ∧ c.ks.Nodup ∧ ∀ g ∈ c.ks, ∃ x gd, x ∈ q.ks ∧ σ g = some gd ∧ gd.par = some x ∧ σ' g = some { gd with par := some k }
  grand : ∀ g gd x, σ g = some gd → gd.par = some x → x ∈ q.ks → ∃ k c, k ∈ q'.ks ∧ σ' k = some c ∧ g ∈ c.ks
  off : ∀ j, j ≠ p → j ∉ q.ks → j ∉ q'.ks → (∀ d x, σ j = some d → d.par = some x → x ∉ q.ks) → σ' j = σ j
section
variable {σ σ' : Store} {rt i p : Nat} {d q q' : ND}
theorem Surg.cases_ (u : Surg σ σ' p q q') {j : Nat} {d : ND} (h : σ' j = some d) :
    (j = p ∧ d = q') ∨ (j ≠ p ∧ j ∈ q'.ks) ∨ (j ≠ p ∧ j ∉ q'.ks ∧ j ∉ q.ks ∧ ∃ x gd k, x ∈ q.ks ∧ k ∈ q'.ks ∧ σ j = some gd ∧ gd.par = some x ∧ d = { gd with par := some k } ∧ ∃ c, σ' k = some c ∧ j ∈ c.ks) ∨ (j ≠ p ∧ j ∉ q'.ks ∧ j ∉ q.ks ∧ σ j = some d ∧ ∀ x, d.par = some x → x ∉ q.ks) := by
  by_cases hp : j = p
  · subst hp
    rw [u.hq'] at h
    injection h with h
    exact .inl ⟨rfl, h.symm⟩
  · by_cases hn : j ∈ q'.ks
    · exact .inr (.inl ⟨hp, hn⟩)
    · have ho : j ∉ q.ks := fun hm => by rw [u.old j hm hn] at h; cases h
      right; right
      by_cases hg : ∃ gd x, σ j = some gd ∧ gd.par = some x ∧ x ∈ q.ks
      · obtain ⟨gd, x, hgd, hpx, hx⟩ := hg
        obtain ⟨k, c, hk, hc, hm⟩ := u.grand j gd x hgd hpx hx
        obtain ⟨c', hc', _, _, _, _, _, hall⟩ := u.new k hk
        rw [hc] at hc'
        injection hc' with hc'
        subst hc'
        obtain ⟨x', gd', hx', hgd', hp', hs⟩ := hall j hm
        rw [h] at hs
        injection hs with hs
        exact .inl ⟨hp, hn, ho, x', gd', k, hx', hk, hgd', hp', hs, c, hc, hm⟩
      · have hoff := u.off j hp ho hn (fun d x h1 h2 h3 => hg ⟨d, x, h1, h2, h3⟩)
        rw [hoff] at h
        exact .inr ⟨hp, hn, ho, h, fun x h1 h2 => hg ⟨d, x, h, h1, h2⟩⟩
theorem Surg.fwd (u : Surg σ σ' p q q') {j : Nat} {d : ND} (h : σ j = some d) (hp : j ≠ p) (hk : j ∉ q.ks) :
    ∃ d', σ' j = some d' ∧ Sm d d' ∧ ((∀ x, d.par = some x → x ∉ q.ks) → d' = d) := by
  have hn : j ∉ q'.ks := fun hm => by
    rcases u.fresh j hm with h1 | h1
    · exact hk h1
    · rw [h] at h1; cases h1
  by_cases hg : ∃ x, d.par = some x ∧ x ∈ q.ks
  · obtain ⟨x, hpx, hx⟩ := hg
    obtain ⟨k, c, hk', hc, hm⟩ := u.grand j d x h hpx hx
    obtain ⟨c', hc', _, _, _, _, _, hall⟩ := u.new k hk'
    rw [hc] at hc'
    injection hc' with hc'
    subst hc'
    obtain ⟨x', gd', hx', hgd', hp', hs⟩ := hall j hm
    rw [h] at hgd'
    injection hgd' with hgd'
    subst hgd'
    exact ⟨_, hs, ⟨rfl, rfl, rfl⟩, fun hno => absurd hx (hno x hpx)⟩
  · have hoff := u.off j hp hk hn (fun d' x h1 h2 h3 => by
      rw [h] at h1
      injection h1 with h1
      subst h1
      exact hg ⟨x, h2, h3⟩)
    exact ⟨d, by rw [hoff]; exact h, Sm.refl d, fun _ => rfl⟩
theorem Surg.offs (S : Shp σ rt) (u : Surg σ σ' p q q') : Off σ σ' p := fun j d h hj hp => by
  obtain ⟨d', h1, h2, _⟩ := u.fwd h hj (fun hm => by
    obtain ⟨c, hc, hcp, _⟩ := S.kid p q j u.hq hm
    rw [h] at hc
    injection hc with hc
    subst hc
    exact hp hcp)
  exact ⟨d', h1, h2⟩
theorem Surg.upper (S : Shp σ rt) (u : Surg σ σ' p q q') : Upper σ σ' p q.lv := (u.offs S).upper S u.hq u.hq' u.lv
theorem Surg.kid_nk (S : Shp σ rt) (u : Surg σ σ' p q q') {k : Nat} {c : ND} (hk : k ∈ q'.ks) (hc : σ' k = some c) : nk σ' k = rowKvs (nk σ) c.ks c.es := by
  obtain ⟨c', hc', h1, h2, h3, h4, h5, hall⟩ := u.new k hk
  rw [hc] at hc'
  injection hc' with hc'
  subst hc'
  have hpar : ∀ g ∈ c.ks, ∃ x gd, x ∈ q.ks ∧ σ g = some gd ∧ gd.par = some x ∧ gd.lv + 1 = c.lv ∧ σ' g = some { gd with par := some k } := by
    intro g hg
    obtain ⟨x, gd, hx, hgd, hp', hs⟩ := hall g hg
    obtain ⟨xd, hxd, _, hxl⟩ := S.kid p q x u.hq hx
    have := (S.kidLv hgd hp' hxd).1
    exact ⟨x, gd, hx, hgd, hp', by omega, hs⟩
  refine nk_kids (fun g hg => ?_) h3 hc (fun g hg => ?_)
  · obtain ⟨x, gd, _, _, _, hl, hs⟩ := hpar g hg
    exact ⟨_, hs, hl⟩
  · obtain ⟨x, gd, hx, hgd, hp', hl, hs⟩ := hpar g hg
    refine nk_off S u.hq (u.offs S) hgd (by omega) ?_ ?_
    · rintro rfl
      have := u.hq
      rw [hgd] at this
      injection this with this
      subst this
      omega
    · rw [hp']
      intro e
      injection e with e
      subst e
      obtain ⟨xd, hxd, _, hxl⟩ := S.kid x q x u.hq hx
      rw [u.hq] at hxd
      injection hxd with hxd
      subst hxd
      omega
theorem Surg.shp (S : Shp σ rt) (u : Surg σ σ' p q q') : Shp σ' rt := by
  have pno : p ∉ q.ks := fun hm => by
    obtain ⟨c, hc, _, hl⟩ := S.kid p q p u.hq hm
    rw [u.hq] at hc
    injection hc with hc
    subst hc
    omega
  have pno' : p ∉ q'.ks := fun hm => by
    rcases u.fresh p hm with h1 | h1
    · exact pno h1
    · rw [u.hq] at h1; cases h1
  have kidsOf : ∀ j d, σ j = some d → j ≠ p → j ∉ q.ks → ∀ k ∈ d.ks, ∃ c c', σ k = some c ∧ c.par = some j ∧ c.lv + 1 = d.lv ∧ σ' k = some c' ∧ c'.par = some j ∧ c'.lv = c.lv := by
    intro j d h hj hjk k hk
    obtain ⟨c, hc, hcp, hcl⟩ := S.kid j d k h hk
    by_cases hkp : k = p
    · subst hkp
      rw [u.hq] at hc
      injection hc with hc
      subst hc
      exact ⟨q, q', u.hq, hcp, hcl, u.hq', by rw [u.par]; exact hcp, u.lv⟩
    · have hkq : k ∉ q.ks := fun hm => by
        obtain ⟨c2, hc2, hp2, _⟩ := S.kid p q k u.hq hm
        rw [hc] at hc2
        injection hc2 with hc2
        subst hc2
        rw [hcp] at hp2
        injection hp2 with hp2
        exact hj hp2
      obtain ⟨c', h1, h2, h3⟩ := u.fwd hc hkp hkq
      have e := h3 (fun x hx hm => by
        rw [hcp] at hx
        injection hx with hx
        subst hx
        exact hjk hm)
      subst e
      exact ⟨c', c', hc, hcp, hcl, h1, hcp, rfl⟩
  have kidDesc : ∀ k ∈ q'.ks, ∃ c, σ' k = some c ∧ c.par = some p ∧ c.lv + 1 = q.lv ∧ (c.lv = 0 → c.ks = []) ∧ (0 < c.lv → c.ks.length = c.es.length + 1) ∧ c.ks.Nodup ∧ ∀ g ∈ c.ks, ∃ x gd, x ∈ q.ks ∧ σ g = some gd ∧ gd.par = some x ∧ σ' g = some { gd with par := some k } := u.new
  obtain ⟨rd, hrd, hrp⟩ := S.root
  have rootN : rt ∉ q.ks := fun hm => by
    obtain ⟨c, hc, hcp, _⟩ := S.kid p q rt u.hq hm
    rw [hrd] at hc
    injection hc with hc
    subst hc
    rw [hrp] at hcp
    cases hcp
  have root' : ∃ d, σ' rt = some d ∧ d.par = none ∧ d.lv = rd.lv := by
    by_cases e : rt = p
    · subst e
      have hq := u.hq
      rw [hrd] at hq
      injection hq with hq
      subst hq
      exact ⟨q', u.hq', by rw [u.par]; exact hrp, u.lv⟩
    · obtain ⟨d', h1, h2, h3⟩ := u.fwd hrd e rootN
      have e' := h3 (fun x hx => by rw [hrp] at hx; cases hx)
      subst e'
      exact ⟨d', h1, hrp, rfl⟩
  refine ⟨?_, ?_, ?_, ?_, ?_, ?_, ?_, ?_⟩
  · intro j d h h0
    rcases u.cases_ h with ⟨rfl, rfl⟩ | ⟨_, hm⟩ | ⟨_, _, _, x, gd, k, _, _, hgd, _, rfl, _⟩ | ⟨_, _, _, hs, _⟩
    · have := u.lv; have := u.pos; omega
    · obtain ⟨c, hc, _, _, h3, _⟩ := u.new j hm
      rw [h] at hc; injection hc with hc; subst hc
      exact h3 h0
    · exact S.leaf j gd hgd h0
    · exact S.leaf j d hs h0
  · intro j d h h0
    rcases u.cases_ h with ⟨rfl, rfl⟩ | ⟨_, hm⟩ | ⟨_, _, _, x, gd, k, _, _, hgd, _, rfl, _⟩ | ⟨_, _, _, hs, _⟩
    · exact u.len
    · obtain ⟨c, hc, _, _, _, h4, _⟩ := u.new j hm
      rw [h] at hc; injection hc with hc; subst hc
      exact h4 h0
    · exact S.inner j gd hgd h0
    · exact S.inner j d hs h0
  · intro j d k h hk
    rcases u.cases_ h with ⟨rfl, rfl⟩ | ⟨_, hm⟩ | ⟨hjp, hjn, hjo, x, gd, k', hx, _, hgd, _, rfl, _⟩ | ⟨hjp, hjn, hjo, hs, _⟩
    · obtain ⟨c, hc, h1, h2, _⟩ := u.new k hk
      exact ⟨c, hc, h1, by have := u.lv; omega⟩
    · obtain ⟨c, hc, h1, h2, _, _, _, hall⟩ := u.new j hm
      rw [h] at hc; injection hc with hc; subst hc
      obtain ⟨x, gd, hx, hgd, hp', hs⟩ := hall k hk
      obtain ⟨xd, hxd, _, hxl⟩ := S.kid p q x u.hq hx
      have := (S.kidLv hgd hp' hxd).1
      exact ⟨_, hs, rfl, by simp only; omega⟩
    · obtain ⟨c, c', _, _, h3, h4, h5, h6⟩ := kidsOf j gd hgd hjp hjo k hk
      exact ⟨c', h4, h5, by simp only; omega⟩
    · obtain ⟨c, c', _, _, h3, h4, h5, h6⟩ := kidsOf j d hs hjp hjo k hk
      exact ⟨c', h4, h5, by omega⟩
  · intro j d h hp
    rcases u.cases_ h with ⟨rfl, rfl⟩ | ⟨_, hm⟩ | ⟨_, _, _, x, gd, k, _, _, hgd, _, rfl, _⟩ | ⟨_, _, _, hs, _⟩
    · exact S.top j q u.hq (by rw [← u.par]; exact hp)
    · obtain ⟨c, hc, h1, _⟩ := u.new j hm
      rw [h] at hc; injection hc with hc; subst hc
      rw [h1] at hp; cases hp
    · cases hp
    · exact S.top j d hs hp
  · intro j d y h hp
    rcases u.cases_ h with ⟨rfl, rfl⟩ | ⟨_, hm⟩ | ⟨_, _, _, x, gd, k, _, _, hgd, _, rfl, c, hc, hmc⟩ | ⟨hjp, hjn, hjo, hs, hno⟩
    · rw [u.par] at hp
      obtain ⟨yd, hyd, hm⟩ := S.up j q y u.hq hp
      have hyj : y ≠ j := by
        rintro rfl
        rw [u.hq] at hyd; injection hyd with hyd; subst hyd
        exact pno hm
      have hyk : y ∉ q.ks := fun hmy => by
        obtain ⟨c, hc, _, hl⟩ := S.kid j q y u.hq hmy
        rw [hyd] at hc; injection hc with hc; subst hc
        have := (S.kidLv u.hq hp hyd).1
        omega
      obtain ⟨d', h1, h2, _⟩ := u.fwd hyd hyj hyk
      exact ⟨d', h1, by rw [h2.2.1]; exact hm⟩
    · obtain ⟨c, hc, h1, _⟩ := u.new j hm
      rw [h] at hc; injection hc with hc; subst hc
      rw [h1] at hp; injection hp with hp; subst hp
      exact ⟨q', u.hq', hm⟩
    · injection hp with hp
      subst hp
      exact ⟨c, hc, hmc⟩
    · obtain ⟨yd, hyd, hm⟩ := S.up j d y hs hp
      by_cases hyp : y = p
      · subst hyp
        have := u.hq
        rw [hyd] at this; injection this with this; subst this
        exact absurd hm hjo
      · obtain ⟨d', h1, h2, _⟩ := u.fwd hyd hyp (hno y hp)
        exact ⟨d', h1, by rw [h2.2.1]; exact hm⟩
  · intro j d h
    rcases u.cases_ h with ⟨rfl, rfl⟩ | ⟨_, hm⟩ | ⟨_, _, _, x, gd, k, _, _, hgd, _, rfl, _⟩ | ⟨_, _, _, hs, _⟩
    · exact u.nd
    · obtain ⟨c, hc, _, _, _, _, h5, _⟩ := u.new j hm
      rw [h] at hc; injection hc with hc; subst hc
      exact h5
    · exact S.nd j gd hgd
    · exact S.nd j d hs
  · obtain ⟨d, h1, h2, _⟩ := root'
    exact ⟨d, h1, h2⟩
  · intro j d r h hr
    obtain ⟨r', hr', _, hl⟩ := root'
    rw [hr] at hr'; injection hr' with hr'; subst hr'
    have hql := S.bd p q rd u.hq hrd
    rcases u.cases_ h with ⟨rfl, rfl⟩ | ⟨_, hm⟩ | ⟨_, _, _, x, gd, k, _, _, hgd, _, rfl, _⟩ | ⟨_, _, _, hs, _⟩
    · have := u.lv; omega
    · obtain ⟨c, hc, _, h2, _⟩ := u.new j hm
      rw [h] at hc; injection hc with hc; subst hc
      omega
    · have := S.bd j gd rd hgd hrd; simp only; omega
    · have := S.bd j d rd hs hrd; omega
end
end Go.Proofs.Ytgakapigpiaoiaa.Bt

namespace Go.Proofs.Ytgakapigpiaoiaa.Bt
def ksOf (σ : Store) (x : Nat) : List Nat := match σ x with
  | none => []
  | some d => d.ks
structure Seg (σ σ' : Store) (p : Nat) (q : ND) (kL X kR : List Nat) (Y : List (Nat × ND)) (es' : List En) : Prop where
  hq : σ p = some q
  hks : q.ks = kL ++ (X ++ kR)
  hp : σ' p = some ⟨q.par, es', kL ++ (Y.map Prod.fst ++ kR), q.lv⟩
  xn : X ≠ []
  len : (kL ++ (Y.map Prod.fst ++ kR)).length = es'.length + 1
  hY : ∀ y ∈ Y, σ' y.1 = some y.2 ∧ y.2.par = some p ∧ y.2.lv + 1 = q.lv ∧ (y.2.lv = 0 → y.2.ks = []) ∧ (0 < y.2.lv → y.2.ks.length = y.2.es.length + 1) ∧ (y.1 ∈ X ∨ σ y.1 = none)
  nd : (Y.map Prod.fst).Nodup
  hG : (Y.map fun y => y.2.ks).flatten = (X.map (ksOf σ)).flatten
  hg : ∀ y ∈ Y, ∀ g ∈ y.2.ks, ∀ gd, σ g = some gd → σ' g = some { gd with par := some y.1 }
  hX : ∀ x ∈ X, x ∉ Y.map Prod.fst → σ' x = none
  off : ∀ j, j ≠ p → j ∉ X → j ∉ Y.map Prod.fst → j ∉ (X.map (ksOf σ)).flatten → σ' j = σ j
section
variable {σ σ' : Store} {rt i p : Nat} {d q q' : ND} {kL X kR : List Nat} {Y : List (Nat × ND)} {es' : List En}
theorem mem_grand (S : Shp σ rt) {g : Nat} (h : g ∈ (X.map (ksOf σ)).flatten) : ∃ x xd gd, x ∈ X ∧ σ x = some xd ∧ g ∈ xd.ks ∧ σ g = some gd ∧ gd.par = some x ∧ gd.lv + 1 = xd.lv := by
  simp only [List.mem_flatten, List.mem_map] at h
  obtain ⟨l, ⟨x, hx, rfl⟩, hg⟩ := h
  unfold ksOf at hg
  cases hxd : σ x with
  | none => rw [hxd] at hg; simp at hg
  | some xd =>
    rw [hxd] at hg
    obtain ⟨gd, h1, h2, h3⟩ := S.kid x xd g hxd hg
    exact ⟨x, xd, gd, hx, hxd, hg, h1, h2, h3⟩
theorem nodup_grand (S : Shp σ rt) (hn : X.Nodup) : (X.map (ksOf σ)).flatten.Nodup := by
  unfold List.Nodup
  rw [List.pairwise_flatten]
  constructor
  · intro l hl
    obtain ⟨x, _, rfl⟩ := List.mem_map.1 hl
    unfold ksOf
    cases hx : σ x with
    | none => exact List.Pairwise.nil
    | some xd => exact S.nd x xd hx
  · rw [List.pairwise_map]
    refine List.Pairwise.imp ?_ hn
    intro a b hab u hu v hv e
    subst e
    unfold ksOf at hu hv
    cases ha : σ a with
    | none => rw [ha] at hu; simp at hu
    | some ad =>
      cases hb : σ b with
      | none => rw [hb] at hv; simp at hv
      | some bd =>
        rw [ha] at hu
        rw [hb] at hv
        obtain ⟨c, hc, h1, _⟩ := S.kid a ad u ha hu
        obtain ⟨c', hc', h2, _⟩ := S.kid b bd u hb hv
        rw [hc] at hc'; injection hc' with hc'; subst hc'
        rw [h1] at h2; injection h2 with h2
        exact hab h2
theorem Seg.surg (S : Shp σ rt) (s : Seg σ σ' p q kL X kR Y es') : Surg σ σ' p q ⟨q.par, es', kL ++ (Y.map Prod.fst ++ kR), q.lv⟩ := by
  have hnd := S.nd p q s.hq
  rw [s.hks] at hnd
  have memX : ∀ x ∈ X, x ∈ q.ks := fun x hx => by rw [s.hks]; simp [hx]
  have memLR : ∀ k, k ∈ kL ∨ k ∈ kR → k ∈ q.ks := fun k hk => by rw [s.hks]; rcases hk with h | h <;> simp [h]
  have lrX : ∀ k, k ∈ kL ∨ k ∈ kR → k ∉ X := by
    intro k hk hx
    rw [List.nodup_append, List.nodup_append] at hnd
    rcases hk with h | h
    · exact hnd.2.2 k h k (by simp [hx]) rfl
    · exact hnd.2.1.2.2 k hx k h rfl
  have hpos : 0 < q.lv := by
    obtain ⟨x, hx⟩ := List.exists_mem_of_ne_nil X s.xn
    obtain ⟨c, _, _, h⟩ := S.kid p q x s.hq (memX x hx)
    omega
  have lrY : ∀ k, k ∈ kL ∨ k ∈ kR → k ∉ Y.map Prod.fst := by
    intro k hk hm
    obtain ⟨y, hy, rfl⟩ := List.mem_map.1 hm
    rcases (s.hY y hy).2.2.2.2.2 with h | h
    · exact lrX _ hk h
    · obtain ⟨c, hc, _⟩ := S.kid p q y.1 s.hq (memLR _ hk)
      rw [h] at hc; cases hc
  have kidNe : ∀ k ∈ q.ks, k ≠ p := by
    rintro k hk rfl
    obtain ⟨c, hc, _, hl⟩ := S.kid k q k s.hq hk
    rw [s.hq] at hc; injection hc with hc; subst hc; omega
  have lrOff : ∀ k, k ∈ kL ∨ k ∈ kR → σ' k = σ k := by
    intro k hk
    refine s.off k (kidNe k (memLR k hk)) (lrX k hk) (lrY k hk) ?_
    intro hm
    obtain ⟨x, xd, gd, hx, _, _, hgd, hp', _⟩ := mem_grand S hm
    obtain ⟨c, hc, hcp, _⟩ := S.kid p q k s.hq (memLR k hk)
    rw [hgd] at hc; injection hc with hc; subst hc
    rw [hp'] at hcp; injection hcp with hcp
    exact kidNe x (memX x hx) hcp
  have grandOff : ∀ k, k ∈ kL ∨ k ∈ kR → ∀ c, σ k = some c → ∀ g ∈ c.ks, ∃ gd, σ g = some gd ∧ gd.par = some k ∧ σ' g = σ g := by
    intro k hk c hc g hg
    obtain ⟨gd, hgd, hgp, hgl⟩ := S.kid k c g hc hg
    obtain ⟨c', hc', _, hcl⟩ := S.kid p q k s.hq (memLR k hk)
    rw [hc] at hc'; injection hc' with hc'; subst hc'
    have gne : g ∉ q.ks := fun hm => by
      obtain ⟨c2, h1, h2, h3⟩ := S.kid p q g s.hq hm
      rw [hgd] at h1; injection h1 with h1; subst h1
      omega
    refine ⟨gd, hgd, hgp, s.off g ?_ (fun hm => gne (memX g hm)) ?_ ?_⟩
    · rintro rfl
      rw [s.hq] at hgd; injection hgd with hgd; subst hgd; omega
    · intro hm
      obtain ⟨y, hy, rfl⟩ := List.mem_map.1 hm
      rcases (s.hY y hy).2.2.2.2.2 with h | h
      · exact gne (memX _ h)
      · rw [hgd] at h; cases h
    · intro hm
      obtain ⟨x, xd, gd', hx, _, _, hgd', hp', _⟩ := mem_grand S hm
      rw [hgd] at hgd'; injection hgd' with hgd'; subst hgd'
      rw [hgp] at hp'; injection hp' with hp'
      subst hp'
      exact lrX _ hk hx
  have nX : X.Nodup := by
    rw [List.nodup_append, List.nodup_append] at hnd
    exact hnd.2.1.1
  have nG := nodup_grand S nX
  rw [← s.hG] at nG
  unfold List.Nodup at nG
  rw [List.pairwise_flatten] at nG
  refine ⟨s.hq, s.hp, rfl, rfl, hpos, s.len, ?_, ?_, ?_, ?_, ?_, ?_⟩
  · show (kL ++ (Y.map Prod.fst ++ kR)).Nodup
    rw [List.nodup_append, List.nodup_append] at hnd ⊢
    refine ⟨hnd.1, ⟨s.nd, hnd.2.1.2.1, fun a ha b hb e => lrY b (.inr hb) (e ▸ ha)⟩, fun a ha b hb e => ?_⟩
    subst e
    rcases List.mem_append.1 hb with h | h
    · exact lrY a (.inl ha) h
    · exact hnd.2.2 a ha a (by simp [h]) rfl
  · intro k hk hn
    rw [s.hks] at hk
    simp only [List.mem_append] at hk hn
    refine s.hX k ?_ (fun h => hn (.inr (.inl h)))
    rcases hk with h | h | h
    · exact absurd (.inl h) hn
    · exact h
    · exact absurd (.inr (.inr h)) hn
  · intro k hk
    simp only [List.mem_append] at hk
    rcases hk with h | h | h
    · exact .inl (memLR k (.inl h))
    · obtain ⟨y, hy, rfl⟩ := List.mem_map.1 h
      rcases (s.hY y hy).2.2.2.2.2 with h | h
      · exact .inl (memX _ h)
      · exact .inr h
    · exact .inl (memLR k (.inr h))
  · intro k hk
    simp only [List.mem_append] at hk
    have oldCase : k ∈ kL ∨ k ∈ kR → ∃ c, σ' k = some c ∧ c.par = some p ∧ c.lv + 1 = q.lv ∧ (c.lv = 0 → c.ks = []) ∧ (0 < c.lv → c.ks.length = c.es.length + 1) ∧ c.ks.Nodup ∧ ∀ g ∈ c.ks, ∃ x gd, x ∈ q.ks ∧ σ g = some gd ∧ gd.par = some x ∧ σ' g = some { gd with par := some k } := by
      intro hk
      obtain ⟨c, hc, hcp, hcl⟩ := S.kid p q k s.hq (memLR k hk)
      refine ⟨c, by rw [lrOff k hk]; exact hc, hcp, hcl, S.leaf k c hc, S.inner k c hc, S.nd k c hc, fun g hg => ?_⟩
      obtain ⟨gd, h1, h2, h3⟩ := grandOff k hk c hc g hg
      refine ⟨k, gd, memLR k hk, h1, h2, ?_⟩
      rw [h3, h1, ← h2]
    rcases hk with h | h | h
    · exact oldCase (.inl h)
    · obtain ⟨y, hy, rfl⟩ := List.mem_map.1 h
      obtain ⟨h1, h2, h3, h4, h5, _⟩ := s.hY y hy
      refine ⟨y.2, h1, h2, h3, h4, h5, nG.1 y.2.ks (List.mem_map.2 ⟨y, hy, rfl⟩), fun g hg => ?_⟩
      have hm : g ∈ (X.map (ksOf σ)).flatten := by
        rw [← s.hG]
        exact List.mem_flatten.2 ⟨_, List.mem_map.2 ⟨y, hy, rfl⟩, hg⟩
      obtain ⟨x, xd, gd, hx, _, _, hgd, hp', _⟩ := mem_grand S hm
      exact ⟨x, gd, memX x hx, hgd, hp', s.hg y hy g hg gd hgd⟩
    · exact oldCase (.inr h)
  · intro g gd x hgd hgp hx
    obtain ⟨xd, hxd, hm⟩ := S.up g gd x hgd hgp
    rw [s.hks] at hx
    simp only [List.mem_append] at hx
    have oldCase : x ∈ kL ∨ x ∈ kR → ∃ k c, k ∈ kL ++ (Y.map Prod.fst ++ kR) ∧ σ' k = some c ∧ g ∈ c.ks := fun hx =>
      ⟨x, xd, by simp only [List.mem_append]; rcases hx with h | h; exact .inl h; exact .inr (.inr h), by rw [lrOff x hx]; exact hxd, hm⟩
    rcases hx with h | h | h
    · exact oldCase (.inl h)
    · have hm2 : g ∈ (Y.map fun y => y.2.ks).flatten := by
        rw [s.hG]
        refine List.mem_flatten.2 ⟨_, List.mem_map.2 ⟨x, h, rfl⟩, ?_⟩
        unfold ksOf; rw [hxd]; exact hm
      simp only [List.mem_flatten, List.mem_map] at hm2
      obtain ⟨l, ⟨y, hy, rfl⟩, hg⟩ := hm2
      exact ⟨y.1, y.2, by simp only [List.mem_append]; exact .inr (.inl (List.mem_map.2 ⟨y, hy, rfl⟩)), (s.hY y hy).1, hg⟩
    · exact oldCase (.inr h)
  · intro j hj hjq hjn hno
    simp only [List.mem_append, not_or] at hjn
    refine s.off j hj (fun h => hjq (memX j h)) hjn.2.1 ?_
    intro hm
    obtain ⟨x, xd, gd, hx, _, _, hgd, hp', _⟩ := mem_grand S hm
    exact hno gd x hgd hp' (memX x hx)
theorem Seg.old_nk (S : Shp σ rt) (s : Seg σ σ' p q kL X kR Y es') {k : Nat} (hk : k ∈ kL ∨ k ∈ kR) : nk σ' k = nk σ k := by
  have u := s.surg S
  have hm : k ∈ q.ks := by rw [s.hks]; rcases hk with h | h <;> simp [h]
  obtain ⟨c, hc, _⟩ := S.kid p q k s.hq hm
  have hm' : k ∈ kL ++ (Y.map Prod.fst ++ kR) := by rcases hk with h | h <;> simp [h]
  obtain ⟨c', hc', _⟩ := u.new k hm'
  have e : σ' k = σ k := by
    have h1 := u.kid_nk S hm' hc'
    have hnd := S.nd p q s.hq
    rw [s.hks, List.nodup_append, List.nodup_append] at hnd
    have lrX : k ∉ X := by
      intro hx
      rcases hk with h | h
      · exact hnd.2.2 k h k (by simp [hx]) rfl
      · exact hnd.2.1.2.2 k hx k h rfl
    refine s.off k ?_ lrX ?_ ?_
    · rintro rfl
      obtain ⟨c2, hc2, _, hl⟩ := S.kid k q k s.hq hm
      rw [s.hq] at hc2; injection hc2 with hc2; subst hc2; omega
    · intro hy
      have h2 := u.nd
      simp only at h2
      rw [List.nodup_append, List.nodup_append] at h2
      rcases hk with h | h
      · exact h2.2.2 k h k (by simp [hy]) rfl
      · exact h2.2.1.2.2 k hy k h rfl
    · intro hg
      obtain ⟨x, xd, gd, hx, hxd, _, hgd, hp', _⟩ := mem_grand S hg
      obtain ⟨c2, hc2, hp2, _⟩ := S.kid p q k s.hq hm
      rw [hgd] at hc2; injection hc2 with hc2; subst hc2
      rw [hp'] at hp2; injection hp2 with hp2
      subst hp2
      obtain ⟨c3, hc3, _, hl⟩ := S.kid x q x s.hq (by rw [s.hks]; simp [hx])
      rw [s.hq] at hc3; injection hc3 with hc3; subst hc3; omega
  rw [e, hc] at hc'
  injection hc' with hc'
  subst hc'
  rw [u.kid_nk S hm' (by rw [e]; exact hc), nk_row S hc]
theorem Seg.new_nk (S : Shp σ rt) (s : Seg σ σ' p q kL X kR Y es') {y : Nat × ND} (hy : y ∈ Y) : nk σ' y.1 = rowKvs (nk σ) y.2.ks y.2.es :=
  (s.surg S).kid_nk S (by simp only [List.mem_append]; exact .inr (.inl (List.mem_map.2 ⟨y, hy, rfl⟩))) (s.hY y hy).1
theorem Seg.nk (S : Shp σ rt) (s : Seg σ σ' p q kL X kR Y es') {eL E eR F : List En} (he : q.es = eL ++ (E ++ eR)) (he' : es' = eL ++ (F ++ eR)) (hl : kL.length = eL.length) (hX : X.length = E.length + 1) (hY : Y.length = F.length + 1)
    (hM : rowKvs (nk σ') (Y.map Prod.fst) F = rowKvs (nk σ) X E) : nk σ' p = nk σ p ∧ nk σ' rt = nk σ rt ∧ Shp σ' rt := by
  have u := s.surg S
  have S' := u.shp S
  have e : Bt.nk σ' p = Bt.nk σ p := by
    rw [nk_row S' s.hp, nk_row S s.hq, s.hks, he]
    simp only
    rw [he', rowKvs_seg _ _ _ _ _ _ _ hl (by simpa using hY), rowKvs_seg _ _ _ _ _ _ _ hl hX, hM]
    rw [rowKvs_congr (f := Bt.nk σ') (g := Bt.nk σ) (ks := kL) fun k hk => s.old_nk S (.inl hk)]
    rw [rowR_congr (f := Bt.nk σ') (g := Bt.nk σ) (ks := kR) fun k hk => s.old_nk S (.inr hk)]
  exact ⟨e, nk_root_same S s.hq (u.upper S) e, S'⟩
end
section
variable {σ σ' : Store} {rt i p : Nat} {d q q' : ND}
theorem grow_top (S : Shp σ rt) (h : σ rt = some d) (hp : σ p = none) (h1 : σ' p = some ⟨none, [], [rt], d.lv + 1⟩) (h2 : σ' rt = some { d with par := some p }) (ho : ∀ j, j ≠ p → j ≠ rt → σ' j = σ j) : Shp σ' p ∧ nk σ' p = nk σ rt := by
  have hpr : rt ≠ p := by rintro rfl; rw [h] at hp; cases hp
  have hd : d.par = none := by
    obtain ⟨d', hd', e⟩ := S.root
    rw [h] at hd'; injection hd' with hd'; subst hd'; exact e
  have cs : ∀ j e, σ' j = some e → (j = p ∧ e = ⟨none, [], [rt], d.lv + 1⟩) ∨ (j = rt ∧ e = { d with par := some p }) ∨ (j ≠ p ∧ j ≠ rt ∧ σ j = some e) := by
    intro j e hj
    by_cases e1 : j = p
    · subst e1; rw [h1] at hj; injection hj with hj; exact .inl ⟨rfl, hj.symm⟩
    · by_cases e2 : j = rt
      · subst e2; rw [h2] at hj; injection hj with hj; exact .inr (.inl ⟨rfl, hj.symm⟩)
      · exact .inr (.inr ⟨e1, e2, by rw [← ho j e1 e2]; exact hj⟩)
  have rtNo : ∀ j e, σ j = some e → rt ∉ e.ks := fun j e hj hm => by
    obtain ⟨c, hc, hcp, _⟩ := S.kid j e rt hj hm
    rw [h] at hc; injection hc with hc; subst hc; rw [hd] at hcp; cases hcp
  have kid' : ∀ j e k, σ j = some e → k ∈ e.ks → ∃ c, σ' k = some c ∧ c.par = some j ∧ c.lv + 1 = e.lv := by
    intro j e k hj hk
    obtain ⟨c, hc, hcp, hcl⟩ := S.kid j e k hj hk
    refine ⟨c, ?_, hcp, hcl⟩
    rw [ho k ?_ ?_]; exact hc
    · rintro rfl; rw [hp] at hc; cases hc
    · rintro rfl; exact rtNo j e hj hk
  have S' : Shp σ' p := by
    refine ⟨?_, ?_, ?_, ?_, ?_, ?_, ⟨_, h1, rfl⟩, ?_⟩
    · intro j e hj h0
      rcases cs j e hj with ⟨rfl, rfl⟩ | ⟨rfl, rfl⟩ | ⟨_, _, hs⟩
      · simp at h0
      · exact S.leaf _ d h h0
      · exact S.leaf j e hs h0
    · intro j e hj h0
      rcases cs j e hj with ⟨rfl, rfl⟩ | ⟨rfl, rfl⟩ | ⟨_, _, hs⟩
      · rfl
      · exact S.inner _ d h h0
      · exact S.inner j e hs h0
    · intro j e k hj hk
      rcases cs j e hj with ⟨rfl, rfl⟩ | ⟨rfl, rfl⟩ | ⟨_, _, hs⟩
      · simp only [List.mem_singleton] at hk
        subst hk
        exact ⟨_, h2, rfl, rfl⟩
      · exact kid' j d k h hk
      · exact kid' j e k hs hk
    · intro j e hj he
      rcases cs j e hj with ⟨rfl, rfl⟩ | ⟨rfl, rfl⟩ | ⟨_, h3, hs⟩
      · rfl
      · cases he
      · exact absurd (S.top j e hs he) h3
    · intro j e y hj he
      rcases cs j e hj with ⟨rfl, rfl⟩ | ⟨rfl, rfl⟩ | ⟨_, h3, hs⟩
      · cases he
      · injection he with he; subst he; exact ⟨_, h1, by simp⟩
      · obtain ⟨yd, hyd, hm⟩ := S.up j e y hs he
        by_cases hy : y = rt
        · subst hy; rw [h] at hyd; injection hyd with hyd; subst hyd; exact ⟨_, h2, hm⟩
        · refine ⟨yd, ?_, hm⟩
          rw [ho y ?_ hy]; exact hyd
          rintro rfl; rw [hp] at hyd; cases hyd
    · intro j e hj
      rcases cs j e hj with ⟨rfl, rfl⟩ | ⟨rfl, rfl⟩ | ⟨_, h3, hs⟩
      · simp
      · exact S.nd _ d h
      · exact S.nd j e hs
    · intro j e r hj hr
      rw [h1] at hr; injection hr with hr; subst hr
      rcases cs j e hj with ⟨rfl, rfl⟩ | ⟨rfl, rfl⟩ | ⟨_, h3, hs⟩
      · exact Nat.le_refl _
      · exact Nat.le_succ _
      · have := S.bd j e d hs h; simp only; omega
  refine ⟨S', ?_⟩
  rw [nk_row S' h1]
  simp only [rowKvs]
  have A : Off σ σ' rt := fun j e hj hne _ => ⟨e, (ho j (by rintro rfl; rw [hp] at hj; cases hj) hne).trans hj, Sm.refl e⟩
  rw [nk_row S' h2, nk_row S h]
  refine rowKvs_congr fun k hk => ?_
  obtain ⟨c, hc, hcp, hcl⟩ := S.kid rt d k h hk
  have hkr : k ≠ rt := by rintro rfl; rw [h] at hc; injection hc with hc; subst hc; omega
  have hkp : k ≠ p := by rintro rfl; rw [hp] at hc; cases hc
  rw [nk_row S' (by rw [ho k hkp hkr]; exact hc), nk_row S hc]
  refine rowKvs_congr fun g hg => ?_
  obtain ⟨gd, hgd, hgp, hgl⟩ := S.kid k c g hc hg
  refine nk_off S h A hgd (by omega) ?_ ?_
  · rintro rfl; rw [h] at hgd; injection hgd with hgd; subst hgd; omega
  · rw [hgp]; intro e; injection e with e; exact hkr e
theorem shrink_top (S : Shp σ p) (h : σ p = some q) (he : q.es = []) (hk : q.ks = [i]) (hi : σ i = some d) (h1 : σ' p = none) (h2 : σ' i = some { d with par := none }) (ho : ∀ j, j ≠ p → j ≠ i → σ' j = σ j) : Shp σ' i ∧ nk σ' i = nk σ p := by
  obtain ⟨c0, hc0, hip, hil⟩ := S.kid p q i h (by rw [hk]; simp)
  rw [hi] at hc0; injection hc0 with hc0; subst hc0
  have hne : i ≠ p := by rintro rfl; rw [hi] at h; injection h with h; subst h; omega
  have hqp : q.par = none := by
    obtain ⟨d', hd', e⟩ := S.root
    rw [h] at hd'; injection hd' with hd'; subst hd'; exact e
  have cs : ∀ j e, σ' j = some e → (j = i ∧ e = { d with par := none }) ∨ (j ≠ p ∧ j ≠ i ∧ σ j = some e) := by
    intro j e hj
    by_cases e1 : j = p
    · subst e1; rw [h1] at hj; cases hj
    · by_cases e2 : j = i
      · subst e2; rw [h2] at hj; injection hj with hj; exact .inl ⟨rfl, hj.symm⟩
      · exact .inr ⟨e1, e2, by rw [← ho j e1 e2]; exact hj⟩
  have kid' : ∀ j e k, σ j = some e → j ≠ p → k ∈ e.ks → ∃ c, σ' k = some c ∧ c.par = some j ∧ c.lv + 1 = e.lv := by
    intro j e k hj hjp hk'
    obtain ⟨c, hc, hcp, hcl⟩ := S.kid j e k hj hk'
    refine ⟨c, ?_, hcp, hcl⟩
    rw [ho k ?_ ?_]; exact hc
    · rintro rfl; rw [h] at hc; injection hc with hc; subst hc; rw [hqp] at hcp; cases hcp
    · rintro rfl; rw [hi] at hc; injection hc with hc; subst hc; rw [hip] at hcp; injection hcp with hcp; exact hjp hcp.symm
  have S' : Shp σ' i := by
    refine ⟨?_, ?_, ?_, ?_, ?_, ?_, ⟨_, h2, rfl⟩, ?_⟩
    · intro j e hj h0
      rcases cs j e hj with ⟨rfl, rfl⟩ | ⟨_, _, hs⟩
      · exact S.leaf _ d hi h0
      · exact S.leaf j e hs h0
    · intro j e hj h0
      rcases cs j e hj with ⟨rfl, rfl⟩ | ⟨_, _, hs⟩
      · exact S.inner _ d hi h0
      · exact S.inner j e hs h0
    · intro j e k hj hk'
      rcases cs j e hj with ⟨rfl, rfl⟩ | ⟨hjp, _, hs⟩
      · exact kid' j d k hi hne hk'
      · exact kid' j e k hs hjp hk'
    · intro j e hj he'
      rcases cs j e hj with ⟨rfl, rfl⟩ | ⟨hjp, _, hs⟩
      · rfl
      · exact absurd (S.top j e hs he') hjp
    · intro j e y hj he'
      rcases cs j e hj with ⟨rfl, rfl⟩ | ⟨hjp, hji, hs⟩
      · cases he'
      · obtain ⟨yd, hyd, hm⟩ := S.up j e y hs he'
        by_cases hy : y = p
        · subst hy; rw [h] at hyd; injection hyd with hyd; subst hyd
          rw [hk] at hm; simp only [List.mem_singleton] at hm; exact absurd hm hji
        · by_cases hy2 : y = i
          · subst hy2; rw [hi] at hyd; injection hyd with hyd; subst hyd; exact ⟨_, h2, hm⟩
          · exact ⟨yd, by rw [ho y hy hy2]; exact hyd, hm⟩
    · intro j e hj
      rcases cs j e hj with ⟨rfl, rfl⟩ | ⟨hjp, hji, hs⟩
      · exact S.nd _ d hi
      · exact S.nd j e hs
    · intro j e r hj hr
      rw [h2] at hr; injection hr with hr; subst hr
      rcases cs j e hj with ⟨rfl, rfl⟩ | ⟨hjp, hji, hs⟩
      · exact Nat.le_refl _
      · have hb := S.bd j e q hs h
        simp only
        cases hep : e.par with
        | none => exact absurd (S.top j e hs hep) hjp
        | some y =>
          obtain ⟨yd, hyd, hm⟩ := S.up j e y hs hep
          have h3 := (S.kidLv hs hep hyd).1
          have h4 := S.bd y yd q hyd h
          by_cases hlt : yd.lv < q.lv
          · omega
          · omega
  refine ⟨S', ?_⟩
  have A : Off σ σ' p := fun j e hj hne' hp' => ⟨e, (ho j hne' (by rintro rfl; rw [hi] at hj; injection hj with hj; subst hj; exact hp' hip)).trans hj, Sm.refl e⟩
  rw [nk_row S' h2, nk_row S h, he, hk]
  simp only [rowKvs]
  rw [nk_row S hi]
  refine rowKvs_congr fun k hk' => ?_
  obtain ⟨c, hc, hcp, hcl⟩ := S.kid i d k hi hk'
  refine nk_off S h A hc (by omega) ?_ ?_
  · rintro rfl; rw [h] at hc; injection hc with hc; subst hc; omega
  · rw [hcp]; intro e; injection e with e; exact hne e
theorem set_es (S : Shp σ rt) (h : σ i = some d) {es : List En} (hl : d.lv = 0 ∨ es.length = d.es.length) (h1 : σ' i = some { d with es := es }) (ho : ∀ j, j ≠ i → σ' j = σ j) :
    Shp σ' rt ∧ Upper σ σ' i d.lv ∧ nk σ' i = rowKvs (nk σ) d.ks es := by
  have cs : ∀ j e, σ' j = some e → (j = i ∧ e = { d with es := es }) ∨ (j ≠ i ∧ σ j = some e) := by
    intro j e hj
    by_cases e2 : j = i
    · subst e2; rw [h1] at hj; injection hj with hj; exact .inl ⟨rfl, hj.symm⟩
    · exact .inr ⟨e2, by rw [← ho j e2]; exact hj⟩
  have fw : ∀ j e, σ j = some e → ∃ e', σ' j = some e' ∧ e'.par = e.par ∧ e'.ks = e.ks ∧ e'.lv = e.lv := by
    intro j e hj
    by_cases e2 : j = i
    · subst e2; rw [h] at hj; injection hj with hj; subst hj; exact ⟨_, h1, rfl, rfl, rfl⟩
    · exact ⟨e, by rw [ho j e2]; exact hj, rfl, rfl, rfl⟩
  have kid' : ∀ j e k, σ j = some e → k ∈ e.ks → ∃ c, σ' k = some c ∧ c.par = some j ∧ c.lv + 1 = e.lv := by
    intro j e k hj hk
    obtain ⟨c, hc, hcp, hcl⟩ := S.kid j e k hj hk
    obtain ⟨c', h2, h3, _, h4⟩ := fw k c hc
    exact ⟨c', h2, by rw [h3]; exact hcp, by omega⟩
  have S' : Shp σ' rt := by
    refine ⟨?_, ?_, ?_, ?_, ?_, ?_, ?_, ?_⟩
    · intro j e hj h0
      rcases cs j e hj with ⟨rfl, rfl⟩ | ⟨_, hs⟩
      · exact S.leaf _ d h h0
      · exact S.leaf j e hs h0
    · intro j e hj h0
      rcases cs j e hj with ⟨rfl, rfl⟩ | ⟨_, hs⟩
      · have h0' : 0 < d.lv := h0
        have := S.inner _ d h h0'
        show d.ks.length = es.length + 1
        omega
      · exact S.inner j e hs h0
    · intro j e k hj hk
      rcases cs j e hj with ⟨rfl, rfl⟩ | ⟨_, hs⟩
      · exact kid' j d k h hk
      · exact kid' j e k hs hk
    · intro j e hj he
      rcases cs j e hj with ⟨rfl, rfl⟩ | ⟨_, hs⟩
      · exact S.top _ d h he
      · exact S.top j e hs he
    · intro j e y hj he
      rcases cs j e hj with ⟨rfl, rfl⟩ | ⟨_, hs⟩
      · obtain ⟨yd, hyd, hm⟩ := S.up _ d y h he
        obtain ⟨y', g1, _, g2, _⟩ := fw y yd hyd
        exact ⟨y', g1, by rw [g2]; exact hm⟩
      · obtain ⟨yd, hyd, hm⟩ := S.up j e y hs he
        obtain ⟨y', g1, _, g2, _⟩ := fw y yd hyd
        exact ⟨y', g1, by rw [g2]; exact hm⟩
    · intro j e hj
      rcases cs j e hj with ⟨rfl, rfl⟩ | ⟨_, hs⟩
      · exact S.nd _ d h
      · exact S.nd j e hs
    · obtain ⟨r, hr, hrp⟩ := S.root
      obtain ⟨r', g1, g2, _⟩ := fw rt r hr
      exact ⟨r', g1, by rw [g2]; exact hrp⟩
    · intro j e r hj hr
      obtain ⟨r0, hr0, _⟩ := S.root
      obtain ⟨r', g1, _, _, g2⟩ := fw rt r0 hr0
      rw [hr] at g1; injection g1 with g1; subst g1
      rcases cs j e hj with ⟨rfl, rfl⟩ | ⟨_, hs⟩
      · have := S.bd _ d r0 h hr0; simp only; omega
      · have := S.bd j e r0 hs hr0; omega
  have A : Off σ σ' i := fun j e hj hne _ => ⟨e, by rw [ho j hne]; exact hj, Sm.refl e⟩
  refine ⟨S', A.upper S h h1 rfl, ?_⟩
  rw [nk_row S' h1]
  simp only
  refine rowKvs_congr fun k hk => ?_
  obtain ⟨c, hc, hcp, hcl⟩ := S.kid i d k h hk
  have hki : k ≠ i := by rintro rfl; rw [h] at hc; injection hc with hc; subst hc; omega
  rw [nk_row S' (by rw [ho k hki]; exact hc), nk_row S hc]
  refine rowKvs_congr fun g hg => ?_
  obtain ⟨gd, hgd, hgp, hgl⟩ := S.kid k c g hc hg
  refine nk_off S h A hgd (by omega) ?_ ?_
  · rintro rfl; rw [h] at hgd; injection hgd with hgd; subst hgd; omega
  · rw [hgp]; intro e; injection e with e; exact hki e
end
end Go.Proofs.Ytgakapigpiaoiaa.Bt

namespace Go.Proofs.Ytgakapigpiaoiaa.Bt
def rank (o : Ord) (z : Int) (es : List En) : Nat := (es.takeWhile fun e => decide (o.rk e.k < z)).length
section
variable {o : Ord} {z : Int} {es eL eR : List En} {f : Nat → KV} {kL kR : List Nat} {X : KV}
theorem rank_le (o : Ord) (z : Int) (es : List En) : rank o z es ≤ es.length := by
  unfold rank
  exact (List.takeWhile_sublist _).length_le
theorem rank_of (h1 : ∀ e ∈ eL, o.rk e.k < z) (h2 : ∀ e, eR.head? = some e → z ≤ o.rk e.k) : rank o z (eL ++ eR) = eL.length := by
  unfold rank
  rw [List.takeWhile_append_of_pos (by simpa using h1)]
  cases eR with
  | nil => simp
  | cons e eR =>
    have := h2 e rfl
    rw [List.takeWhile_cons_of_neg (by simp; omega)]
    simp
theorem rank_split (o : Ord) (z : Int) (es : List En) : (∀ e ∈ es.take (rank o z es), o.rk e.k < z) ∧ ∀ e, es[rank o z es]? = some e → z ≤ o.rk e.k := by
  induction es with
  | nil => simp
  | cons a es ih =>
    by_cases h : o.rk a.k < z
    · have e : rank o z (a :: es) = rank o z es + 1 := by unfold rank; rw [List.takeWhile_cons_of_pos (by simpa using h)]; rfl
      rw [e]
      refine ⟨fun x hx => ?_, fun x hx => ih.2 x (by simpa using hx)⟩
      simp only [List.take_succ_cons, List.mem_cons] at hx
      rcases hx with rfl | hx
      · exact h
      · exact ih.1 x hx
    · have e : rank o z (a :: es) = 0 := by unfold rank; rw [List.takeWhile_cons_of_neg (by simpa using h)]; rfl
      rw [e]
      refine ⟨fun x hx => by simp at hx, fun x hx => ?_⟩
      simp only [List.getElem?_cons_zero, Option.some.injEq] at hx
      subst hx
      omega
theorem rank_at {n : Nat} (hn : n ≤ es.length) (h1 : ∀ j e, j < n → es[j]? = some e → o.rk e.k < z) (h2 : ∀ e, es[n]? = some e → z ≤ o.rk e.k) : rank o z es = n := by
  have e : es = es.take n ++ es.drop n := (List.take_append_drop _ _).symm
  rw [e, rank_of]
  · simp; omega
  · intro x hx
    obtain ⟨j, hj, rfl⟩ := List.mem_iff_getElem.1 hx
    simp only [List.length_take] at hj
    rw [List.getElem_take]
    exact h1 j _ (by omega) (List.getElem?_eq_getElem _)
  · intro x hx
    rw [List.head?_drop] at hx
    exact h2 x hx
def AscE (o : Ord) (es : List En) : Prop := es.Pairwise fun a b => o.rk a.k < o.rk b.k
theorem AscE.get (h : AscE o es) {i j : Nat} {a b : En} (hij : i < j) (ha : es[i]? = some a) (hb : es[j]? = some b) : o.rk a.k < o.rk b.k := by
  obtain ⟨h1, rfl⟩ := List.getElem?_eq_some_iff.1 ha
  obtain ⟨h2, rfl⟩ := List.getElem?_eq_some_iff.1 hb
  exact (List.pairwise_iff_getElem.1 h) i j h1 h2 hij
theorem mem_rowKvs {ks : List Nat} {e : En} (h : e ∈ es) (hl : ks = [] ∨ es.length ≤ ks.length) : e.kv ∈ rowKvs f ks es := by
  induction ks generalizing es with
  | nil => simp only [rowKvs]; exact List.mem_map.2 ⟨e, h, rfl⟩
  | cons k ks ih =>
    cases es with
    | nil => simp at h
    | cons a es =>
      simp only [rowKvs, List.mem_append, List.mem_cons]
      rcases List.mem_cons.1 h with rfl | h
      · exact .inr (.inl rfl)
      · refine .inr (.inr (ih h ?_))
        rcases hl with hl | hl
        · cases hl
        · exact .inr (by simpa using hl)
theorem asc_es {ks : List Nat} (h : Asc o (rowKvs f ks es)) (hl : ks = [] ∨ es.length ≤ ks.length) : AscE o es := by
  induction ks generalizing es with
  | nil =>
    simp only [rowKvs] at h
    unfold Asc at h
    rw [List.pairwise_map] at h
    exact h
  | cons k ks ih =>
    cases es with
    | nil => exact List.Pairwise.nil
    | cons a es =>
      have hl' : ks = [] ∨ es.length ≤ ks.length := by
        rcases hl with hl | hl
        · cases hl
        · exact .inr (by simpa using hl)
      simp only [rowKvs] at h
      have h2 := asc_append.1 h
      have h3 := List.pairwise_cons.1 h2.2.1
      refine List.pairwise_cons.2 ⟨fun e he => h3.1 e.kv (mem_rowKvs he hl'), ih h3.2 hl'⟩
theorem rowKvs_last (f : Nat → KV) (kL : List Nat) (eL : List En) (e : En) (h : kL.length = eL.length + 1) : rowKvs f kL (eL ++ [e]) = rowKvs f kL eL ++ [e.kv] := by
  have := rowKvs_cut f kL eL e [] [] (.inl h)
  simpa [rowKvs] using this
theorem ahead_row (hA : Asc o (rowKvs f kL eL ++ X)) (hl : kL.length = eL.length) (h : ∀ e ∈ eL, o.rk e.k < z) : ∀ p ∈ rowKvs f kL eL, o.rk p.1 < z := by
  rcases List.eq_nil_or_concat eL with rfl | ⟨eL', e, rfl⟩
  · have : kL = [] := by simpa using hl
    subst this
    intro p hp
    simp [rowKvs] at hp
  · simp only [List.concat_eq_append] at *
    have e1 := rowKvs_last f kL eL' e (by simpa using hl)
    rw [e1, List.append_assoc] at hA
    have he := h e (by simp)
    rw [e1]
    intro p hp
    simp only [List.mem_append, List.mem_singleton] at hp
    rcases hp with hp | rfl
    · have := (asc_append.1 hA).2.2 p hp e.kv (by simp)
      simp only [En.kv] at this
      omega
    · exact he
theorem behind_row (hA : Asc o (rowR f eR kR ++ X)) (h : ∀ e, eR.head? = some e → z ≤ o.rk e.k) : ∀ p ∈ rowR f eR kR, z ≤ o.rk p.1 := by
  cases eR with
  | nil => intro p hp; simp [rowR] at hp
  | cons e eR =>
    have he := h e rfl
    simp only [rowR] at hA ⊢
    intro p hp
    rcases List.mem_cons.1 hp with rfl | hp
    · exact he
    · have := (List.pairwise_cons.1 (asc_append.1 hA).1).1 p hp
      simp only [En.kv] at this
      omega
theorem behind_row' (hA : Asc o (rowR f eR kR ++ X)) (h : ∀ e, eR.head? = some e → z < o.rk e.k) : ∀ p ∈ rowR f eR kR, z < o.rk p.1 := by
  intro p hp
  have := behind_row (z := z + 1) hA (fun e he => by have := h e he; omega) p hp
  omega
end
section
variable {σ σ' : Store} {rt i p : Nat} {d q q' : ND} {o : Ord} {L R : KV}
theorem Shp.fits (S : Shp σ rt) (h : σ i = some d) : d.ks = [] ∨ d.es.length ≤ d.ks.length := by
  rcases Nat.eq_zero_or_pos d.lv with h0 | h0
  · exact .inl (S.leaf i d h h0)
  · exact .inr (by have := S.inner i d h h0; omega)
theorem Shp.asc (S : Shp σ rt) (h : σ i = some d) (ha : Asc o (nk σ rt)) : Asc o (nk σ i) := by
  obtain ⟨L, R, c⟩ := Ctxt.ex S h
  rw [c.now] at ha
  exact (asc_append.1 (asc_append.1 ha).2.1).1
theorem Shp.ascE (S : Shp σ rt) (h : σ i = some d) (ha : Asc o (nk σ rt)) : AscE o d.es := by
  have := S.asc h ha
  rw [nk_row S h] at this
  exact asc_es this (S.fits h)
theorem nk_spot (S : Shp σ rt) (h : σ i = some d) {eL eR : List En} {e : En} (he : d.es = eL ++ e :: eR) :
    nk σ i = rowKvs (nk σ) (d.ks.take (eL.length + 1)) eL ++ e.kv :: rowKvs (nk σ) (d.ks.drop (eL.length + 1)) eR := by
  rw [nk_row S h, he, ← rowKvs_cut]
  · rw [List.take_append_drop]
  · rcases Nat.eq_zero_or_pos d.lv with h0 | h0
    · rw [S.leaf i d h h0]; simp
    · have := S.inner i d h h0
      left
      rw [List.length_take, this, he]
      simp
def Spot (σ : Store) (rt i : Nat) (e : En) (L R : KV) : Prop := ∃ d eL eR L0 R0, σ i = some d ∧ d.es = eL ++ e :: eR ∧ Ctxt σ rt i L0 R0 ∧ L = L0 ++ rowKvs (nk σ) (d.ks.take (eL.length + 1)) eL ∧ R = rowKvs (nk σ) (d.ks.drop (eL.length + 1)) eR ++ R0
theorem Spot.now (S : Shp σ rt) {e : En} (s : Spot σ rt i e L R) : nk σ rt = L ++ e.kv :: R := by
  obtain ⟨d, eL, eR, L0, R0, h, he, c, rfl, rfl⟩ := s
  rw [c.now, nk_spot S h he]
  simp
theorem Ctxt.spot {L0 R0 : KV} (c : Ctxt σ rt i L0 R0) (h : σ i = some d) {eL eR : List En} {e : En} (he : d.es = eL ++ e :: eR) :
    Spot σ rt i e (L0 ++ rowKvs (nk σ) (d.ks.take (eL.length + 1)) eL) (rowKvs (nk σ) (d.ks.drop (eL.length + 1)) eR ++ R0) := ⟨d, eL, eR, L0, R0, h, he, c, rfl, rfl⟩
structure Here (σ : Store) (rt i : Nat) (o : Ord) (k : Int) : Prop where
  ex : ∃ L R, Ctxt σ rt i L R ∧ Ahead o L k ∧ Behind o R k
theorem Here.root (S : Shp σ rt) (o : Ord) (k : Int) : Here σ rt rt o k := ⟨[], [], Ctxt.root S, fun p hp => by simp at hp, fun p hp => by simp at hp⟩
theorem getElem?_split {α : Type} {l : List α} {n : Nat} {a : α} (h : l[n]? = some a) : l = l.take n ++ a :: l.drop (n + 1) := by
  obtain ⟨h1, h2⟩ := List.getElem?_eq_some_iff.1 h
  subst h2
  rw [List.getElem_cons_drop, List.take_append_drop]
theorem Here.down (S : Shp σ rt) (ha : Asc o (nk σ rt)) {k : Int} (H : Here σ rt i o k) (h : σ i = some d) {c : Nat} (hc : d.ks[rank o (o.rk k) d.es]? = some c) (hno : ∀ e, d.es[rank o (o.rk k) d.es]? = some e → o.rk e.k ≠ o.rk k) : Here σ rt c o k := by
  obtain ⟨L, R, cx, h1, h2⟩ := H
  have hk := getElem?_split hc
  have hr := rank_le o (o.rk k) d.es
  have hlen : (d.ks.take (rank o (o.rk k) d.es)).length = (d.es.take (rank o (o.rk k) d.es)).length := by
    have := (List.getElem?_eq_some_iff.1 hc).1
    simp only [List.length_take]; omega
  have he : d.es = d.es.take (rank o (o.rk k) d.es) ++ d.es.drop (rank o (o.rk k) d.es) := (List.take_append_drop _ _).symm
  have cd := cx.down S h hk he hlen
  have hs := rank_split o (o.rk k) d.es
  have hasc := ha
  rw [cd.now] at hasc
  refine ⟨_, _, cd, fun p hp => ?_, fun p hp => ?_⟩
  · rcases List.mem_append.1 hp with hp | hp
    · exact h1 p hp
    · have a1 := (asc_append.1 hasc).1
      have a2 := (asc_append.1 a1).2.1
      exact ahead_row (X := []) (by simpa using a2) hlen hs.1 p hp
  · rcases List.mem_append.1 hp with hp | hp
    · have a1 := (asc_append.1 (asc_append.1 hasc).2.1).2.1
      refine behind_row' a1 (fun e he => ?_) p hp
      rw [List.head?_drop] at he
      have g1 := hs.2 e he
      have g2 := hno e he
      omega
    · exact h2 p hp
theorem Here.hit (S : Shp σ rt) (ha : Asc o (nk σ rt)) {k : Int} (h : σ i = some d) {n : Nat} {e : En} (he : d.es[n]? = some e) (hk : o.rk k = o.rk e.k) :
    ∃ L R, Spot σ rt i e L R ∧ nk σ rt = L ++ e.kv :: R ∧ Ahead o L e.k ∧ look o k (nk σ rt) = some e.kv := by
  obtain ⟨L, R, c⟩ := Ctxt.ex S h
  have sp := c.spot h (getElem?_split he)
  have e1 := sp.now S
  have ha' := ha
  rw [e1] at ha'
  have ah := (asc_mid.1 (show Asc o (_ ++ (e.k, e.v) :: _) from ha')).2.2.1
  refine ⟨_, _, sp, e1, ah, ?_⟩
  rw [e1]
  exact look_here ah hk
theorem Here.miss (S : Shp σ rt) {k : Int} (H : Here σ rt i o k) (h : σ i = some d) (h0 : d.lv = 0) (ha : Asc o (nk σ rt)) (hno : ∀ e, d.es[rank o (o.rk k) d.es]? = some e → o.rk e.k ≠ o.rk k) :
    ∃ L R, Ctxt σ rt i L R ∧ Ahead o (L ++ (d.es.take (rank o (o.rk k) d.es)).map En.kv) k ∧ Behind o ((d.es.drop (rank o (o.rk k) d.es)).map En.kv ++ R) k ∧ nk σ rt = (L ++ (d.es.take (rank o (o.rk k) d.es)).map En.kv) ++ ((d.es.drop (rank o (o.rk k) d.es)).map En.kv ++ R) := by
  obtain ⟨L, R, cx, h1, h2⟩ := H
  have hs := rank_split o (o.rk k) d.es
  have hn := cx.now
  rw [nk_leaf S h h0] at hn
  have hsp : d.es.map En.kv = (d.es.take (rank o (o.rk k) d.es)).map En.kv ++ (d.es.drop (rank o (o.rk k) d.es)).map En.kv := by rw [← List.map_append, List.take_append_drop]
  have hn2 := hn
  rw [hsp] at hn2
  refine ⟨L, R, cx, fun p hp => ?_, fun p hp => ?_, by rw [hn2, List.append_assoc, List.append_assoc]⟩
  · rcases List.mem_append.1 hp with hp | hp
    · exact h1 p hp
    · obtain ⟨e, he, rfl⟩ := List.mem_map.1 hp
      exact hs.1 e he
  · rcases List.mem_append.1 hp with hp | hp
    · have a1 : Asc o (rowR (fun _ => []) (d.es.drop (rank o (o.rk k) d.es)) []) := by
        have ha' := ha
        rw [hn2] at ha'
        have := (asc_append.1 (asc_append.1 (asc_append.1 ha').2.1).1).2.1
        cases hd : d.es.drop (rank o (o.rk k) d.es) with
        | nil => exact List.Pairwise.nil
        | cons e es => rw [hd] at this; simpa [rowR, rowKvs] using this
      refine behind_row' (f := fun _ => []) (kR := []) (X := []) (eR := d.es.drop (rank o (o.rk k) d.es)) (by simpa using a1) (fun e he => ?_) p ?_
      · rw [List.head?_drop] at he
        have g1 := hs.2 e he
        have g2 := hno e he
        omega
      · cases hd : d.es.drop (rank o (o.rk k) d.es) with
        | nil => rw [hd] at hp; simp at hp
        | cons e es => rw [hd] at hp; simpa [rowR, rowKvs] using hp
    · exact h2 p hp
def Sits (σ : Store) (x : Nat) (o : Ord) (z : Int) : Prop := ∀ d p q kL kR eL eR, σ x = some d → d.par = some p → σ p = some q → q.ks = kL ++ x :: kR → q.es = eL ++ eR → kL.length = eL.length → (∀ e ∈ eL, o.rk e.k < z) ∧ ∀ e ∈ eR, z ≤ o.rk e.k
theorem Sits.rank {x : Nat} {z : Int} (s : Sits σ x o z) (h : σ x = some d) (hp : d.par = some p) (hq : σ p = some q) {kL kR : List Nat} {eL eR : List En} (hk : q.ks = kL ++ x :: kR) (he : q.es = eL ++ eR) (hl : kL.length = eL.length) : rank o z q.es = kL.length := by
  have := s d p q kL kR eL eR h hp hq hk he hl
  rw [he, rank_of this.1 (fun e he' => this.2 e (by cases eR with | nil => simp at he' | cons a b => simp only [List.head?_cons, Option.some.injEq] at he'; subst he'; simp)), hl]
theorem sits_of (S : Shp σ rt) (ha : Asc o (nk σ rt)) {x : Nat} (h : σ x = some d) {u : Int × Int} (hu : u ∈ nk σ x) : Sits σ x o (o.rk u.1) := by
  intro d' p q kL kR eL eR hd hp hq hk he hl
  rw [h] at hd; injection hd with hd; subst hd
  have a := S.asc hq ha
  rw [nk_row S hq, hk, he, rowKvs_mid _ _ _ _ _ _ hl] at a
  have hm := S.inner p q hq (by have := (S.kidLv h hp hq).1; omega)
  refine ⟨fun e hm' => ?_, fun e hm' => ?_⟩
  · exact (asc_append.1 a).2.2 e.kv (mem_rowKvs hm' (.inr (by omega))) u (by simp [hu])
  · have h3 := (asc_append.1 (asc_append.1 a).2.1).2.2 u hu e.kv ?_
    · simp only [En.kv] at h3; omega
    · cases eR with
      | nil => simp at hm'
      | cons b eR =>
        simp only [rowR]
        rcases List.mem_cons.1 hm' with rfl | hm'
        · simp
        · refine List.mem_cons_of_mem _ (mem_rowKvs hm' ?_)
          right
          rw [hk, he] at hm
          simp only [List.length_append, List.length_cons] at hm
          omega
end
end Go.Proofs.Ytgakapigpiaoiaa.Bt

namespace Go.Proofs.Ytgakapigpiaoiaa.Bt
section
variable {σ σ' : Store} {rt x p l r a b n nr : Nat} {d q da db : ND} {kL kR kA kB : List Nat} {eL eR eA eB : List En} {e f : En}
theorem Shp.kidOf (S : Shp σ rt) (hq : σ p = some q) (hk : x ∈ q.ks) (hx : σ x = some d) : d.par = some p ∧ d.lv + 1 = q.lv := by
  obtain ⟨c, hc, h1, h2⟩ := S.kid p q x hq hk
  rw [hx] at hc; injection hc with hc; subst hc
  exact ⟨h1, h2⟩
theorem Shp.not_own (S : Shp σ rt) (hq : σ p = some q) : p ∉ q.ks := fun hm => by
  obtain ⟨c, hc, _, h2⟩ := S.kid p q p hq hm
  rw [hq] at hc; injection hc with hc; subst hc
  omega
def Cut (lv : Nat) (kA kB : List Nat) (eA eB : List En) : Prop := (lv = 0 ∧ kA = [] ∧ kB = []) ∨ (0 < lv ∧ kA.length = eA.length + 1 ∧ kB.length = eB.length + 1)
theorem Cut.row {lv : Nat} (h : Cut lv kA kB eA eB) : kA.length = eA.length + 1 ∨ kA = [] ∧ kB = [] := by
  rcases h with ⟨_, h1, h2⟩ | ⟨_, h1, _⟩
  · exact .inr ⟨h1, h2⟩
  · exact .inl h1
theorem split_seg (S : Shp σ rt) (hx : σ x = some d) (hq : σ p = some q) (hes : d.es = eA ++ e :: eB) (hks : d.ks = kA ++ kB) (hc : Cut d.lv kA kB eA eB)
    (hqk : q.ks = kL ++ x :: kR) (hqe : q.es = eL ++ eR) (hlen : kL.length = eL.length) (hl0 : σ l = none) (hr0 : σ r = none) (hlr : l ≠ r)
    (h_l : σ' l = some ⟨some p, eA, kA, d.lv⟩) (h_r : σ' r = some ⟨some p, eB, kB, d.lv⟩) (h_p : σ' p = some ⟨q.par, eL ++ e :: eR, kL ++ l :: r :: kR, q.lv⟩) (h_x : σ' x = none)
    (hgA : ∀ g ∈ kA, ∀ gd, σ g = some gd → σ' g = some { gd with par := some l }) (hgB : ∀ g ∈ kB, ∀ gd, σ g = some gd → σ' g = some { gd with par := some r })
    (off : ∀ j, j ≠ p → j ≠ x → j ≠ l → j ≠ r → j ∉ kA → j ∉ kB → σ' j = σ j) : nk σ' p = nk σ p ∧ nk σ' rt = nk σ rt ∧ Shp σ' rt := by
  obtain ⟨hpar, hlv⟩ := S.kidOf hq (by rw [hqk]; simp) hx
  have hxl : x ≠ l := fun e => by rw [e, hl0] at hx; cases hx
  have hxr : x ≠ r := fun e => by rw [e, hr0] at hx; cases hx
  have hkso : ksOf σ x = kA ++ kB := by unfold ksOf; rw [hx]; exact hks
  have s : Seg σ σ' p q kL [x] kR [(l, ⟨some p, eA, kA, d.lv⟩), (r, ⟨some p, eB, kB, d.lv⟩)] (eL ++ e :: eR) := by
    refine ⟨hq, by simpa using hqk, by simpa using h_p, by simp, ?_, ?_, by simpa using hlr, by simp [hkso], ?_, ?_, ?_⟩
    · have := S.inner p q hq (by omega)
      rw [hqk, hqe] at this
      simp only [List.length_append, List.length_cons] at this
      simp; omega
    · intro y hy
      simp only [List.mem_cons, List.not_mem_nil, or_false] at hy
      rcases hy with rfl | rfl
      · refine ⟨h_l, rfl, hlv, fun h0 => ?_, fun h0 => ?_, .inr hl0⟩
        · rcases hc with ⟨_, h1, _⟩ | ⟨h1, _⟩
          · exact h1
          · simp only at h0; omega
        · rcases hc with ⟨h1, _⟩ | ⟨_, h1, _⟩
          · simp only at h0; omega
          · exact h1
      · refine ⟨h_r, rfl, hlv, fun h0 => ?_, fun h0 => ?_, .inr hr0⟩
        · rcases hc with ⟨_, _, h1⟩ | ⟨h1, _⟩
          · exact h1
          · simp only at h0; omega
        · rcases hc with ⟨h1, _⟩ | ⟨_, _, h1⟩
          · simp only at h0; omega
          · exact h1
    · intro y hy g hg gd hgd
      simp only [List.mem_cons, List.not_mem_nil, or_false] at hy
      rcases hy with rfl | rfl
      · exact hgA g hg gd hgd
      · exact hgB g hg gd hgd
    · intro y hy _
      simp only [List.mem_singleton] at hy
      subst hy; exact h_x
    · intro j h1 h2 h3 h4
      simp only [List.map_cons, List.map_nil, List.mem_cons, List.not_mem_nil, or_false, not_or] at h2 h3
      simp only [List.map_cons, List.map_nil, List.flatten_cons, List.flatten_nil, List.append_nil, hkso, List.mem_append, not_or] at h4
      exact off j h1 h2 h3.1 h3.2 h4.1 h4.2
  refine s.nk S (eL := eL) (E := []) (eR := eR) (F := [e]) (by simpa using hqe) (by simp) hlen rfl rfl ?_
  have nl := s.new_nk S (y := (l, ⟨some p, eA, kA, d.lv⟩)) (by simp)
  have nr := s.new_nk S (y := (r, ⟨some p, eB, kB, d.lv⟩)) (by simp)
  simp only at nl nr
  simp only [List.map_cons, List.map_nil, rowKvs]
  rw [nl, nr, nk_row S hx, hes, hks, rowKvs_cut _ _ _ _ _ _ hc.row]
theorem splitRoot_seg (S : Shp σ x) (hx : σ x = some d) (hes : d.es = eA ++ e :: eB) (hks : d.ks = kA ++ kB) (hc : Cut d.lv kA kB eA eB)
    (hl0 : σ l = none) (hr0 : σ r = none) (hn0 : σ nr = none) (hlr : l ≠ r) (hln : l ≠ nr) (hrn : r ≠ nr)
    (h_l : σ' l = some ⟨some nr, eA, kA, d.lv⟩) (h_r : σ' r = some ⟨some nr, eB, kB, d.lv⟩) (h_n : σ' nr = some ⟨none, [e], [l, r], d.lv + 1⟩) (h_x : σ' x = none)
    (hgA : ∀ g ∈ kA, ∀ gd, σ g = some gd → σ' g = some { gd with par := some l }) (hgB : ∀ g ∈ kB, ∀ gd, σ g = some gd → σ' g = some { gd with par := some r })
    (off : ∀ j, j ≠ nr → j ≠ x → j ≠ l → j ≠ r → j ∉ kA → j ∉ kB → σ' j = σ j) : nk σ' nr = nk σ x ∧ Shp σ' nr := by
  have hxn : x ≠ nr := fun e => by rw [e, hn0] at hx; cases hx
  have hxl : x ≠ l := fun e => by rw [e, hl0] at hx; cases hx
  have hxr : x ≠ r := fun e => by rw [e, hr0] at hx; cases hx
  have own := S.not_own hx
  obtain ⟨S0, n0⟩ := grow_top (p := nr) (σ' := upd (upd σ x (some { d with par := some nr })) nr (some ⟨none, [], [x], d.lv + 1⟩)) S hx hn0 (upd_at _ _ _) (by rw [upd_ne _ _ hxn, upd_at]) (fun j h1 h2 => by rw [upd_ne _ _ h1, upd_ne _ _ h2])
  have kidsNe : ∀ g, g ∈ kA ∨ g ∈ kB → g ≠ x ∧ g ≠ nr := by
    intro g hg
    have hm : g ∈ d.ks := by rw [hks]; simpa using hg
    refine ⟨fun e => own (e ▸ hm), fun e => ?_⟩
    obtain ⟨c, hc, _⟩ := S.kid x d g hx hm
    rw [e, hn0] at hc; cases hc
  have := split_seg (σ' := σ') (x := x) (p := nr) (l := l) (r := r) (kL := []) (kR := []) (eL := []) (eR := []) (e := e) (kA := kA) (kB := kB) (eA := eA) (eB := eB) S0 (d := { d with par := some nr }) (q := ⟨none, [], [x], d.lv + 1⟩) (by rw [upd_ne _ _ hxn, upd_at]) (upd_at _ _ _) hes hks hc rfl rfl rfl
    (by rw [upd_ne _ _ hln, upd_ne _ _ hxl.symm]; exact hl0) (by rw [upd_ne _ _ hrn, upd_ne _ _ hxr.symm]; exact hr0) hlr h_l h_r h_n h_x
    (fun g hg gd hgd => by have := kidsNe g (.inl hg); rw [upd_ne _ _ this.2, upd_ne _ _ this.1] at hgd; exact hgA g hg gd hgd)
    (fun g hg gd hgd => by have := kidsNe g (.inr hg); rw [upd_ne _ _ this.2, upd_ne _ _ this.1] at hgd; exact hgB g hg gd hgd)
    (fun j h1 h2 h3 h4 h5 h6 => by rw [off j h1 h2 h3 h4 h5 h6, upd_ne _ _ h1, upd_ne _ _ h2])
  exact ⟨this.2.1.trans n0, this.2.2⟩
theorem recut_seg (S : Shp σ rt) (ha : σ a = some da) (hb : σ b = some db) (hq : σ p = some q) (hqk : q.ks = kL ++ a :: b :: kR) (hqe : q.es = eL ++ e :: eR) (hlen : kL.length = eL.length)
    {ea eb : List En} {ka kb : List Nat} (he : da.es ++ e :: db.es = ea ++ f :: eb) (hk : da.ks ++ db.ks = ka ++ kb) (hc : Cut da.lv ka kb ea eb)
    (h_a : σ' a = some ⟨some p, ea, ka, da.lv⟩) (h_b : σ' b = some ⟨some p, eb, kb, da.lv⟩) (h_p : σ' p = some ⟨q.par, eL ++ f :: eR, q.ks, q.lv⟩)
    (hgA : ∀ g ∈ ka, ∀ gd, σ g = some gd → σ' g = some { gd with par := some a }) (hgB : ∀ g ∈ kb, ∀ gd, σ g = some gd → σ' g = some { gd with par := some b })
    (off : ∀ j, j ≠ p → j ≠ a → j ≠ b → j ∉ ka → j ∉ kb → σ' j = σ j) : nk σ' p = nk σ p ∧ nk σ' rt = nk σ rt ∧ Shp σ' rt := by
  obtain ⟨hpa, hla⟩ := S.kidOf hq (by rw [hqk]; simp) ha
  obtain ⟨hpb, hlb⟩ := S.kidOf hq (by rw [hqk]; simp) hb
  have hab : a ≠ b := by
    have := S.nd p q hq
    rw [hqk, List.nodup_append] at this
    have := (List.nodup_cons.1 this.2.1).1
    simp only [List.mem_cons, not_or] at this
    exact this.1
  have hka : ksOf σ a = da.ks := by unfold ksOf; rw [ha]
  have hkb : ksOf σ b = db.ks := by unfold ksOf; rw [hb]
  have hcOld : da.ks.length = da.es.length + 1 ∨ da.ks = [] ∧ db.ks = [] := by
    rcases Nat.eq_zero_or_pos da.lv with h0 | h0
    · exact .inr ⟨S.leaf a da ha h0, S.leaf b db hb (by omega)⟩
    · exact .inl (S.inner a da ha h0)
  have s : Seg σ σ' p q kL [a, b] kR [(a, ⟨some p, ea, ka, da.lv⟩), (b, ⟨some p, eb, kb, da.lv⟩)] (eL ++ f :: eR) := by
    refine ⟨hq, by simpa using hqk, by rw [h_p, hqk]; simp, by simp, ?_, ?_, by simpa using hab, by simp [hka, hkb, hk], ?_, ?_, ?_⟩
    · have := S.inner p q hq (by omega)
      rw [hqk, hqe] at this
      simp only [List.length_append, List.length_cons] at this
      simp; omega
    · intro y hy
      simp only [List.mem_cons, List.not_mem_nil, or_false] at hy
      rcases hy with rfl | rfl
      · refine ⟨h_a, rfl, hla, fun h0 => ?_, fun h0 => ?_, .inl (by simp)⟩
        · rcases hc with ⟨_, h1, _⟩ | ⟨h1, _⟩
          · exact h1
          · simp only at h0; omega
        · rcases hc with ⟨h1, _⟩ | ⟨_, h1, _⟩
          · simp only at h0; omega
          · exact h1
      · refine ⟨h_b, rfl, hla, fun h0 => ?_, fun h0 => ?_, .inl (by simp)⟩
        · rcases hc with ⟨_, _, h1⟩ | ⟨h1, _⟩
          · exact h1
          · simp only at h0; omega
        · rcases hc with ⟨h1, _⟩ | ⟨_, _, h1⟩
          · simp only at h0; omega
          · exact h1
    · intro y hy g hg gd hgd
      simp only [List.mem_cons, List.not_mem_nil, or_false] at hy
      rcases hy with rfl | rfl
      · exact hgA g hg gd hgd
      · exact hgB g hg gd hgd
    · intro y hy hn
      simp only [List.mem_cons, List.not_mem_nil, or_false] at hy
      exact absurd (by rcases hy with rfl | rfl <;> simp) hn
    · intro j h1 h2 h3 h4
      simp only [List.mem_cons, List.not_mem_nil, or_false, not_or] at h2
      simp only [List.map_cons, List.map_nil, List.flatten_cons, List.flatten_nil, List.append_nil, hka, hkb, hk, List.mem_append, not_or] at h4
      exact off j h1 h2.1 h2.2 h4.1 h4.2
  refine s.nk S (eL := eL) (E := [e]) (eR := eR) (F := [f]) (by simpa using hqe) (by simp) hlen rfl rfl ?_
  have na := s.new_nk S (y := (a, ⟨some p, ea, ka, da.lv⟩)) (by simp)
  have nb := s.new_nk S (y := (b, ⟨some p, eb, kb, da.lv⟩)) (by simp)
  simp only at na nb
  simp only [List.map_cons, List.map_nil, rowKvs]
  rw [na, nb, nk_row S ha, nk_row S hb, ← rowKvs_cut _ _ _ _ _ _ hc.row, ← rowKvs_cut _ _ _ _ _ _ hcOld, he, hk]
theorem merge_seg (S : Shp σ rt) (ha : σ a = some da) (hb : σ b = some db) (hq : σ p = some q) (hqk : q.ks = kL ++ a :: b :: kR) (hqe : q.es = eL ++ e :: eR) (hlen : kL.length = eL.length)
    {n m : Nat} (hn : n = a ∧ m = b ∨ n = b ∧ m = a)
    (h_n : σ' n = some ⟨some p, da.es ++ e :: db.es, da.ks ++ db.ks, da.lv⟩) (h_m : σ' m = none) (h_p : σ' p = some ⟨q.par, eL ++ eR, kL ++ n :: kR, q.lv⟩)
    (hg : ∀ g, g ∈ da.ks ∨ g ∈ db.ks → ∀ gd, σ g = some gd → σ' g = some { gd with par := some n })
    (off : ∀ j, j ≠ p → j ≠ a → j ≠ b → j ∉ da.ks → j ∉ db.ks → σ' j = σ j) : nk σ' p = nk σ p ∧ nk σ' rt = nk σ rt ∧ Shp σ' rt := by
  obtain ⟨hpa, hla⟩ := S.kidOf hq (by rw [hqk]; simp) ha
  obtain ⟨hpb, hlb⟩ := S.kidOf hq (by rw [hqk]; simp) hb
  have hka : ksOf σ a = da.ks := by unfold ksOf; rw [ha]
  have hkb : ksOf σ b = db.ks := by unfold ksOf; rw [hb]
  have hcOld : da.ks.length = da.es.length + 1 ∨ da.ks = [] ∧ db.ks = [] := by
    rcases Nat.eq_zero_or_pos da.lv with h0 | h0
    · exact .inr ⟨S.leaf a da ha h0, S.leaf b db hb (by omega)⟩
    · exact .inl (S.inner a da ha h0)
  have s : Seg σ σ' p q kL [a, b] kR [(n, ⟨some p, da.es ++ e :: db.es, da.ks ++ db.ks, da.lv⟩)] (eL ++ eR) := by
    refine ⟨hq, by simpa using hqk, by simpa using h_p, by simp, ?_, ?_, by simp, by simp [hka, hkb], ?_, ?_, ?_⟩
    · have := S.inner p q hq (by omega)
      rw [hqk, hqe] at this
      simp only [List.length_append, List.length_cons] at this
      simp; omega
    · intro y hy
      simp only [List.mem_singleton] at hy
      subst hy
      refine ⟨h_n, rfl, hla, fun h0 => ?_, fun h0 => ?_, .inl (by rcases hn with ⟨rfl, _⟩ | ⟨rfl, _⟩ <;> simp)⟩
      · simp only at h0 ⊢
        rw [S.leaf a da ha h0, S.leaf b db hb (by omega)]; rfl
      · simp only at h0 ⊢
        have h1 := S.inner a da ha h0
        have h2 := S.inner b db hb (by omega)
        simp only [List.length_append, List.length_cons]; omega
    · intro y hy g hgm gd hgd
      simp only [List.mem_singleton] at hy
      subst hy
      exact hg g (by simpa using hgm) gd hgd
    · intro y hy hno
      simp only [List.mem_cons, List.not_mem_nil, or_false] at hy
      simp only [List.map_cons, List.map_nil, List.mem_singleton] at hno
      have : y = m := by
        rcases hn with ⟨rfl, rfl⟩ | ⟨rfl, rfl⟩ <;> rcases hy with rfl | rfl
        · exact absurd rfl hno
        · rfl
        · rfl
        · exact absurd rfl hno
      subst this; exact h_m
    · intro j h1 h2 h3 h4
      simp only [List.mem_cons, List.not_mem_nil, or_false, not_or] at h2
      simp only [List.map_cons, List.map_nil, List.flatten_cons, List.flatten_nil, List.append_nil, hka, hkb, List.mem_append, not_or] at h4
      exact off j h1 h2.1 h2.2 h4.1 h4.2
  refine s.nk S (eL := eL) (E := [e]) (eR := eR) (F := []) (by simpa using hqe) (by simp) hlen rfl rfl ?_
  have nn := s.new_nk S (y := (n, ⟨some p, da.es ++ e :: db.es, da.ks ++ db.ks, da.lv⟩)) (by simp)
  simp only at nn
  simp only [List.map_cons, List.map_nil, rowKvs]
  rw [nn, nk_row S ha, nk_row S hb, rowKvs_cut _ _ _ _ _ _ hcOld]
end
end Go.Proofs.Ytgakapigpiaoiaa.Bt

namespace Go.Proofs.Ytgakapigpiaoiaa.Bt
theorem ins_between {o : Ord} {k v : Int} {A B : KV} (h1 : Ahead o A k) (h2 : Behind o B k) : ins o k v (A ++ B) = A ++ (k, v) :: B := by
  rw [ins_ahead h1]
  congr 1
  cases B with
  | nil => rfl
  | cons p B =>
    obtain ⟨a, x⟩ := p
    have := h2 (a, x) (by simp)
    simp only at this
    rw [ins, if_pos this]
theorem look_between {o : Ord} {k : Int} {A B : KV} (h1 : Ahead o A k) (h2 : Behind o B k) : look o k (A ++ B) = none := by
  rw [look_ahead h1]
  cases B with
  | nil => rfl
  | cons p B =>
    obtain ⟨a, x⟩ := p
    have := h2 (a, x) (by simp)
    simp only at this
    rw [look, if_pos this]
theorem insertIdx_take {β : Type} (l : List β) (n : Nat) (u : β) (h : n ≤ l.length) : l.insertIdx n u = l.take n ++ u :: l.drop n := by
  apply List.ext_getElem?
  intro k
  rw [List.getElem?_insertIdx]
  by_cases h1 : k < n
  · rw [if_pos h1, List.getElem?_append_left (by rw [List.length_take]; omega), List.getElem?_take_of_lt h1]
  · rw [if_neg h1, List.getElem?_append_right (by rw [List.length_take]; omega), List.length_take, Nat.min_eq_left h]
    by_cases h2 : k = n
    · subst h2; rw [if_pos rfl, if_pos h, Nat.sub_self]; rfl
    · rw [if_neg h2]
      obtain ⟨q, rfl⟩ : ∃ q, k = n + 1 + q := ⟨k - (n + 1), by omega⟩
      rw [show n + 1 + q - n = q + 1 by omega, List.getElem?_cons_succ, List.getElem?_drop]
      congr 1; omega
theorem set_take {β : Type} (l : List β) (n : Nat) (u : β) (h : n < l.length) : l.set n u = l.take n ++ u :: l.drop (n + 1) := by
  apply List.ext_getElem?
  intro k
  rw [List.getElem?_set]
  by_cases h1 : k < n
  · rw [if_neg (by omega), List.getElem?_append_left (by rw [List.length_take]; omega), List.getElem?_take_of_lt h1]
  · rw [List.getElem?_append_right (by rw [List.length_take]; omega), List.length_take, Nat.min_eq_left (by omega)]
    by_cases h2 : n = k
    · subst h2; rw [if_pos rfl, if_pos h, Nat.sub_self]; rfl
    · rw [if_neg h2]
      obtain ⟨q, rfl⟩ : ∃ q, k = n + 1 + q := ⟨k - (n + 1), by omega⟩
      rw [show n + 1 + q - n = q + 1 by omega, List.getElem?_cons_succ, List.getElem?_drop]
section
variable {σ : Store} {rt i : Nat} {d : ND} {o : Ord}
theorem hit_set (S : Shp σ rt) (ha : Asc o (nk σ rt)) (h : σ i = some d) {n : Nat} {e en : En} (he : d.es[n]? = some e) (hk : o.rk en.k = o.rk e.k) :
    Shp (upd σ i (some { d with es := d.es.set n en })) rt ∧ nk (upd σ i (some { d with es := d.es.set n en })) rt = ins o en.k en.v (nk σ rt) ∧ look o en.k (nk σ rt) = some e.kv := by
  have hn := (List.getElem?_eq_some_iff.1 he).1
  obtain ⟨S', U, hnk⟩ := set_es (σ' := upd σ i (some { d with es := d.es.set n en })) (es := d.es.set n en) S h (.inr (by simp)) (upd_at _ _ _) (fun j hj => upd_ne _ _ hj)
  obtain ⟨L, R, c⟩ := Ctxt.ex S h
  have hes := getElem?_split he
  have hcut : ∀ u : En, rowKvs (nk σ) d.ks (d.es.take n ++ u :: d.es.drop (n + 1)) = rowKvs (nk σ) (d.ks.take (n + 1)) (d.es.take n) ++ u.kv :: rowKvs (nk σ) (d.ks.drop (n + 1)) (d.es.drop (n + 1)) := by
    intro u
    rw [← rowKvs_cut, List.take_append_drop]
    rcases Nat.eq_zero_or_pos d.lv with h0 | h0
    · rw [S.leaf i d h h0]; simp
    · have := S.inner i d h h0
      left
      simp only [List.length_take]; omega
  have old := c.now
  rw [nk_row S h, hes, hcut] at old
  have e1 : rowKvs (nk σ) d.ks (d.es.set n en) = rowKvs (nk σ) (d.ks.take (n + 1)) (d.es.take n) ++ en.kv :: rowKvs (nk σ) (d.ks.drop (n + 1)) (d.es.drop (n + 1)) := by
    rw [set_take _ _ _ hn, hcut]
  have hnk2 := hnk.trans e1
  have new := c.then h U
  rw [hnk2] at new
  have old' : nk σ rt = (L ++ rowKvs (nk σ) (d.ks.take (n + 1)) (d.es.take n)) ++ (e.k, e.v) :: (rowKvs (nk σ) (d.ks.drop (n + 1)) (d.es.drop (n + 1)) ++ R) := by rw [old]; simp [En.kv]
  have ah : Ahead o (L ++ rowKvs (nk σ) (d.ks.take (n + 1)) (d.es.take n)) e.k := by
    rw [old'] at ha
    exact (asc_mid.1 ha).2.2.1
  refine ⟨S', ?_, ?_⟩
  · rw [new, old', ins_here ah hk]; simp [En.kv]
  · rw [old', look_here ah hk]; rfl
theorem miss_ins (S : Shp σ rt) (ha : Asc o (nk σ rt)) (h : σ i = some d) (h0 : d.lv = 0) {en : En} (H : Here σ rt i o en.k) (hno : ∀ e, d.es[rank o (o.rk en.k) d.es]? = some e → o.rk e.k ≠ o.rk en.k) :
    Shp (upd σ i (some { d with es := d.es.insertIdx (rank o (o.rk en.k) d.es) en })) rt ∧ nk (upd σ i (some { d with es := d.es.insertIdx (rank o (o.rk en.k) d.es) en })) rt = ins o en.k en.v (nk σ rt) ∧ look o en.k (nk σ rt) = none := by
  obtain ⟨S', U, hnk⟩ := set_es (σ' := upd σ i (some { d with es := d.es.insertIdx (rank o (o.rk en.k) d.es) en })) (es := d.es.insertIdx (rank o (o.rk en.k) d.es) en) S h (.inl h0) (upd_at _ _ _) (fun j hj => upd_ne _ _ hj)
  obtain ⟨L, R, c, h1, h2, h3⟩ := H.miss S h h0 ha hno
  have e1 : rowKvs (nk σ) d.ks (d.es.insertIdx (rank o (o.rk en.k) d.es) en) = (d.es.take (rank o (o.rk en.k) d.es)).map En.kv ++ en.kv :: (d.es.drop (rank o (o.rk en.k) d.es)).map En.kv := by
    rw [S.leaf i d h h0, insertIdx_take _ _ _ (rank_le _ _ _)]; simp [rowKvs]
  have new := c.then h U
  rw [hnk, e1] at new
  refine ⟨S', ?_, ?_⟩
  · rw [new, h3, ins_between h1 h2]; simp [En.kv]
  · rw [h3]; exact look_between h1 h2
end
end Go.Proofs.Ytgakapigpiaoiaa.Bt
