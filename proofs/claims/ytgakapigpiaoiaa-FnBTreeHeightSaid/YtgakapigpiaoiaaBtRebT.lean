import Derived.Test.YtgakapigpiaoiaaBtInsT
namespace Go.Proofs.Ytgakapigpiaoiaa.Bt
def mnOf (m : Int) : Int := (m + 1) / 2 - 1
def more (m : Int) : Option Tr → Bool
  | some b => decide (mnOf m < (b.es.length : Int))
  | none => false
def borLT (f : Fr) (t b : Tr) : Tr :=
  .nd (f.eL.dropLast ++ b.es.getLastD (0, 0) :: f.eR) (f.kL.dropLast ++ Tr.nd b.es.dropLast b.ks.dropLast :: Tr.nd (f.eL.getLastD (0, 0) :: t.es) (b.ks.getLast?.toList ++ t.ks) :: f.kR)
def borRT (f : Fr) (t b : Tr) : Tr :=
  .nd (f.eL ++ b.es.headD (0, 0) :: f.eR.tail) (f.kL ++ Tr.nd (t.es ++ [f.eR.headD (0, 0)]) (t.ks ++ b.ks.head?.toList) :: Tr.nd b.es.tail b.ks.tail :: f.kR.tail)
def mrgR (f : Fr) (t b : Tr) : Tr := .nd (t.es ++ f.eR.headD (0, 0) :: b.es) (t.ks ++ b.ks)
def mrgL (f : Fr) (t b : Tr) : Tr := .nd (b.es ++ f.eL.getLastD (0, 0) :: t.es) (b.ks ++ t.ks)
def rebT (m : Int) : List Fr → Tr → Tr
  | [], t => t
  | f :: c, t =>
    if mnOf m ≤ (t.es.length : Int) then plug (f :: c) t
    else match f.kL.getLast?, f.kR.head? with
      | some a, none => if mnOf m < (a.es.length : Int) then plug c (borLT f t a)
        else if c.isEmpty && (f.eL.dropLast ++ f.eR).isEmpty then mrgL f t a else rebT m c (.nd (f.eL.dropLast ++ f.eR) (f.kL.dropLast ++ mrgL f t a :: f.kR))
      | some a, some b => if mnOf m < (a.es.length : Int) then plug c (borLT f t a)
        else if mnOf m < (b.es.length : Int) then plug c (borRT f t b)
        else if c.isEmpty && (f.eL ++ f.eR.tail).isEmpty then mrgR f t b else rebT m c (.nd (f.eL ++ f.eR.tail) (f.kL ++ mrgR f t b :: f.kR.tail))
      | none, some b => if mnOf m < (b.es.length : Int) then plug c (borRT f t b)
        else if c.isEmpty && (f.eL ++ f.eR.tail).isEmpty then mrgR f t b else rebT m c (.nd (f.eL ++ f.eR.tail) (f.kL ++ mrgR f t b :: f.kR.tail))
      | none, none => plug (f :: c) t
section
variable {σ σ' : Store} {rt x p a b : Nat} {d q da db : ND} {kL kR : List Nat} {eL eR : List En} {sep f e : En} {c : List Fr} {m : Int}
theorem rebT_top (S : Shp σ x) (a : APath σ x x c) : abs σ x = rebT m c (abs σ x) := by
  obtain rfl := a.nil S
  rfl
theorem rebT_fine (S : Shp σ rt) (h : σ x = some d) (hf : mnOf m ≤ (d.es.length : Int)) (a : APath σ rt x c) : abs σ rt = rebT m c (abs σ x) := by
  rw [a.now S]
  cases c with
  | nil => rfl
  | cons f c =>
    unfold rebT
    rw [if_pos (by rw [abs_es S h, List.length_map]; exact hf)]
theorem inv_right (S : Shp σ rt) (hx : σ x = some d) (hq : σ p = some q) (hqk : q.ks = kL ++ x :: b :: kR) (hqe : q.es = eL ++ sep :: eR) (hlen : kL.length = eL.length) (ac : APath σ rt x c) :
    ∃ c', c = ⟨eL.map En.kv, sep.kv :: eR.map En.kv, kL.map (abs σ), abs σ b :: kR.map (abs σ)⟩ :: c' ∧ APath σ rt p c' := by
  obtain ⟨hpar, _⟩ := S.kidOf hq (by rw [hqk]; simp) hx
  obtain ⟨c', h1, h2⟩ := ac.inv S hx hpar hq (kL := kL) (kR := b :: kR) (eL := eL) (eR := sep :: eR) hqk hqe hlen
  exact ⟨c', by simpa using h1, h2⟩
theorem inv_left (S : Shp σ rt) (hx : σ x = some d) (hq : σ p = some q) (hqk : q.ks = kL ++ b :: x :: kR) (hqe : q.es = eL ++ sep :: eR) (hlen : kL.length = eL.length) (ac : APath σ rt x c) :
    ∃ c', c = ⟨eL.map En.kv ++ [sep.kv], eR.map En.kv, kL.map (abs σ) ++ [abs σ b], kR.map (abs σ)⟩ :: c' ∧ APath σ rt p c' := by
  obtain ⟨hpar, _⟩ := S.kidOf hq (by rw [hqk]; simp) hx
  obtain ⟨c', h1, h2⟩ := ac.inv S hx hpar hq (kL := kL ++ [b]) (kR := kR) (eL := eL ++ [sep]) (eR := eR) (by rw [hqk]; simp) (by rw [hqe]; simp) (by simp [hlen])
  exact ⟨c', by simpa using h1, h2⟩
def LeastL (σ : Store) (m : Int) (kL : List Nat) : Prop := kL = [] ∨ ∃ kA a da, kL = kA ++ [a] ∧ σ a = some da ∧ (da.es.length : Int) ≤ mnOf m
theorem borR_up (S : Shp σ rt) (hx : σ x = some d) (hb : σ b = some db) (hq : σ p = some q) (hqk : q.ks = kL ++ x :: b :: kR) (hqe : q.es = eL ++ sep :: eR) (hlen : kL.length = eL.length) {eb : List En} {ka kb : List Nat} (hbe : db.es = f :: eb) (hk : d.ks ++ db.ks = ka ++ kb) (hc : Cut d.lv ka kb (d.es ++ [sep]) eb)
    (T : abs σ' p = .nd ((eL ++ f :: eR).map En.kv) (kL.map (abs σ) ++ absRow (abs σ) ka (d.es ++ [sep]) :: absRow (abs σ) kb eb :: kR.map (abs σ)) ∧ UpA σ σ' p q.lv)
    (hl : ¬ mnOf m ≤ (d.es.length : Int)) (hbl : mnOf m < (db.es.length : Int)) (hleft : LeastL σ m kL) (ac : APath σ rt x c) : abs σ' rt = rebT m c (abs σ x) := by
  obtain ⟨c', rfl, a'⟩ := inv_right S hx hq hqk hqe hlen ac
  rw [(a'.keep S hq T.2).2, T.1]
  have hxe := abs_row S hx
  have hbe' := abs_row S hb
  have hkk : ka = d.ks ++ db.ks.head?.toList ∧ kb = db.ks.tail := by
    obtain ⟨_, hlv⟩ := S.kidOf hq (by rw [hqk]; simp) hx
    obtain ⟨_, hlv2⟩ := S.kidOf hq (by rw [hqk]; simp) hb
    rcases hc with ⟨h0, h1, h2⟩ | ⟨h0, h1, h2⟩
    · have e1 := S.leaf x d hx h0
      have e2 := S.leaf b db hb (by omega)
      subst h1 h2
      rw [e1, e2]; exact ⟨rfl, rfl⟩
    · have e1 := S.inner x d hx h0
      have e2 := S.inner b db hb (by omega)
      cases hdk : db.ks with
      | nil => rw [hdk] at e2; simp at e2
      | cons g gs =>
        rw [hdk, show d.ks ++ g :: gs = (d.ks ++ [g]) ++ gs by simp] at hk
        obtain ⟨h3, h4⟩ := List.append_inj hk (by simp at h1 ⊢; omega)
        exact ⟨by rw [← h3]; rfl, by rw [← h4]; rfl⟩
  have hn : ¬ mnOf m ≤ ((abs σ x).es.length : Int) := by rw [abs_es S hx, List.length_map]; exact hl
  have hb1 : mnOf m < ((abs σ b).es.length : Int) := by rw [abs_es S hb, List.length_map]; exact hbl
  have res : plug c' (borRT ⟨eL.map En.kv, sep.kv :: eR.map En.kv, kL.map (abs σ), abs σ b :: kR.map (abs σ)⟩ (abs σ x) (abs σ b)) = plug c' (.nd ((eL ++ f :: eR).map En.kv) (kL.map (abs σ) ++ absRow (abs σ) ka (d.es ++ [sep]) :: absRow (abs σ) kb eb :: kR.map (abs σ))) := by
    unfold borRT
    rw [hxe, hbe', hkk.1, hkk.2, hbe]
    unfold absRow Tr.es Tr.ks
    cases db.ks <;> simp
  rw [← res]
  unfold rebT
  rw [if_neg hn]
  rcases hleft with rfl | ⟨kA, a, da, rfl, ha, hal⟩
  · simp [hb1]
  · have ha1 : ¬ mnOf m < ((abs σ a).es.length : Int) := by rw [abs_es S ha, List.length_map]; omega
    simp [hb1, ha1]
theorem borL_up (S : Shp σ rt) (hx : σ x = some d) (hb : σ b = some db) (hq : σ p = some q) (hqk : q.ks = kL ++ b :: x :: kR) (hqe : q.es = eL ++ sep :: eR) (hlen : kL.length = eL.length) {ea : List En} {ka kb : List Nat} (hbe : db.es = ea ++ [f]) (hk : db.ks ++ d.ks = ka ++ kb) (hc : Cut db.lv ka kb ea (sep :: d.es))
    (T : abs σ' p = .nd ((eL ++ f :: eR).map En.kv) (kL.map (abs σ) ++ absRow (abs σ) ka ea :: absRow (abs σ) kb (sep :: d.es) :: kR.map (abs σ)) ∧ UpA σ σ' p q.lv)
    (hl : ¬ mnOf m ≤ (d.es.length : Int)) (hbl : mnOf m < (db.es.length : Int)) (ac : APath σ rt x c) : abs σ' rt = rebT m c (abs σ x) := by
  obtain ⟨c', rfl, a'⟩ := inv_left S hx hq hqk hqe hlen ac
  rw [(a'.keep S hq T.2).2, T.1]
  have hxe := abs_row S hx
  have hbe' := abs_row S hb
  have hkk : ka = db.ks.dropLast ∧ kb = db.ks.getLast?.toList ++ d.ks := by
    obtain ⟨_, hlv⟩ := S.kidOf hq (by rw [hqk]; simp) hx
    obtain ⟨_, hlv2⟩ := S.kidOf hq (by rw [hqk]; simp) hb
    rcases hc with ⟨h0, h1, h2⟩ | ⟨h0, h1, h2⟩
    · have e1 := S.leaf b db hb h0
      have e2 := S.leaf x d hx (by omega)
      subst h1 h2
      rw [e1, e2]; exact ⟨rfl, rfl⟩
    · have e1 := S.inner b db hb h0
      have e2 := S.inner x d hx (by omega)
      rcases List.eq_nil_or_concat db.ks with hdk | ⟨gs, g, hdk⟩
      · rw [hdk] at e1; simp at e1
      · rw [hdk] at hk e1 ⊢
        rw [List.concat_eq_append] at hk e1 ⊢
        rw [List.append_assoc] at hk
        obtain ⟨h3, h4⟩ := List.append_inj hk (by rw [hbe] at e1; simp at e1 h1 ⊢; omega)
        exact ⟨by rw [← h3]; simp, by rw [← h4]; simp⟩
  have hn : ¬ mnOf m ≤ ((abs σ x).es.length : Int) := by rw [abs_es S hx, List.length_map]; exact hl
  have hb1 : mnOf m < ((abs σ b).es.length : Int) := by rw [abs_es S hb, List.length_map]; exact hbl
  have res : plug c' (borLT ⟨eL.map En.kv ++ [sep.kv], eR.map En.kv, kL.map (abs σ) ++ [abs σ b], kR.map (abs σ)⟩ (abs σ x) (abs σ b)) = plug c' (.nd ((eL ++ f :: eR).map En.kv) (kL.map (abs σ) ++ absRow (abs σ) ka ea :: absRow (abs σ) kb (sep :: d.es) :: kR.map (abs σ))) := by
    unfold borLT
    rw [hxe, hbe', hkk.1, hkk.2, hbe]
    unfold absRow Tr.es Tr.ks
    rcases List.eq_nil_or_concat db.ks with hdk | ⟨gs, g, hdk⟩
    · rw [hdk]; simp
    · rw [hdk, List.concat_eq_append]; simp
  rw [← res]
  unfold rebT
  rw [if_neg hn]
  cases hR : kR.map (abs σ) with
  | nil => simp [hb1]
  | cons r rs => simp [hb1]
theorem merge_two (S : Shp σ rt) (ha : σ a = some da) (hb : σ b = some db) (hq : σ p = some q) (hqk : q.ks = kL ++ a :: b :: kR) (hqe : q.es = eL ++ e :: eR) (hlen : kL.length = eL.length)
    {n m : Nat} (hn : n = a ∧ m = b ∨ n = b ∧ m = a)
    (h_n : σ' n = some ⟨some p, da.es ++ e :: db.es, da.ks ++ db.ks, da.lv⟩) (h_m : σ' m = none) (h_p : σ' p = some ⟨q.par, eL ++ eR, kL ++ n :: kR, q.lv⟩)
    (hg : ∀ g, g ∈ da.ks ∨ g ∈ db.ks → ∀ gd, σ g = some gd → σ' g = some { gd with par := some n })
    (off : ∀ j, j ≠ p → j ≠ a → j ≠ b → j ∉ da.ks → j ∉ db.ks → σ' j = σ j) :
    (nk σ' p = nk σ p ∧ nk σ' rt = nk σ rt ∧ Shp σ' rt) ∧ (abs σ' p = .nd ((eL ++ eR).map En.kv) (kL.map (abs σ) ++ absRow (abs σ) (da.ks ++ db.ks) (da.es ++ e :: db.es) :: kR.map (abs σ)) ∧ UpA σ σ' p q.lv) ∧ abs σ' n = absRow (abs σ) (da.ks ++ db.ks) (da.es ++ e :: db.es) :=
  ⟨merge_seg S ha hb hq hqk hqe hlen hn h_n h_m h_p hg off, merge_abs S ha hb hq hqk hqe hlen hn h_n h_m h_p hg off, merge_new S ha hb hq hqk hqe hlen hn h_n h_m h_p hg off⟩
theorem APath.notTop (ac : APath σ rt p c) (h : p ≠ rt) : c ≠ [] := by
  rintro rfl
  cases ac with
  | root => exact h rfl
theorem mergeR_up (S : Shp σ rt) (hx : σ x = some d) (hb : σ b = some db) (hq : σ p = some q) (hqk : q.ks = kL ++ x :: b :: kR) (hqe : q.es = eL ++ sep :: eR) (hlen : kL.length = eL.length)
    (T : abs σ' p = .nd ((eL ++ eR).map En.kv) (kL.map (abs σ) ++ absRow (abs σ) (d.ks ++ db.ks) (d.es ++ sep :: db.es) :: kR.map (abs σ)) ∧ UpA σ σ' p q.lv)
    (hl : ¬ mnOf m ≤ (d.es.length : Int)) (hbl : ¬ mnOf m < (db.es.length : Int)) (hleft : LeastL σ m kL) (ac : APath σ rt x c) :
    ∃ c', APath σ' rt p c' ∧ (p ≠ rt ∨ (eL ++ eR).length ≠ 0 → rebT m c (abs σ x) = rebT m c' (abs σ' p)) ∧ (p = rt → eL = [] → eR = [] → rebT m c (abs σ x) = absRow (abs σ) (d.ks ++ db.ks) (d.es ++ sep :: db.es)) := by
  obtain ⟨c', rfl, a'⟩ := inv_right S hx hq hqk hqe hlen ac
  refine ⟨c', (a'.keep S hq T.2).1, ?_⟩
  have hn : ¬ mnOf m ≤ ((abs σ x).es.length : Int) := by rw [abs_es S hx, List.length_map]; exact hl
  have hb1 : ¬ mnOf m < ((abs σ b).es.length : Int) := by rw [abs_es S hb, List.length_map]; exact hbl
  have res : ∀ kl kr, mrgR ⟨eL.map En.kv, sep.kv :: eR.map En.kv, kl, kr⟩ (abs σ x) (abs σ b) = absRow (abs σ) (d.ks ++ db.ks) (d.es ++ sep :: db.es) := by
    intro kl kr
    unfold mrgR
    rw [abs_row S hx, abs_row S hb]
    unfold absRow Tr.es Tr.ks
    simp
  have go : rebT m (⟨eL.map En.kv, sep.kv :: eR.map En.kv, kL.map (abs σ), abs σ b :: kR.map (abs σ)⟩ :: c') (abs σ x) = if c'.isEmpty && (eL ++ eR).isEmpty then absRow (abs σ) (d.ks ++ db.ks) (d.es ++ sep :: db.es) else rebT m c' (abs σ' p) := by
    conv => lhs; unfold rebT
    rw [if_neg hn, T.1]
    rcases hleft with rfl | ⟨kA, a, da, rfl, ha, hal⟩
    · simp [hb1, res]
    · have ha1 : ¬ mnOf m < ((abs σ a).es.length : Int) := by rw [abs_es S ha, List.length_map]; omega
      simp [hb1, ha1, res]
  rw [go]
  refine ⟨fun h => ?_, fun h1 h2 h3 => ?_⟩
  · rw [if_neg]
    intro hc
    simp only [Bool.and_eq_true, List.isEmpty_iff] at hc
    rcases h with h | h
    · exact a'.notTop h hc.1
    · exact h (by rw [hc.2]; rfl)
  · subst h1 h2 h3
    rw [a'.nil S]
    rfl
theorem mergeL_up (S : Shp σ rt) (hx : σ x = some d) (hb : σ b = some db) (hq : σ p = some q) (hqk : q.ks = kL ++ b :: x :: kR) (hqe : q.es = eL ++ sep :: eR) (hlen : kL.length = eL.length) (hright : kR = [])
    (T : abs σ' p = .nd ((eL ++ eR).map En.kv) (kL.map (abs σ) ++ absRow (abs σ) (db.ks ++ d.ks) (db.es ++ sep :: d.es) :: kR.map (abs σ)) ∧ UpA σ σ' p q.lv)
    (hl : ¬ mnOf m ≤ (d.es.length : Int)) (hbl : ¬ mnOf m < (db.es.length : Int)) (ac : APath σ rt x c) :
    ∃ c', APath σ' rt p c' ∧ (p ≠ rt ∨ (eL ++ eR).length ≠ 0 → rebT m c (abs σ x) = rebT m c' (abs σ' p)) ∧ (p = rt → eL = [] → eR = [] → rebT m c (abs σ x) = absRow (abs σ) (db.ks ++ d.ks) (db.es ++ sep :: d.es)) := by
  subst hright
  obtain ⟨c', rfl, a'⟩ := inv_left S hx hq hqk hqe hlen ac
  refine ⟨c', (a'.keep S hq T.2).1, ?_⟩
  have hn : ¬ mnOf m ≤ ((abs σ x).es.length : Int) := by rw [abs_es S hx, List.length_map]; exact hl
  have hb1 : ¬ mnOf m < ((abs σ b).es.length : Int) := by rw [abs_es S hb, List.length_map]; exact hbl
  have res : ∀ er kl kr, mrgL ⟨eL.map En.kv ++ [sep.kv], er, kl, kr⟩ (abs σ x) (abs σ b) = absRow (abs σ) (db.ks ++ d.ks) (db.es ++ sep :: d.es) := by
    intro er kl kr
    unfold mrgL
    rw [abs_row S hx, abs_row S hb]
    unfold absRow Tr.es Tr.ks
    simp
  have go : rebT m (⟨eL.map En.kv ++ [sep.kv], eR.map En.kv, kL.map (abs σ) ++ [abs σ b], []⟩ :: c') (abs σ x) = if c'.isEmpty && (eL ++ eR).isEmpty then absRow (abs σ) (db.ks ++ d.ks) (db.es ++ sep :: d.es) else rebT m c' (abs σ' p) := by
    conv => lhs; unfold rebT
    rw [if_neg hn, T.1]
    simp [hb1, res]
  simp only [List.map_nil]
  rw [go]
  refine ⟨fun h => ?_, fun h1 h2 h3 => ?_⟩
  · rw [if_neg]
    intro hc
    simp only [Bool.and_eq_true, List.isEmpty_iff] at hc
    rcases h with h | h
    · exact a'.notTop h hc.1
    · exact h (by rw [hc.2]; rfl)
  · subst h1 h2 h3
    rw [a'.nil S]
    rfl
theorem shrink_abs {i : Nat} (S : Shp σ p) (h : σ p = some q) (hk : i ∈ q.ks) (hi : σ i = some d) (h2 : σ' i = some { d with par := none }) (ho : ∀ j, j ≠ p → j ≠ i → σ' j = σ j) : abs σ' i = abs σ i := by
  obtain ⟨c0, hc0, _, hl⟩ := S.kid p q i h hk
  rw [hi] at hc0; injection hc0 with hc0; subst hc0
  refine abs_low S (l := q.lv) (fun j e hj hlt => ?_) i d hi (by omega)
  by_cases h1 : j = i
  · subst h1; rw [hi] at hj; injection hj with hj; subst hj; exact ⟨_, h2, rfl, rfl, rfl⟩
  · have h3 : j ≠ p := by rintro rfl; rw [h] at hj; injection hj with hj; subst hj; omega
    exact ⟨e, by rw [ho j h3 h1]; exact hj, Sm.refl e⟩
theorem shrink_two {i : Nat} (S : Shp σ p) (h : σ p = some q) (he : q.es = []) (hk : q.ks = [i]) (hi : σ i = some d) (h1 : σ' p = none) (h2 : σ' i = some { d with par := none }) (ho : ∀ j, j ≠ p → j ≠ i → σ' j = σ j) : (Shp σ' i ∧ nk σ' i = nk σ p) ∧ abs σ' i = abs σ i :=
  ⟨shrink_top S h he hk hi h1 h2 ho, shrink_abs S h (by rw [hk]; simp) hi h2 ho⟩
end
end Go.Proofs.Ytgakapigpiaoiaa.Bt
