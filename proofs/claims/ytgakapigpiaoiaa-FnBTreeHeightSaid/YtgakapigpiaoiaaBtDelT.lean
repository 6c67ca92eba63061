import Derived.Test.YtgakapigpiaoiaaBtRebT
import Derived.Test.YtgakapigpiaoiaaBtWays
namespace Go.Proofs.Ytgakapigpiaoiaa.Bt
def rmost : Nat → List Fr → Tr → List Fr × Tr
  | 0, c, t => (c, t)
  | n + 1, c, t => match t.ks.getLast? with
    | none => (c, t)
    | some u => rmost n (⟨t.es, [], t.ks.dropLast, []⟩ :: c) u
def delT (m : Int) (n N : Nat) (c : List Fr) (t : Tr) : Option Tr :=
  match t.ks[n]? with
  | none => if (rebT m c (.nd (t.es.eraseIdx n) t.ks)).es.isEmpty then none else some (rebT m c (.nd (t.es.eraseIdx n) t.ks))
  | some u =>
    let es := t.es.set n ((rmost N [] u).2.es.getLastD (0, 0))
    let p := rmost N (⟨es.take n, es.drop n, t.ks.take n, t.ks.drop (n + 1)⟩ :: c) u
    some (rebT m p.1 (.nd p.2.es.dropLast p.2.ks))
theorem rmost_snd (n : Nat) (c : List Fr) (t : Tr) : (rmost n c t).2 = (rmost n [] t).2 := by
  induction n generalizing c t with
  | zero => rfl
  | succ n ih =>
    unfold rmost
    cases t.ks.getLast? with
    | none => rfl
    | some u => simp only; rw [ih, ih [_]]
theorem map_eraseIdx2 {α β : Type} (f : α → β) (l : List α) (n : Nat) : (l.eraseIdx n).map f = (l.map f).eraseIdx n := by
  induction l generalizing n with
  | nil => rfl
  | cons a l ih => cases n with
    | zero => rfl
    | succ n => simp [ih]
section
variable {σ σ' : Store} {rt x l i : Nat} {d dl : ND} {c : List Fr} {m : Int}
theorem rmost_path (S : Shp σ rt) (f : RFar σ x l) : ∀ {d : ND} {n : Nat} {c : List Fr}, σ x = some d → d.lv ≤ n → APath σ rt x c → APath σ rt l (rmost n c (abs σ x)).1 ∧ (rmost n c (abs σ x)).2 = abs σ l := by
  induction f with
  | @leaf x d' h' hk =>
    intro d n c h hn a
    rw [h'] at h; injection h with h; subst h
    have e : (abs σ x).ks.getLast? = none := by rw [abs_row S h', hk]; rfl
    cases n with
    | zero => exact ⟨a, rfl⟩
    | succ n => unfold rmost; rw [e]; exact ⟨a, rfl⟩
  | @step x k l d' ks h' hk _ ih =>
    intro d n c h hn a
    rw [h'] at h; injection h with h; subst h
    obtain ⟨kd, hkd, _, hl⟩ := S.kid x d' k h' (by rw [hk]; simp)
    have hlen := S.inner x d' h' (by omega)
    rw [hk] at hlen
    simp only [List.length_append, List.length_singleton] at hlen
    cases n with
    | zero => omega
    | succ n =>
      have a' := a.down h' (kL := ks) (i := k) (kR := []) (eL := d'.es) (eR := []) hk (by simp) (by omega)
      have := ih hkd (n := n) (by omega) a'
      unfold rmost
      rw [abs_row S h', hk]
      unfold absRow Tr.es Tr.ks
      simpa using this
theorem rfar_low {L : Nat} (S : Shp σ rt) (hs : ∀ j d, σ j = some d → d.lv < L → σ' j = some d) (f : RFar σ x l) : ∀ {d : ND}, σ x = some d → d.lv < L → RFar σ' x l := by
  induction f with
  | @leaf x d' h' hk => intro d h hl; rw [h'] at h; injection h with h; subst h; exact .leaf (hs x d' h' hl) hk
  | @step x k l d' ks h' hk _ ih =>
    intro d h hl
    rw [h'] at h; injection h with h; subst h
    obtain ⟨kd, hkd, _, hl2⟩ := S.kid x d' k h' (by rw [hk]; simp)
    exact .step (hs x d' h' hl) hk (ih hkd (by omega))
theorem delT_leaf (S : Shp σ rt) (h : σ x = some d) (h0 : d.lv = 0) (n N : Nat) (a : APath σ rt x c) :
    APath (upd σ x (some { d with es := d.es.eraseIdx n })) rt x c ∧ delT m n N c (abs σ x) = if (rebT m c (abs (upd σ x (some { d with es := d.es.eraseIdx n })) x)).es.isEmpty then none else some (rebT m c (abs (upd σ x (some { d with es := d.es.eraseIdx n })) x)) := by
  obtain ⟨u, e1⟩ := set_es_abs (σ' := upd σ x (some { d with es := d.es.eraseIdx n })) S h (upd_at _ _ _) (fun j hj => upd_ne _ _ hj)
  refine ⟨(a.keep S h u).1, ?_⟩
  have hk := S.leaf x d h h0
  have e2 : abs (upd σ x (some { d with es := d.es.eraseIdx n })) x = .nd ((d.es.map En.kv).eraseIdx n) [] := by
    rw [e1, hk]
    unfold absRow
    rw [map_eraseIdx2]
    rfl
  rw [e2, abs_row S h, hk]
  unfold delT absRow Tr.es Tr.ks
  simp
theorem delT_inner (S : Shp σ rt) (h : σ i = some d) {n y : Nat} {e g : En} {ea : List En} (he : d.es[n]? = some e) (hc : d.ks[n]? = some y) (f : RFar σ y l) (hl : σ l = some dl) (hf : dl.es = ea ++ [g]) (hli : l ≠ i)
    (h1 : σ' i = some { d with es := d.es.set n g }) (h2 : σ' l = some { dl with es := ea }) (ho : ∀ j, j ≠ i → j ≠ l → σ' j = σ j) {N : Nat} (hN : d.lv ≤ N) (a : APath σ rt i c) :
    ∃ c', APath σ' rt l c' ∧ delT m n N c (abs σ i) = some (rebT m c' (abs σ' l)) := by
  obtain ⟨yd, hyd, _, hyl⟩ := S.kid i d y h (List.mem_of_getElem? hc)
  have hlt := (List.getElem?_eq_some_iff.1 hc).1
  have hlt2 := (List.getElem?_eq_some_iff.1 he).1
  have hsp := getElem?_split hc
  obtain ⟨σ4, hσ4⟩ : ∃ σ4, σ4 = upd σ i (some { d with es := d.es.set n g }) := ⟨_, rfl⟩
  have h4 : σ4 i = some { d with es := d.es.set n g } := by rw [hσ4, upd_at]
  have ho4 : ∀ j, j ≠ i → σ4 j = σ j := fun j hj => by rw [hσ4, upd_ne _ _ hj]
  have S4 := (set_es S h (.inr (by simp)) h4 ho4).1
  obtain ⟨u4, _⟩ := set_es_abs S h h4 ho4
  have a4 := (a.keep S h u4).1
  have ne4 : ∀ j jd, σ j = some jd → jd.lv < d.lv → σ4 j = some jd := fun j jd hj hjl => by
    rw [ho4 j (by rintro rfl; rw [h] at hj; injection hj with hj; subst hj; omega)]; exact hj
  have low : ∀ k ∈ d.ks, abs σ4 k = abs σ k := fun k hk => by
    obtain ⟨kd, hkd, _, hkl⟩ := S.kid i d k h hk
    exact abs_low S (l := d.lv) (fun j jd hj hjl => ⟨jd, ne4 j jd hj hjl, Sm.refl jd⟩) k kd hkd (by omega)
  have ay := a4.down h4 (kL := d.ks.take n) (i := y) (kR := d.ks.drop (n + 1)) (eL := (d.es.set n g).take n) (eR := (d.es.set n g).drop n) hsp (List.take_append_drop _ _).symm (by simp only [List.length_take, List.length_set]; omega)
  have f4 := rfar_low S (L := d.lv) ne4 f hyd (by omega)
  obtain ⟨al, el⟩ := rmost_path S4 f4 (n := N) (ne4 y yd hyd (by omega)) (by omega) ay
  have hl4 : σ4 l = some dl := by rw [ho4 l hli]; exact hl
  obtain ⟨u5, e5⟩ := set_es_abs (σ' := σ') S4 hl4 h2 (fun j hj => by
    by_cases hji : j = i
    · subst hji; rw [h1, h4]
    · rw [ho j hji hj, ho4 j hji])
  refine ⟨_, (al.keep S4 hl4 u5).1, ?_⟩
  have hy4 := low y (List.mem_of_getElem? hc)
  have hg : (rmost N [] (abs σ y)).2.es.getLastD (0, 0) = g.kv := by
    rw [← hy4, ← rmost_snd N _ (abs σ4 y), el, abs_es S4 hl4, hf]
    simp
  have hL : (d.ks.take n).map (abs σ4) = (d.ks.take n).map (abs σ) := List.map_congr_left fun k hk => low k (List.mem_of_mem_take hk)
  have hR : (d.ks.drop (n + 1)).map (abs σ4) = (d.ks.drop (n + 1)).map (abs σ) := List.map_congr_left fun k hk => low k (List.mem_of_mem_drop hk)
  have hky : (abs σ i).ks[n]? = some (abs σ y) := by rw [abs_row S h]; unfold absRow Tr.ks; simp [hc]
  have hfr : (⟨((abs σ i).es.set n g.kv).take n, ((abs σ i).es.set n g.kv).drop n, (abs σ i).ks.take n, (abs σ i).ks.drop (n + 1)⟩ : Fr) = ⟨((d.es.set n g).take n).map En.kv, ((d.es.set n g).drop n).map En.kv, (d.ks.take n).map (abs σ4), (d.ks.drop (n + 1)).map (abs σ4)⟩ := by
    rw [hL, hR, abs_row S h]
    unfold absRow Tr.es Tr.ks
    simp [List.map_take, List.map_drop, List.map_set]
  unfold delT
  rw [hky]
  simp only
  rw [hg, hfr, ← hy4, el, e5]
  congr 2
  rw [abs_row S4 hl4, hf]
  unfold absRow Tr.es Tr.ks
  simp
end
end Go.Proofs.Ytgakapigpiaoiaa.Bt
