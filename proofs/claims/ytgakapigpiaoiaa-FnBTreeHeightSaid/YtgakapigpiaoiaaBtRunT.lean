import Derived.Test.YtgakapigpiaoiaaBtDelT
namespace Go.Proofs.Ytgakapigpiaoiaa.Bt
inductive Dep : Tr → Nat → Prop
  | leaf (es : KV) : Dep (.nd es []) 0
  | node {es : KV} {t : Tr} {ts : List Tr} {n : Nat} : Dep t n → Dep (.nd es (t :: ts)) (n + 1)
theorem Dep.one {t : Tr} {n m : Nat} (h : Dep t n) (k : Dep t m) : n = m := by
  induction h generalizing m with
  | leaf es => cases k; rfl
  | node _ ih =>
    cases k with
    | node k => rw [ih k]
open Classical in
noncomputable def depT (t : Tr) : Nat := if h : ∃ n, Dep t n then h.choose else 0
theorem depT_of {t : Tr} {n : Nat} (h : Dep t n) : depT t = n := by
  have hx : ∃ n, Dep t n := ⟨n, h⟩
  unfold depT
  rw [dif_pos hx]
  exact hx.choose_spec.one h
theorem dep_abs {σ : Store} {rt : Nat} (S : Shp σ rt) : ∀ (n i : Nat) (d : ND), σ i = some d → d.lv = n → Dep (abs σ i) n := by
  intro n
  induction n with
  | zero =>
    intro i d h hl
    rw [abs_row S h, S.leaf i d h hl]
    exact .leaf _
  | succ n ih =>
    intro i d h hl
    have hlen := S.inner i d h (by omega)
    cases hks : d.ks with
    | nil => rw [hks] at hlen; simp at hlen
    | cons k ks =>
      obtain ⟨c, hc, _, h2⟩ := S.kid i d k h (by rw [hks]; simp)
      rw [abs_row S h, hks]
      exact .node (ih k c hc (by omega))
theorem depT_abs {σ : Store} {rt i : Nat} {d : ND} (S : Shp σ rt) (h : σ i = some d) : depT (abs σ i) = d.lv := depT_of (dep_abs S d.lv i d h rfl)
def remT (m : Int) (o : Ord) (k : Int) (N : Nat) : Nat → List Fr → Tr → Option Tr
  | 0, c, t => some (plug c t)
  | n + 1, c, t =>
    if hitT o k t.es = true then delT m (rankT o (o.rk k) t.es) N c t
    else match t.ks[rankT o (o.rk k) t.es]? with
      | some u => remT m o k N n (⟨t.es.take (rankT o (o.rk k) t.es), t.es.drop (rankT o (o.rk k) t.es), t.ks.take (rankT o (o.rk k) t.es), t.ks.drop (rankT o (o.rk k) t.es + 1)⟩ :: c) u
      | none => some (plug c t)
def SrcAt (σ : Store) (rt : Nat) (o : Ord) (k : Int) (L x : Nat) : Prop := ∃ (n : Nat) (c : List Fr) (d : ND), σ x = some d ∧ d.lv < n ∧ APath σ rt x c ∧ ∀ m N, remT m o k N (L + 1) [] (abs σ rt) = remT m o k N n c (abs σ x)
section
variable {σ : Store} {rt x L : Nat} {d : ND} {o : Ord} {k : Int}
theorem SrcAt.top (h : σ rt = some d) (o : Ord) (k : Int) : SrcAt σ rt o k d.lv rt := ⟨d.lv + 1, [], d, h, by omega, .root, fun _ _ => rfl⟩
theorem SrcAt.found (S : Shp σ rt) (s : SrcAt σ rt o k L x) (h : σ x = some d) (hh : hit o k d.es = true) : ∃ c, APath σ rt x c ∧ ∀ m N, remT m o k N (L + 1) [] (abs σ rt) = delT m (rank o (o.rk k) d.es) N c (abs σ x) := by
  obtain ⟨n, c, d', h', hn, a, e⟩ := s
  rw [h] at h'; injection h' with h'; subst h'
  refine ⟨c, a, fun m N => ?_⟩
  rw [e m N]
  cases n with
  | zero => omega
  | succ n =>
    unfold remT
    rw [abs_es S h, hitT_map, hh, rankT_map]
    rfl
theorem SrcAt.lost (S : Shp σ rt) (s : SrcAt σ rt o k L x) (h : σ x = some d) (h0 : d.lv = 0) (hh : hit o k d.es = false) : ∀ m N, remT m o k N (L + 1) [] (abs σ rt) = some (abs σ rt) := by
  obtain ⟨n, c, d', h', hn, a, e⟩ := s
  rw [h] at h'; injection h' with h'; subst h'
  intro m N
  rw [e m N, a.now S]
  cases n with
  | zero => omega
  | succ n =>
    have hk : (abs σ x).ks = [] := by rw [abs_row S h, S.leaf x d h h0]; rfl
    unfold remT
    rw [abs_es S h, hitT_map, hh, hk]
    simp
theorem SrcAt.down (S : Shp σ rt) (s : SrcAt σ rt o k L x) (h : σ x = some d) (hh : hit o k d.es = false) {y : Nat} (hy : d.ks[rank o (o.rk k) d.es]? = some y) : SrcAt σ rt o k L y := by
  obtain ⟨n, c, d', h', hn, a, e⟩ := s
  rw [h] at h'; injection h' with h'; subst h'
  obtain ⟨yd, hyd, _, hyl⟩ := S.kid x d y h (List.mem_of_getElem? hy)
  have hk := getElem?_split hy
  have hlt := (List.getElem?_eq_some_iff.1 hy).1
  have hr := rank_le o (o.rk k) d.es
  have hl : (d.ks.take (rank o (o.rk k) d.es)).length = (d.es.take (rank o (o.rk k) d.es)).length := by rw [List.length_take, List.length_take]; omega
  cases n with
  | zero => omega
  | succ n =>
    refine ⟨n, _, yd, hyd, by omega, a.down h hk (List.take_append_drop _ _).symm hl, fun m N => ?_⟩
    rw [e m N, abs_row S h]
    conv => lhs; unfold remT absRow Tr.es Tr.ks
    simp only [hitT_map, rankT_map, hh, List.getElem?_map, hy, Option.map_some]
    simp [List.map_take, List.map_drop]
end
noncomputable def putS (m : Int) (o : Ord) (k v : Int) : Option Tr → Option Tr
  | none => some (.nd [(k, v)] [])
  | some t => some (insT m o k v (depT t + 1) [] t)
noncomputable def remS (m : Int) (o : Ord) (k : Int) : Option Tr → Option Tr
  | none => none
  | some t => remT m o k (depT t) (depT t + 1) [] t
noncomputable def stepS (m : Int) (o : Ord) (T : Option Tr) (a : Do) : Option Tr :=
  if a.op = 1 then putS m o a.key a.val T else if a.op = 2 then remS m o a.key T else if a.op = 3 then none else T
noncomputable def runS (m : Int) (o : Ord) (acts : List Do) : Option Tr := acts.foldl (stepS m o) none
end Go.Proofs.Ytgakapigpiaoiaa.Bt
