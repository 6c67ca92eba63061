import Derived.Test.YtgakapigpiaoiaaBtRows
import Derived.Test.YtgakapigpiaoiaaBtPures
import Derived.Test.YtgakapigpiaoiaaBtSpl
namespace Go.Proofs.Ytgakapigpiaoiaa.Bt
open Go.RowKit Go.Proofs.Ytgakapigpiaoiaa
section
variable {w w1 : World} {B x : Nat} {H : Hd} {o : Ord} {σ : Store} {α : Nat → Arr} {d : ND} {A1 A2 : Option Addr} {c1 c2 : Nat}
theorem St.cells' (s : St w B H o σ α) (h : σ x = some d) (ha : α x = ⟨A1, c1, A2, c2⟩) : w.cell? ⟨x, 0, none⟩ = some (ptr d.par) ∧ w.cell? ⟨x, 1, none⟩ = some (.slice A1 d.es.length c1) ∧ w.cell? ⟨x, 2, none⟩ = some (.slice A2 d.ks.length c2) ∧ ∀ j, w.frozen? ⟨x, j, none⟩ = false := by
  have := s.cells h
  rw [ha] at this
  exact this
theorem St.own1' (s : St w B H o σ α) (h : σ x = some d) (ha : α x = ⟨A1, c1, A2, c2⟩) : w.ownsRow B 62 1 (.slice A1 d.es.length c1) d.es.length (enRow d.es) := by
  have := (s.nd x d h).own1
  rw [ha] at this
  exact this
theorem St.own2' (s : St w B H o σ α) (h : σ x = some d) (ha : α x = ⟨A1, c1, A2, c2⟩) : w.ownsRow B 45 1 (.slice A2 d.ks.length c2) d.ks.length (ndRow d.ks) := by
  have := (s.nd x d h).own2
  rw [ha] at this
  exact this
theorem own_some' {e : TypeId} {n c : Nat} {A : Option Addr} {xs : List Value} (own : w.ownsRow B e 1 (.slice A n c) n xs) (hn : 0 < n) : ∃ g, A = some ⟨g, 0, none⟩ := by
  rcases own.2 with ⟨_, h0⟩ | ⟨g, cap, cur, hv, _⟩
  · omega
  · injection hv with h1 _ _
    exact ⟨g, h1⟩
theorem own_cap' {e : TypeId} {n c : Nat} {A : Option Addr} {xs : List Value} (own : w.ownsRow B e 1 (.slice A n c) n xs) (hn : 0 < n) : n ≤ c := by
  obtain ⟨g, hA⟩ := own_some' own hn
  exact (own_blk own hA).choose_spec.2.2.2.1
theorem St.hB (s : St w B H o σ α) : B ≤ w.heap.size := Nat.le_trans s.hdB (Nat.le_of_lt s.hd.lt)
theorem St.arr (α : Nat → Arr) (x : Nat) : ∃ A1 c1 A2 c2, α x = ⟨A1, c1, A2, c2⟩ := ⟨_, _, _, _, rfl⟩
theorem leafY (s : St w B H o σ α) (h : σ x = some d) (h0 : d.ks = []) (t : Value) : Calls Try.prog 64 #[t, .pointer (some ⟨x, 0, none⟩)] w fun e w' => e = .returned (.bool true) ∧ w = w' := by
  have := isLeaf_walk s h t
  rw [h0] at this
  exact this
theorem leafN (s : St w B H o σ α) (h : σ x = some d) (h0 : 0 < d.ks.length) (t : Value) : Calls Try.prog 64 #[t, .pointer (some ⟨x, 0, none⟩)] w fun e w' => e = .returned (.bool false) ∧ w = w' := by
  have := isLeaf_walk s h t
  rw [show ((d.ks.length : Int) == 0) = false by simp; exact List.ne_nil_of_length_pos h0] at this
  exact this
theorem setParent_walk' (s : St w B H o σ α) (h : σ x = some d) (ha : α x = ⟨A1, c1, A2, c2⟩) {n : Nat} (hl : d.ks.length = n) (hk : ∀ k ∈ d.ks, ∃ c, σ k = some c) (hnd : d.ks.Nodup) (hi : x ∉ d.ks) (hn : n ≤ 100000) (p : Nat) :
    Calls Try.prog 82 #[.slice A2 n c2, .pointer (some ⟨p, 0, none⟩)] w fun e w' => e = .returned (.tuple #[]) ∧ St w' B H o (setPar σ d.ks (some p)) α ∧ Below B w w' := by
  have := setParent_walk s h hk hnd hi (by omega) p
  rw [ha, hl] at this
  exact this
end
structure Halves (σ σ5 : Store) (l r : Nat) (pr : Option Nat) (lv : Nat) (eA eB : List En) (kA kB : List Nat) : Prop where
  l_ : σ5 l = some ⟨pr, eA, kA, lv⟩
  r_ : σ5 r = some ⟨pr, eB, kB, lv⟩
  gA : ∀ g ∈ kA, ∀ gd, σ g = some gd → σ5 g = some { gd with par := some l }
  gB : ∀ g ∈ kB, ∀ gd, σ g = some gd → σ5 g = some { gd with par := some r }
  off : ∀ j, j ≠ l → j ≠ r → j ∉ kA → j ∉ kB → σ5 j = σ j
  l0 : σ l = none
  r0 : σ r = none
  lr : l ≠ r
theorem Halves.inv {σ σ5 : Store} {l r : Nat} {pr : Option Nat} {lv : Nat} {eA eB : List En} {kA kB : List Nat} (h : Halves σ σ5 l r pr lv eA eB kA kB) (hk : ∀ g, g ∈ kA ∨ g ∈ kB → ∃ c, σ g = some c) {j : Nat} {e' : ND} (he : σ5 j = some e') : j = l ∨ j = r ∨ ∃ e, σ j = some e ∧ e'.es = e.es := by
  by_cases h1 : j = l
  · exact .inl h1
  by_cases h2 : j = r
  · exact .inr (.inl h2)
  right; right
  by_cases h3 : j ∈ kA
  · obtain ⟨c, hc⟩ := hk j (.inl h3)
    rw [h.gA j h3 c hc] at he
    injection he with he
    exact ⟨c, hc, by rw [← he]⟩
  by_cases h4 : j ∈ kB
  · obtain ⟨c, hc⟩ := hk j (.inr h4)
    rw [h.gB j h4 c hc] at he
    injection he with he
    exact ⟨c, hc, by rw [← he]⟩
  exact ⟨e', by rw [← h.off j h1 h2 h3 h4]; exact he, rfl⟩
def fitN (m : Int) (rt j : Nat) (d : ND) : Prop := (d.es.length : Int) ≤ m - 1 ∧ (j ≠ rt → (m + 1) / 2 - 1 ≤ (d.es.length : Int)) ∧ 1 ≤ d.es.length
def Fit (σ : Store) (m : Int) (rt : Nat) : Prop := ∀ j e, σ j = some e → fitN m rt j e
def FitX (σ : Store) (m : Int) (rt x : Nat) : Prop := ∀ j e, σ j = some e → j ≠ x → fitN m rt j e
set_option maxHeartbeats 4000000 in
set_option maxRecDepth 100000 in
theorem splitRoot_walk {w : World} {B x : Nat} {H : Hd} {o : Ord} {σ : Store} {α : Nat → Arr} {d : ND} (s : St w B H o σ α) (hm : 3 ≤ H.m ∧ H.m ≤ 64) (hr : H.root = some x) (S : Shp σ x) (h : σ x = some d) (hn : (d.es.length : Int) = H.m) (hf : FitX σ H.m x x) :
    Calls Try.prog 79 #[.pointer (some ⟨H.tb, 0, none⟩)] w fun e w' => e = .returned (.tuple #[]) ∧ ∃ σ' α' nr, St w' B { H with root := some nr } o σ' α' ∧ Shp σ' nr ∧ nk σ' nr = nk σ x ∧ Fit σ' H.m nr ∧ Below B w w' ∧ ∀ c, APath σ x x c → abs σ' nr = spl H.m c (abs σ x) := by
  obtain ⟨hh0, _, _, hh3⟩ := s.hcells
  rw [hr] at hh0
  simp only [ptr, Option.map_some] at hh0
  have CM := Lib.hid (middle_walk s hm)
  obtain ⟨M, hM⟩ : ∃ M : Nat, (H.m - 1) / 2 = (M : Int) := ⟨((H.m - 1) / 2).toNat, by omega⟩
  have hM1 : 1 ≤ M := by omega
  have hM2 : M + 1 < d.es.length := by omega
  have hn6 : d.es.length ≤ 64 := by omega
  have HM := Lib.hid hM
  obtain ⟨A1, c, A2, c2, ha⟩ := St.arr α x
  obtain ⟨g, rfl⟩ := own_some' (s.own1' h ha) (by omega)
  have hcap := own_cap' (s.own1' h ha) (by omega)
  have SR1 := Lib.hid (own_src (s.own1' h ha) rfl 0 M c (ys := enRow (d.es.take M)) (enRow_take M) (by rw [enRow_length, List.length_take]; omega))
  have hc1 := (s.cells' h ha).2.1
  have HE := Lib.hid (fun e (he : e ∈ d.es) => s.en x d e h he)
  generalize hl : d.es.length = n at *
  have HN := Lib.hid hl
  have HS := Lib.hid s
  have HH := Lib.hid h
  have HA := Lib.hid ha
  have SS := Lib.hid S
  have hB := Lib.hid s.hB
  have HR := Lib.hid hr
  have HF := Lib.hid hf
  have HM3 := Lib.hid hm
  have HNM := Lib.hid hn
  have hi1 : (M : Int) ≤ (n : Int) := by omega
  have hi2 : (0 : Int) ≤ (M : Int) := by omega
  have hi3 : (M : Int) ≤ (c : Int) := by omega
  have hi4 : (M : Int) + 1 ≤ (n : Int) := by omega
  have hi5 : (0 : Int) ≤ (M : Int) + 1 := by omega
  have hi6 : ¬ c = M + 1 := by omega
  have hi7 : (n : Int) ≤ 64 := by omega
  have hi8 : (M : Int) < (n : Int) := by omega
  have hw1 : IntKind.i64.wrap ((M : Int) + 1) = (M : Int) + 1 := IntWalk.i64_in _ (by omega)
  have hw2 : ((M : Int) + 1).toNat = M + 1 := by omega
  clear s h S hl hM hr ha hf hm hn
  go_enter Try.func79, Try.ntmps79
  go_wp2_with fail
  refine CM.out.mono ?_
  rintro e w1 ⟨rfl, rfl⟩
  rw [HM.out]
  go_wp2_with (at_builtin; refine Hid.out ?_)
  delta Hid
  refine wpList_appT Try.underlying58 en_info rfl (by omega) rfl _ _ rfl B (.slice none 0 0) 0 [] rfl (own_nil w B _) (some ⟨g, 0, none⟩) M c (enRow (d.es.take M)) rfl SR1.out (enRow_one _) (by omega) (by omega) hB.out ?_
  intro v1 w1 own1 gr1 ob1
  simp only [Nat.zero_add, List.nil_append] at own1
  obtain ⟨Al, cl, rfl, _, _⟩ := own_slice own1
  obtain rfl := own_fresh own1 (by omega) (by simpa [Value.ownBlock] using ob1)
  obtain ⟨s1, hl0⟩ := HS.out.newNode own1 gr1 (fun a ha => by injection ha with ha; subst ha; exact Nat.le_refl _) (by rw [List.length_take]; have := HN.out; omega) (fun e he => HE.out e (List.mem_of_mem_take he)) none d.lv
  have b1 : Below B w (w1.alloc (.cells #[ptr none, .slice (some ⟨w.heap.size, 0, none⟩) M cl, .slice none 0 0] 61)) := ((grown_only (S := []) gr1 (fun k hk => by simp [Value.ownBlock] at hk)).alloc _).below (by simp) hB.out
  have nx1 : x ≠ w1.heap.size := fun e => by have := (HS.out.nd x d HH.out).lt; have := gr1.size; omega
  simp only [ptr, Option.map_none] at s1 b1
  have hx1 : upd σ w1.heap.size (some ⟨none, d.es.take M, [], d.lv⟩) x = some d := by rw [upd_ne _ _ nx1]; exact HH.out
  have ha1 : updA α w1.heap.size ⟨some ⟨w.heap.size, 0, none⟩, cl, none, 0⟩ x = ⟨some ⟨g, 0, none⟩, c, A2, c2⟩ := by rw [updA_ne _ _ nx1]; exact HA.out
  have hh0 := s1.hcells.1
  rw [HR.out] at hh0
  simp only [ptr, Option.map_some] at hh0
  have hc1 := (s1.cells' hx1 ha1).2.1
  rw [HN.out] at hc1
  have SR2 := Lib.hid (own_src (s1.own1' hx1 ha1) rfl (M + 1) (n - (M + 1)) (c - (M + 1)) (ys := enRow (d.es.drop (M + 1))) (enRow_drop _) (by rw [enRow_length, List.length_drop]; have := HN.out; omega))
  have hl1 : upd σ w1.heap.size (some ⟨none, d.es.take M, [], d.lv⟩) w1.heap.size = some ⟨none, d.es.take M, [], d.lv⟩ := upd_at _ _ _
  have HL0 := Lib.hid hl0
  have HB1 := Lib.hid b1
  have HS1 := Lib.hid s1
  have HX1 := Lib.hid hx1
  have HA1 := Lib.hid ha1
  have HL1 := Lib.hid hl1
  have NX1 := Lib.hid nx1
  clear own1 gr1 ob1 hl0 b1 s1 hx1 ha1 hl1 nx1 CM SR1
  go_wp2_with (at_builtin; refine Hid.out ?_)
  delta Hid
  generalize w1.alloc (.cells #[.pointer none, .slice (some ⟨w.heap.size, 0, none⟩) M cl, .slice none 0 0] 61) = w2 at *
  generalize w1.heap.size = l at *
  refine wpList_appT Try.underlying58 en_info rfl (by omega) rfl _ _ rfl B (.slice none 0 0) 0 [] rfl (own_nil w2 B _) (some ⟨g, M + 1, none⟩) (n - (M + 1)) (c - (M + 1)) (enRow (d.es.drop (M + 1))) rfl SR2.out (enRow_one _) (by omega) (by omega) HS1.out.hB ?_
  intro v3 w3 own3 gr3 ob3
  simp only [Nat.zero_add, List.nil_append] at own3
  obtain ⟨Ar, cr, rfl, _, _⟩ := own_slice own3
  obtain rfl := own_fresh own3 (by omega) (by simpa [Value.ownBlock] using ob3)
  obtain ⟨s3, hr0⟩ := HS1.out.newNode own3 gr3 (fun a ha => by injection ha with ha; subst ha; exact Nat.le_refl _) (by rw [List.length_drop]; have := HN.out; omega) (fun e he => HS1.out.en x d e HX1.out (List.mem_of_mem_drop he)) none d.lv
  have b3 : Below B w2 (w3.alloc (.cells #[ptr none, .slice (some ⟨w2.heap.size, 0, none⟩) (n - (M + 1)) cr, .slice none 0 0] 61)) := ((grown_only (S := []) gr3 (fun k hk => by simp [Value.ownBlock] at hk)).alloc _).below (by simp) HS1.out.hB
  have nx3 : x ≠ w3.heap.size := fun e => by have := (HS1.out.nd x d HX1.out).lt; have := gr3.size; omega
  have nl3 : l ≠ w3.heap.size := fun e => by have := (HS1.out.nd l _ HL1.out).lt; have := gr3.size; omega
  simp only [ptr, Option.map_none] at s3 b3
  have hx3 : upd (upd σ l (some ⟨none, d.es.take M, [], d.lv⟩)) w3.heap.size (some ⟨none, d.es.drop (M + 1), [], d.lv⟩) x = some d := by rw [upd_ne _ _ nx3]; exact HX1.out
  have ha3 : updA (updA α l ⟨some ⟨w.heap.size, 0, none⟩, cl, none, 0⟩) w3.heap.size ⟨some ⟨w2.heap.size, 0, none⟩, cr, none, 0⟩ x = ⟨some ⟨g, 0, none⟩, c, A2, c2⟩ := by rw [updA_ne _ _ nx3]; exact HA1.out
  have HV3 := Lib.hid (show Halves σ (upd (upd σ l (some ⟨none, d.es.take M, [], d.lv⟩)) w3.heap.size (some ⟨none, d.es.drop (M + 1), [], d.lv⟩)) l w3.heap.size none d.lv (d.es.take M) (d.es.drop (M + 1)) [] [] from ⟨by rw [upd_ne _ _ nl3, upd_at], upd_at _ _ _, fun g hg => by simp at hg, fun g hg => by simp at hg, fun j h1 h2 _ _ => by rw [upd_ne _ _ h2, upd_ne _ _ h1], HL0.out, by rw [upd_ne _ _ nl3.symm] at hr0; exact hr0, nl3⟩)
  have ha3l : updA (updA α l ⟨some ⟨w.heap.size, 0, none⟩, cl, none, 0⟩) w3.heap.size ⟨some ⟨w2.heap.size, 0, none⟩, cr, none, 0⟩ l = ⟨some ⟨w.heap.size, 0, none⟩, cl, none, 0⟩ := by rw [updA_ne _ _ nl3, updA_at]
  have ha3r : updA (updA α l ⟨some ⟨w.heap.size, 0, none⟩, cl, none, 0⟩) w3.heap.size ⟨some ⟨w2.heap.size, 0, none⟩, cr, none, 0⟩ w3.heap.size = ⟨some ⟨w2.heap.size, 0, none⟩, cr, none, 0⟩ := updA_at _ _ _
  have hh0 := s3.hcells.1
  rw [HR.out] at hh0
  simp only [ptr, Option.map_some] at hh0
  have HB3 := Lib.hid (HB1.out.trans (b3.mono (Nat.le_refl _)))
  have HS3 := Lib.hid s3
  have HX3 := Lib.hid hx3
  have HA3 := Lib.hid ha3
  have HA3l := Lib.hid ha3l
  have HA3r := Lib.hid ha3r
  have NX3 := Lib.hid nx3
  clear own3 gr3 ob3 hr0 b3 s3 hx3 ha3 ha3l ha3r nx3 nl3 SR2 HS1 HX1 HA1 HB1 HL1 hc1
  go_wp2_with fail
  generalize w3.alloc (.cells #[.pointer none, .slice (some ⟨w2.heap.size, 0, none⟩) (n - (M + 1)) cr, .slice none 0 0] 61) = w4 at *
  generalize w3.heap.size = r at *
  generalize upd (upd σ l (some ⟨none, d.es.take M, [], d.lv⟩)) r (some ⟨none, d.es.drop (M + 1), [], d.lv⟩) = σ3 at *
  generalize updA (updA α l ⟨some ⟨w.heap.size, 0, none⟩, cl, none, 0⟩) r ⟨some ⟨w2.heap.size, 0, none⟩, cr, none, 0⟩ = α3 at *
  generalize w.heap.size = gl at *
  generalize w2.heap.size = gr at *
  rcases Nat.eq_zero_or_pos d.lv with h0 | h0
  · have hk0 := SS.out.leaf x d HH.out h0
    refine (leafY HS3.out HX3.out hk0 _).mono ?_
    rintro e w10 ⟨rfl, rfl⟩
    generalize w4 = w10 at *
    obtain ⟨kA, kB, hkA, hkB⟩ : ∃ kA kB : List Nat, kA = [] ∧ kB = [] := ⟨[], [], rfl, rfl⟩
    have HK := Lib.hid (show d.ks = kA ++ kB ∧ Cut d.lv kA kB (d.es.take M) (d.es.drop (M + 1)) from ⟨by rw [hkA, hkB]; exact hk0, .inl ⟨h0, hkA, hkB⟩⟩)
    have HV10 := Lib.hid (show Halves σ σ3 l r none d.lv (d.es.take M) (d.es.drop (M + 1)) kA kB from by rw [hkA, hkB]; exact HV3.out)
    have h0 := Lib.hid h0
    have HX10 := HX3
    have HS10 := HS3
    have HB10 := HB3
    have HA7x := HA3
    clear HV3 HX3 HS3 HB3 HA3 hk0 hkA hkB
    generalize σ3 = σ5 at *
    generalize α3 = α5 at *
    have hKall := Lib.hid (show ∀ g, g ∈ kA ∨ g ∈ kB → ∃ c, σ g = some c from fun g hg => by
      obtain ⟨cd, h1, _⟩ := SS.out.kid x d g HH.out (by rw [HK.out.1]; simpa using hg)
      exact ⟨cd, h1⟩)
    obtain ⟨e, he⟩ : ∃ e, d.es[M]? = some e := ⟨_, List.getElem?_eq_getElem (by have := HN.out; omega)⟩
    have hes := getElem?_split he
    have HES := Lib.hid hes
    have hh0 := HS10.out.hcells.1
    rw [HR.out] at hh0
    simp only [ptr, Option.map_some] at hh0
    have hc1 := (HS10.out.cells' HX10.out HA7x.out).2.1
    rw [HN.out] at hc1
    obtain ⟨g', hg1, hg2, _⟩ := HS10.out.ent HX10.out he
    rw [HA7x.out] at hg1
    injection hg1 with hg1
    injection hg1 with hg1
    subst hg1
    have HE10 := Lib.hid (HS10.out.en x d e HX10.out (List.mem_of_getElem? he))
    have hlx := Lib.hid (HS10.out.nd l _ HV10.out.l_).lt
    have hrx := Lib.hid (HS10.out.nd r _ HV10.out.r_).lt
    have hxx := Lib.hid (HS10.out.nd x _ HX10.out).lt
    have A10 := Lib.hid (HS10.out.add (i := w10.heap.size + 1 + 1) (w' := ((w10.alloc (.cells #[.pointer (some ⟨e.b, 0, none⟩)] 62)).alloc (.cells #[.pointer (some ⟨l, 0, none⟩), .pointer (some ⟨r, 0, none⟩)] 45)).alloc (.cells #[.pointer none, .slice (some ⟨w10.heap.size, 0, none⟩) 1 1, .slice (some ⟨w10.heap.size + 1, 0, none⟩) 2 2] 61)) (by omega) ((((Only.refl [] w10).alloc _).alloc _).alloc _) (d' := ⟨none, [e], [l, r], d.lv + 1⟩) (a' := ⟨some ⟨w10.heap.size, 0, none⟩, 1, some ⟨w10.heap.size + 1, 0, none⟩, 2⟩)
      ⟨Blk.newAt (by simp) _ _, list_own (L := [.pointer (some ⟨e.b, 0, none⟩)]) (Blk.alloc (Blk.alloc (Blk.new _ _ _) _) _) HS10.out.hB (Nat.le_refl _) (show (1 : Nat) ≤ maxLen by unfold maxLen; omega) rfl rfl, list_own (L := [.pointer (some ⟨l, 0, none⟩), .pointer (some ⟨r, 0, none⟩)]) (Blk.alloc (Blk.newAt (by simp) _ _) _) (by have := HS10.out.hB; omega) (Nat.le_refl _) (show (2 : Nat) ≤ maxLen by unfold maxLen; omega) rfl rfl, by have := HS10.out.hB; omega⟩
      (fun a ha => by injection ha with ha; subst ha; exact Nat.le_refl _) (fun a ha => by injection ha with ha; subst ha; exact Nat.le_succ _) (fun e' he' => by simp only [List.mem_singleton] at he'; rw [he']; exact ⟨(((HE10.out.1.alloc _).alloc _).alloc _), HE10.out.2⟩))
    have B10 := Lib.hid (((((Only.refl [] w10).alloc (.cells #[.pointer (some ⟨e.b, 0, none⟩)] 62)).alloc (.cells #[.pointer (some ⟨l, 0, none⟩), .pointer (some ⟨r, 0, none⟩)] 45)).alloc (.cells #[.pointer none, .slice (some ⟨w10.heap.size, 0, none⟩) 1 1, .slice (some ⟨w10.heap.size + 1, 0, none⟩) 2 2] 61)).below (B := B) (by simp) HS10.out.hB)
    have hln : l ≠ w10.heap.size + 1 + 1 := by have := hlx.out; omega
    have hrn : r ≠ w10.heap.size + 1 + 1 := by have := hrx.out; omega
    have hxn : x ≠ w10.heap.size + 1 + 1 := by have := hxx.out; omega
    have q1 : upd σ5 (w10.heap.size + 1 + 1) (some ⟨none, [e], [l, r], d.lv + 1⟩) l = some ⟨none, d.es.take M, kA, d.lv⟩ := by rw [upd_ne _ _ hln]; exact HV10.out.l_
    have S11 := A10.out.1.setPar q1 (some (w10.heap.size + 1 + 1))
    have q2 : upd (upd σ5 (w10.heap.size + 1 + 1) (some ⟨none, [e], [l, r], d.lv + 1⟩)) l (some ⟨some (w10.heap.size + 1 + 1), d.es.take M, kA, d.lv⟩) r = some ⟨none, d.es.drop (M + 1), kB, d.lv⟩ := by rw [upd_ne _ _ HV10.out.lr.symm, upd_ne _ _ hrn]; exact HV10.out.r_
    have S12 := S11.setPar q2 (some (w10.heap.size + 1 + 1))
    have r1 := (A10.out.1.cells q1).1
    have r1f := (A10.out.1.cells q1).2.2.2 0
    have r2 := (S11.cells q2).1
    have r2f := (S11.cells q2).2.2.2 0
    have r3 := S12.hcells.1
    have r3f := S12.hd.frozen 0
    rw [HR.out] at r3
    simp only [ptr, Option.map_some, Option.map_none] at r1 r2 r3 r2f r3f
    have HLN := Lib.hid hln
    have HRN := Lib.hid hrn
    have HXN := Lib.hid hxn
    have HS12 := Lib.hid S12
    have ge1 := Lib.hid (A10.out.1.nd l _ q1).ge
    have ge2 := Lib.hid (S11.nd r _ q2).ge
    clear q1 q2 S11 S12 hln hrn hxn
    go_wp2_with fail
    go_end0
    simp only [ptr, Option.map_some] at HS12
    have S13 := (HS12.out.head (H' := { H with root := some (w10.heap.size + 1 + 1) }) ((Only.refl [H.tb] _).setCell (p := ⟨H.tb, 0, none⟩) (.inl (by simp)) (.pointer (some ⟨w10.heap.size + 1 + 1, 0, none⟩))) rfl rfl (by have := HS12.out.hd.set_ 0 (.pointer (some ⟨w10.heap.size + 1 + 1, 0, none⟩)); simpa [ptr] using this)).drop x
    have hnr0 : σ (w10.heap.size + 1 + 1) = none := by
      cases hc : σ (w10.heap.size + 1 + 1) with
      | none => rfl
      | some cd => exact absurd (HS.out.nd _ _ hc).lt (by have := HB10.out.size; omega)
    have T0 := splitRoot_two (σ' := upd (upd (upd (upd σ5 (w10.heap.size + 1 + 1) (some ⟨none, [e], [l, r], d.lv + 1⟩)) l (some ⟨some (w10.heap.size + 1 + 1), d.es.take M, kA, d.lv⟩)) r (some ⟨some (w10.heap.size + 1 + 1), d.es.drop (M + 1), kB, d.lv⟩)) x none) SS.out HH.out HES.out HK.out.1 HK.out.2 HV10.out.l0 HV10.out.r0 hnr0 HV10.out.lr HLN.out HRN.out
      (by rw [upd_ne _ _ NX1.out.symm, upd_ne _ _ HV10.out.lr, upd_at]) (by rw [upd_ne _ _ NX3.out.symm, upd_at]) (by rw [upd_ne _ _ HXN.out.symm, upd_ne _ _ HRN.out.symm, upd_ne _ _ HLN.out.symm, upd_at]) (upd_at _ _ _)
      (fun g hg gd hgd => by
        have hgx : g ≠ x := fun e => SS.out.not_own HH.out (by rw [HK.out.1, ← e]; simp [hg])
        have hgl : g ≠ l := fun e => by rw [e, HV10.out.l0] at hgd; cases hgd
        have hgr : g ≠ r := fun e => by rw [e, HV10.out.r0] at hgd; cases hgd
        have hgn : g ≠ w10.heap.size + 1 + 1 := fun e => by rw [e, hnr0] at hgd; cases hgd
        rw [upd_ne _ _ hgx, upd_ne _ _ hgr, upd_ne _ _ hgl, upd_ne _ _ hgn]; exact HV10.out.gA g hg gd hgd)
      (fun g hg gd hgd => by
        have hgx : g ≠ x := fun e => SS.out.not_own HH.out (by rw [HK.out.1, ← e]; simp [hg])
        have hgl : g ≠ l := fun e => by rw [e, HV10.out.l0] at hgd; cases hgd
        have hgr : g ≠ r := fun e => by rw [e, HV10.out.r0] at hgd; cases hgd
        have hgn : g ≠ w10.heap.size + 1 + 1 := fun e => by rw [e, hnr0] at hgd; cases hgd
        rw [upd_ne _ _ hgx, upd_ne _ _ hgr, upd_ne _ _ hgl, upd_ne _ _ hgn]; exact HV10.out.gB g hg gd hgd)
      (fun j h1 h2 h3 h4 h5 h6 => by rw [upd_ne _ _ h2, upd_ne _ _ h4, upd_ne _ _ h3, upd_ne _ _ h1]; exact HV10.out.off j h3 h4 h5 h6)
    have T := T0.1
    have hN0 := HN.out
    have hN1 := HNM.out
    have hM0 := HM.out
    refine ⟨rfl, _, _, _, S13, T.2, T.1, ?_, ?_, fun c ac => T0.2 H.m c (by omega) (by unfold midOf; rw [List.length_take]; omega) ac⟩
    · intro j e' hj
      have hM := HM.out
      have hN := HN.out
      have hNM := HNM.out
      have hM3 := HM3.out
      by_cases j1 : j = x
      · subst j1; rw [upd_at] at hj; cases hj
      rw [upd_ne _ _ j1] at hj
      by_cases j2 : j = r
      · subst j2; rw [upd_at] at hj; injection hj with hj; subst hj
        refine ⟨?_, fun _ => ?_, ?_⟩ <;> simp only [List.length_drop] <;> omega
      rw [upd_ne _ _ j2] at hj
      by_cases j3 : j = l
      · subst j3; rw [upd_at] at hj; injection hj with hj; subst hj
        refine ⟨?_, fun _ => ?_, ?_⟩ <;> simp only [List.length_take] <;> omega
      rw [upd_ne _ _ j3] at hj
      by_cases j4 : j = w10.heap.size + 1 + 1
      · subst j4; rw [upd_at] at hj; injection hj with hj; subst hj
        refine ⟨?_, fun h => absurd rfl h, ?_⟩ <;> simp only [List.length_cons, List.length_nil] <;> omega
      rw [upd_ne _ _ j4] at hj
      rcases HV10.out.inv hKall.out hj with h | h | ⟨e0, h, he0⟩
      · exact absurd h j3
      · exact absurd h j2
      · have := HF.out j e0 h j1
        exact ⟨by rw [he0]; exact this.1, fun _ => by rw [he0]; exact this.2.1 j1, by rw [he0]; exact this.2.2⟩
    · exact ((HB10.out.trans B10.out).setCell (p := ⟨l, 0, none⟩) ge1.out _).setCell (p := ⟨r, 0, none⟩) ge2.out _ |>.setCell (p := ⟨H.tb, 0, none⟩) HS.out.hdB _
  · have hk := SS.out.inner x d HH.out h0
    refine (leafN HS3.out HX3.out (by omega) _).mono ?_
    rintro e w5 ⟨rfl, rfl⟩
    have hkn : d.ks.length = n + 1 := by rw [hk, HN.out]
    have HKN := Lib.hid hkn
    have HK := Lib.hid (show d.ks = d.ks.take (M + 1) ++ d.ks.drop (M + 1) ∧ Cut d.lv (d.ks.take (M + 1)) (d.ks.drop (M + 1)) (d.es.take M) (d.es.drop (M + 1)) from ⟨(List.take_append_drop _ _).symm, .inr ⟨h0, by simp only [List.length_take]; have := HN.out; omega, by simp only [List.length_drop]; have := HN.out; omega⟩⟩)
    have hkall : ∀ k ∈ d.ks, ∃ cd, σ k = some cd := fun k hkm => by obtain ⟨cd, h1, _⟩ := SS.out.kid x d k HH.out hkm; exact ⟨cd, h1⟩
    have HKA := Lib.hid hkall
    have HND := Lib.hid (SS.out.nd x d HH.out)
    have hc2 := (HS3.out.cells' HX3.out HA3.out).2.2.1
    have ow2 := HS3.out.own2' HX3.out HA3.out
    obtain ⟨g2, rfl⟩ := own_some' ow2 (by omega)
    have hcap2 := own_cap' ow2 (by omega)
    rw [hkn] at hc2 hcap2
    have SR3 := Lib.hid (own_src ow2 rfl 0 (M + 1) c2 (ys := ndRow (d.ks.take (M + 1))) (ndRow_take _) (by rw [ndRow_length, List.length_take]; omega))
    have hj1 : (M : Int) + 1 ≤ ((n + 1 : Nat) : Int) := by omega
    have hj2 : (M : Int) + 1 ≤ (c2 : Int) := by omega
    have hj3 : ¬ c2 = M + 1 := by omega
    have hj4 : (M : Int) + 1 ≤ (n : Int) + 1 := by omega
    have h0 := Lib.hid h0
    clear ow2 hk hkn hkall
    go_wp2_with (at_builtin; refine Hid.out ?_)
    delta Hid
    refine wpList_appT Try.underlying59 nd_info rfl (by omega) rfl _ _ rfl B (.slice none 0 0) 0 [] rfl (own_nil w4 B _) (some ⟨g2, 0, none⟩) (M + 1) c2 (ndRow (d.ks.take (M + 1))) rfl SR3.out (ndRow_one _) (by omega) (by omega) HS3.out.hB ?_
    intro v5 w5 own5 gr5 ob5
    simp only [Nat.zero_add, List.nil_append] at own5
    obtain ⟨Ac, cc, rfl, _, _⟩ := own_slice own5
    obtain rfl := own_fresh own5 (by omega) (by simpa [Value.ownBlock] using ob5)
    obtain ⟨s5, b5⟩ := HS3.out.setKs HV3.out.l_ own5 gr5 (fun k hk => by simp [Value.ownBlock] at hk) (fun a ha => .inr (by injection ha with ha; subst ha; exact Nat.le_refl _)) (by rw [List.length_take]; have := HKN.out; omega)
    rw [HA3l.out] at s5
    simp only at s5
    have lb5 := ((HS3.out.nd l _ HV3.out.l_).blk.same (gr5.block l (HS3.out.nd l _ HV3.out.l_).lt (fun e => by simp [Value.ownBlock] at e)))
    rw [HA3l.out] at lb5
    have hlc5 := lb5.cell 2
    have hlf5 := lb5.frozen 2
    simp only at hlc5
    have nxl : x ≠ l := NX1.out
    have hx5 : upd σ3 l (some ⟨none, d.es.take M, d.ks.take (M + 1), d.lv⟩) x = some d := by rw [upd_ne _ _ nxl]; exact HX3.out
    have ha5 : updA α3 l ⟨some ⟨gl, 0, none⟩, cl, some ⟨w4.heap.size, 0, none⟩, cc⟩ x = ⟨some ⟨g, 0, none⟩, c, some ⟨g2, 0, none⟩, c2⟩ := by rw [updA_ne _ _ nxl]; exact HA3.out
    have hr5 : upd σ3 l (some ⟨none, d.es.take M, d.ks.take (M + 1), d.lv⟩) r = some ⟨none, d.es.drop (M + 1), [], d.lv⟩ := by rw [upd_ne _ _ HV3.out.lr.symm]; exact HV3.out.r_
    have ha5r : updA α3 l ⟨some ⟨gl, 0, none⟩, cl, some ⟨w4.heap.size, 0, none⟩, cc⟩ r = ⟨some ⟨gr, 0, none⟩, cr, none, 0⟩ := by rw [updA_ne _ _ HV3.out.lr.symm]; exact HA3r.out
    have hh0 := s5.hcells.1
    rw [HR.out] at hh0
    simp only [ptr, Option.map_some] at hh0
    have hc2 := (s5.cells' hx5 ha5).2.2.1
    rw [HKN.out] at hc2
    have SR5 := Lib.hid (own_src (s5.own2' hx5 ha5) rfl (M + 1) (n - M) (c2 - (M + 1)) (ys := ndRow (d.ks.drop (M + 1))) (ndRow_drop _) (by rw [ndRow_length, List.length_drop]; have := HKN.out; omega))
    have HS5 := Lib.hid s5
    have HB5 := Lib.hid (HB3.out.trans b5)
    have HX5 := Lib.hid hx5
    have HA5 := Lib.hid ha5
    have HR5 := Lib.hid hr5
    have HA5r := Lib.hid ha5r
    have GZ := Lib.hid gr5.size
    clear own5 gr5 ob5 s5 b5 hx5 ha5 hr5 ha5r lb5 SR3 HS3 HX3 HA3 HA3l HA3r HB3 nxl
    go_wp2_with (at_builtin; refine Hid.out ?_)
    delta Hid
    generalize w5.setCell ⟨l, 2, none⟩ (.slice (some ⟨w4.heap.size, 0, none⟩) (M + 1) cc) = w6 at *
    refine wpList_appT Try.underlying59 nd_info rfl (by omega) rfl _ _ rfl B (.slice none 0 0) 0 [] rfl (own_nil w6 B _) (some ⟨g2, M + 1, none⟩) (n - M) (c2 - (M + 1)) (ndRow (d.ks.drop (M + 1))) rfl SR5.out (ndRow_one _) (by omega) (by omega) HS5.out.hB ?_
    intro v7 w7 own7 gr7 ob7
    simp only [Nat.zero_add, List.nil_append] at own7
    obtain ⟨Ad, ce, rfl, _, _⟩ := own_slice own7
    obtain rfl := own_fresh own7 (by omega) (by simpa [Value.ownBlock] using ob7)
    obtain ⟨s7, b7⟩ := HS5.out.setKs HR5.out own7 gr7 (fun k hk => by simp [Value.ownBlock] at hk) (fun a ha => .inr (by injection ha with ha; subst ha; exact Nat.le_refl _)) (by rw [List.length_drop]; have := HKN.out; omega)
    rw [HA5r.out] at s7
    simp only at s7
    have lb7 := ((HS5.out.nd r _ HR5.out).blk.same (gr7.block r (HS5.out.nd r _ HR5.out).lt (fun e => by simp [Value.ownBlock] at e)))
    rw [HA5r.out] at lb7
    have hrc7 := lb7.cell 2
    have hrf7 := lb7.frozen 2
    simp only at hrc7
    have hl7 : upd (upd σ3 l (some ⟨none, d.es.take M, d.ks.take (M + 1), d.lv⟩)) r (some ⟨none, d.es.drop (M + 1), d.ks.drop (M + 1), d.lv⟩) l = some ⟨none, d.es.take M, d.ks.take (M + 1), d.lv⟩ := by rw [upd_ne _ _ HV3.out.lr, upd_at]
    have ha7l : updA (updA α3 l ⟨some ⟨gl, 0, none⟩, cl, some ⟨w4.heap.size, 0, none⟩, cc⟩) r ⟨some ⟨gr, 0, none⟩, cr, some ⟨w6.heap.size, 0, none⟩, ce⟩ l = ⟨some ⟨gl, 0, none⟩, cl, some ⟨w4.heap.size, 0, none⟩, cc⟩ := by rw [updA_ne _ _ HV3.out.lr, updA_at]
    have ha7r : updA (updA α3 l ⟨some ⟨gl, 0, none⟩, cl, some ⟨w4.heap.size, 0, none⟩, cc⟩) r ⟨some ⟨gr, 0, none⟩, cr, some ⟨w6.heap.size, 0, none⟩, ce⟩ r = ⟨some ⟨gr, 0, none⟩, cr, some ⟨w6.heap.size, 0, none⟩, ce⟩ := updA_at _ _ _
    have ha7x : updA (updA α3 l ⟨some ⟨gl, 0, none⟩, cl, some ⟨w4.heap.size, 0, none⟩, cc⟩) r ⟨some ⟨gr, 0, none⟩, cr, some ⟨w6.heap.size, 0, none⟩, ce⟩ x = ⟨some ⟨g, 0, none⟩, c, some ⟨g2, 0, none⟩, c2⟩ := by rw [updA_ne _ _ NX3.out]; exact HA5.out
    have kne : ∀ k ∈ d.ks, k ≠ l ∧ k ≠ r := fun k hk => by
      obtain ⟨cd, h1⟩ := HKA.out k hk
      exact ⟨(fun e => by rw [e, HV3.out.l0] at h1; cases h1), (fun e => by rw [e, HV3.out.r0] at h1; cases h1)⟩
    have KNE := Lib.hid kne
    have hold : ∀ j, j ≠ l → j ≠ r → upd (upd σ3 l (some ⟨none, d.es.take M, d.ks.take (M + 1), d.lv⟩)) r (some ⟨none, d.es.drop (M + 1), d.ks.drop (M + 1), d.lv⟩) j = σ j := fun j h1 h2 => by rw [upd_ne _ _ h2, upd_ne _ _ h1]; exact HV3.out.off j h1 h2 (by simp) (by simp)
    have HOLD := Lib.hid hold
    have CP := Lib.hid (fun (wx : World) (sx : St wx B H o _ _) => setParent_walk' sx hl7 ha7l (by rw [List.length_take]; have := HKN.out; omega) (fun k hk => by
      obtain ⟨cd, h1⟩ := HKA.out k (List.mem_of_mem_take hk)
      have h2 := KNE.out k (List.mem_of_mem_take hk)
      exact ⟨cd, by rw [HOLD.out k h2.1 h2.2]; exact h1⟩) ((List.take_sublist _ _).nodup HND.out) (fun hm => (KNE.out l (List.mem_of_mem_take hm)).1 rfl) (by omega) l (n := M + 1))
    have hlc7 := (s7.cells' hl7 ha7l).2.2.1
    simp only [List.length_take, show min (M + 1) d.ks.length = M + 1 by have := HKN.out; omega] at hlc7
    have HS7 := Lib.hid s7
    have HB7 := Lib.hid (HB5.out.trans b7)
    have HA7r := Lib.hid ha7r
    have HA7x := Lib.hid ha7x
    have HA7l := Lib.hid ha7l
    clear own7 gr7 ob7 s7 b7 lb7 hl7 ha7l ha7r ha7x kne hold hlc5 hlf5 SR5 HS5 HX5 HA5 HR5 HA5r HB5 GZ
    go_wp2_with fail
    generalize w7.setCell ⟨r, 2, none⟩ (.slice (some ⟨w6.heap.size, 0, none⟩) (n - M) ce) = w8 at *
    refine (CP.out w8 HS7.out).mono ?_
    rintro e w9 ⟨rfl, s9, b9⟩
    have hr9 : setPar (upd (upd σ3 l (some ⟨none, d.es.take M, d.ks.take (M + 1), d.lv⟩)) r (some ⟨none, d.es.drop (M + 1), d.ks.drop (M + 1), d.lv⟩)) (d.ks.take (M + 1)) (some l) r = some ⟨none, d.es.drop (M + 1), d.ks.drop (M + 1), d.lv⟩ := by rw [setPar_out (fun hm => (KNE.out r (List.mem_of_mem_take hm)).2 rfl), upd_at]
    have hsep : ∀ k ∈ d.ks.drop (M + 1), k ∉ d.ks.take (M + 1) := fun k hk1 hk2 => by
      have := HND.out
      rw [← List.take_append_drop (M + 1) d.ks, List.nodup_append] at this
      exact this.2.2 k hk2 k hk1 rfl
    have HSEP := Lib.hid hsep
    have CQ := Lib.hid (fun (wx : World) (sx : St wx B H o _ _) => setParent_walk' sx hr9 HA7r.out (by rw [List.length_drop]; have := HKN.out; omega) (fun k hk => by
      obtain ⟨cd, h1⟩ := HKA.out k (List.mem_of_mem_drop hk)
      have h2 := KNE.out k (List.mem_of_mem_drop hk)
      exact ⟨cd, by rw [setPar_out (HSEP.out k hk), HOLD.out k h2.1 h2.2]; exact h1⟩) ((List.drop_sublist _ _).nodup HND.out) (fun hm => (KNE.out r (List.mem_of_mem_drop hm)).2 rfl) (by omega) r (n := n - M))
    have hrc9 := (s9.cells' hr9 HA7r.out).2.2.1
    simp only [List.length_drop, show d.ks.length - (M + 1) = n - M by have := HKN.out; omega] at hrc9
    have HS9 := Lib.hid s9
    have HB9 := Lib.hid (HB7.out.trans b9)
    clear s9 b9 hsep HS7 HB7 hlc7 hr9 hrc7 hrf7
    go_wp2_with fail
    refine (CQ.out w9 HS9.out).mono ?_
    rintro e w10 ⟨rfl, s10, b10⟩
    have HV10 := Lib.hid (show Halves σ (setPar (setPar (upd (upd σ3 l (some ⟨none, d.es.take M, d.ks.take (M + 1), d.lv⟩)) r (some ⟨none, d.es.drop (M + 1), d.ks.drop (M + 1), d.lv⟩)) (d.ks.take (M + 1)) (some l)) (d.ks.drop (M + 1)) (some r)) l r none d.lv (d.es.take M) (d.es.drop (M + 1)) (d.ks.take (M + 1)) (d.ks.drop (M + 1)) from by
      refine ⟨?_, ?_, ?_, ?_, ?_, HV3.out.l0, HV3.out.r0, HV3.out.lr⟩
      · rw [setPar_out (fun hm => (KNE.out l (List.mem_of_mem_drop hm)).1 rfl), setPar_out (fun hm => (KNE.out l (List.mem_of_mem_take hm)).1 rfl), upd_ne _ _ HV3.out.lr, upd_at]
      · rw [setPar_out (fun hm => (KNE.out r (List.mem_of_mem_drop hm)).2 rfl), setPar_out (fun hm => (KNE.out r (List.mem_of_mem_take hm)).2 rfl), upd_at]
      · intro k hk gd hgd
        have h2 := KNE.out k (List.mem_of_mem_take hk)
        rw [setPar_out (fun hm => HSEP.out k hm hk)]
        exact setPar_in hk (by rw [HOLD.out k h2.1 h2.2]; exact hgd)
      · intro k hk gd hgd
        have h2 := KNE.out k (List.mem_of_mem_drop hk)
        exact setPar_in hk (by rw [setPar_out (HSEP.out k hk), HOLD.out k h2.1 h2.2]; exact hgd)
      · intro j h1 h2 h3 h4
        rw [setPar_out h4, setPar_out h3]
        exact HOLD.out j h1 h2)
    have own := SS.out.not_own HH.out
    have HX10 := Lib.hid (show setPar (setPar (upd (upd σ3 l (some ⟨none, d.es.take M, d.ks.take (M + 1), d.lv⟩)) r (some ⟨none, d.es.drop (M + 1), d.ks.drop (M + 1), d.lv⟩)) (d.ks.take (M + 1)) (some l)) (d.ks.drop (M + 1)) (some r) x = some d by rw [HV10.out.off x NX1.out NX3.out (fun hm => own (List.mem_of_mem_take hm)) (fun hm => own (List.mem_of_mem_drop hm))]; exact HH.out)
    have HS10 := Lib.hid s10
    have HB10 := Lib.hid (HB9.out.trans b10)
    clear own s10 b10 HS9 HB9 CP CQ hrc9 HOLD HV3 KNE HSEP HA7r HA7l
    generalize setPar (setPar (upd (upd σ3 l (some ⟨none, d.es.take M, d.ks.take (M + 1), d.lv⟩)) r (some ⟨none, d.es.drop (M + 1), d.ks.drop (M + 1), d.lv⟩)) (d.ks.take (M + 1)) (some l)) (d.ks.drop (M + 1)) (some r) = σ5 at *
    generalize updA (updA α3 l ⟨some ⟨gl, 0, none⟩, cl, some ⟨w4.heap.size, 0, none⟩, cc⟩) r ⟨some ⟨gr, 0, none⟩, cr, some ⟨w6.heap.size, 0, none⟩, ce⟩ = α5 at *
    generalize d.ks.take (M + 1) = kA at *
    generalize d.ks.drop (M + 1) = kB at *
    have hKall := Lib.hid (show ∀ g, g ∈ kA ∨ g ∈ kB → ∃ c, σ g = some c from fun g hg => by
      obtain ⟨cd, h1, _⟩ := SS.out.kid x d g HH.out (by rw [HK.out.1]; simpa using hg)
      exact ⟨cd, h1⟩)
    obtain ⟨e, he⟩ : ∃ e, d.es[M]? = some e := ⟨_, List.getElem?_eq_getElem (by have := HN.out; omega)⟩
    have hes := getElem?_split he
    have HES := Lib.hid hes
    have hh0 := HS10.out.hcells.1
    rw [HR.out] at hh0
    simp only [ptr, Option.map_some] at hh0
    have hc1 := (HS10.out.cells' HX10.out HA7x.out).2.1
    rw [HN.out] at hc1
    obtain ⟨g', hg1, hg2, _⟩ := HS10.out.ent HX10.out he
    rw [HA7x.out] at hg1
    injection hg1 with hg1
    injection hg1 with hg1
    subst hg1
    have HE10 := Lib.hid (HS10.out.en x d e HX10.out (List.mem_of_getElem? he))
    have hlx := Lib.hid (HS10.out.nd l _ HV10.out.l_).lt
    have hrx := Lib.hid (HS10.out.nd r _ HV10.out.r_).lt
    have hxx := Lib.hid (HS10.out.nd x _ HX10.out).lt
    have A10 := Lib.hid (HS10.out.add (i := w10.heap.size + 1 + 1) (w' := ((w10.alloc (.cells #[.pointer (some ⟨e.b, 0, none⟩)] 62)).alloc (.cells #[.pointer (some ⟨l, 0, none⟩), .pointer (some ⟨r, 0, none⟩)] 45)).alloc (.cells #[.pointer none, .slice (some ⟨w10.heap.size, 0, none⟩) 1 1, .slice (some ⟨w10.heap.size + 1, 0, none⟩) 2 2] 61)) (by omega) ((((Only.refl [] w10).alloc _).alloc _).alloc _) (d' := ⟨none, [e], [l, r], d.lv + 1⟩) (a' := ⟨some ⟨w10.heap.size, 0, none⟩, 1, some ⟨w10.heap.size + 1, 0, none⟩, 2⟩)
      ⟨Blk.newAt (by simp) _ _, list_own (L := [.pointer (some ⟨e.b, 0, none⟩)]) (Blk.alloc (Blk.alloc (Blk.new _ _ _) _) _) HS10.out.hB (Nat.le_refl _) (show (1 : Nat) ≤ maxLen by unfold maxLen; omega) rfl rfl, list_own (L := [.pointer (some ⟨l, 0, none⟩), .pointer (some ⟨r, 0, none⟩)]) (Blk.alloc (Blk.newAt (by simp) _ _) _) (by have := HS10.out.hB; omega) (Nat.le_refl _) (show (2 : Nat) ≤ maxLen by unfold maxLen; omega) rfl rfl, by have := HS10.out.hB; omega⟩
      (fun a ha => by injection ha with ha; subst ha; exact Nat.le_refl _) (fun a ha => by injection ha with ha; subst ha; exact Nat.le_succ _) (fun e' he' => by simp only [List.mem_singleton] at he'; rw [he']; exact ⟨(((HE10.out.1.alloc _).alloc _).alloc _), HE10.out.2⟩))
    have B10 := Lib.hid (((((Only.refl [] w10).alloc (.cells #[.pointer (some ⟨e.b, 0, none⟩)] 62)).alloc (.cells #[.pointer (some ⟨l, 0, none⟩), .pointer (some ⟨r, 0, none⟩)] 45)).alloc (.cells #[.pointer none, .slice (some ⟨w10.heap.size, 0, none⟩) 1 1, .slice (some ⟨w10.heap.size + 1, 0, none⟩) 2 2] 61)).below (B := B) (by simp) HS10.out.hB)
    have hln : l ≠ w10.heap.size + 1 + 1 := by have := hlx.out; omega
    have hrn : r ≠ w10.heap.size + 1 + 1 := by have := hrx.out; omega
    have hxn : x ≠ w10.heap.size + 1 + 1 := by have := hxx.out; omega
    have q1 : upd σ5 (w10.heap.size + 1 + 1) (some ⟨none, [e], [l, r], d.lv + 1⟩) l = some ⟨none, d.es.take M, kA, d.lv⟩ := by rw [upd_ne _ _ hln]; exact HV10.out.l_
    have S11 := A10.out.1.setPar q1 (some (w10.heap.size + 1 + 1))
    have q2 : upd (upd σ5 (w10.heap.size + 1 + 1) (some ⟨none, [e], [l, r], d.lv + 1⟩)) l (some ⟨some (w10.heap.size + 1 + 1), d.es.take M, kA, d.lv⟩) r = some ⟨none, d.es.drop (M + 1), kB, d.lv⟩ := by rw [upd_ne _ _ HV10.out.lr.symm, upd_ne _ _ hrn]; exact HV10.out.r_
    have S12 := S11.setPar q2 (some (w10.heap.size + 1 + 1))
    have r1 := (A10.out.1.cells q1).1
    have r1f := (A10.out.1.cells q1).2.2.2 0
    have r2 := (S11.cells q2).1
    have r2f := (S11.cells q2).2.2.2 0
    have r3 := S12.hcells.1
    have r3f := S12.hd.frozen 0
    rw [HR.out] at r3
    simp only [ptr, Option.map_some, Option.map_none] at r1 r2 r3 r2f r3f
    have HLN := Lib.hid hln
    have HRN := Lib.hid hrn
    have HXN := Lib.hid hxn
    have HS12 := Lib.hid S12
    have ge1 := Lib.hid (A10.out.1.nd l _ q1).ge
    have ge2 := Lib.hid (S11.nd r _ q2).ge
    clear q1 q2 S11 S12 hln hrn hxn
    go_wp2_with fail
    go_end0
    simp only [ptr, Option.map_some] at HS12
    have S13 := (HS12.out.head (H' := { H with root := some (w10.heap.size + 1 + 1) }) ((Only.refl [H.tb] _).setCell (p := ⟨H.tb, 0, none⟩) (.inl (by simp)) (.pointer (some ⟨w10.heap.size + 1 + 1, 0, none⟩))) rfl rfl (by have := HS12.out.hd.set_ 0 (.pointer (some ⟨w10.heap.size + 1 + 1, 0, none⟩)); simpa [ptr] using this)).drop x
    have hnr0 : σ (w10.heap.size + 1 + 1) = none := by
      cases hc : σ (w10.heap.size + 1 + 1) with
      | none => rfl
      | some cd => exact absurd (HS.out.nd _ _ hc).lt (by have := HB10.out.size; omega)
    have T0 := splitRoot_two (σ' := upd (upd (upd (upd σ5 (w10.heap.size + 1 + 1) (some ⟨none, [e], [l, r], d.lv + 1⟩)) l (some ⟨some (w10.heap.size + 1 + 1), d.es.take M, kA, d.lv⟩)) r (some ⟨some (w10.heap.size + 1 + 1), d.es.drop (M + 1), kB, d.lv⟩)) x none) SS.out HH.out HES.out HK.out.1 HK.out.2 HV10.out.l0 HV10.out.r0 hnr0 HV10.out.lr HLN.out HRN.out
      (by rw [upd_ne _ _ NX1.out.symm, upd_ne _ _ HV10.out.lr, upd_at]) (by rw [upd_ne _ _ NX3.out.symm, upd_at]) (by rw [upd_ne _ _ HXN.out.symm, upd_ne _ _ HRN.out.symm, upd_ne _ _ HLN.out.symm, upd_at]) (upd_at _ _ _)
      (fun g hg gd hgd => by
        have hgx : g ≠ x := fun e => SS.out.not_own HH.out (by rw [HK.out.1, ← e]; simp [hg])
        have hgl : g ≠ l := fun e => by rw [e, HV10.out.l0] at hgd; cases hgd
        have hgr : g ≠ r := fun e => by rw [e, HV10.out.r0] at hgd; cases hgd
        have hgn : g ≠ w10.heap.size + 1 + 1 := fun e => by rw [e, hnr0] at hgd; cases hgd
        rw [upd_ne _ _ hgx, upd_ne _ _ hgr, upd_ne _ _ hgl, upd_ne _ _ hgn]; exact HV10.out.gA g hg gd hgd)
      (fun g hg gd hgd => by
        have hgx : g ≠ x := fun e => SS.out.not_own HH.out (by rw [HK.out.1, ← e]; simp [hg])
        have hgl : g ≠ l := fun e => by rw [e, HV10.out.l0] at hgd; cases hgd
        have hgr : g ≠ r := fun e => by rw [e, HV10.out.r0] at hgd; cases hgd
        have hgn : g ≠ w10.heap.size + 1 + 1 := fun e => by rw [e, hnr0] at hgd; cases hgd
        rw [upd_ne _ _ hgx, upd_ne _ _ hgr, upd_ne _ _ hgl, upd_ne _ _ hgn]; exact HV10.out.gB g hg gd hgd)
      (fun j h1 h2 h3 h4 h5 h6 => by rw [upd_ne _ _ h2, upd_ne _ _ h4, upd_ne _ _ h3, upd_ne _ _ h1]; exact HV10.out.off j h3 h4 h5 h6)
    have T := T0.1
    have hN0 := HN.out
    have hN1 := HNM.out
    have hM0 := HM.out
    refine ⟨rfl, _, _, _, S13, T.2, T.1, ?_, ?_, fun c ac => T0.2 H.m c (by omega) (by unfold midOf; rw [List.length_take]; omega) ac⟩
    · intro j e' hj
      have hM := HM.out
      have hN := HN.out
      have hNM := HNM.out
      have hM3 := HM3.out
      by_cases j1 : j = x
      · subst j1; rw [upd_at] at hj; cases hj
      rw [upd_ne _ _ j1] at hj
      by_cases j2 : j = r
      · subst j2; rw [upd_at] at hj; injection hj with hj; subst hj
        refine ⟨?_, fun _ => ?_, ?_⟩ <;> simp only [List.length_drop] <;> omega
      rw [upd_ne _ _ j2] at hj
      by_cases j3 : j = l
      · subst j3; rw [upd_at] at hj; injection hj with hj; subst hj
        refine ⟨?_, fun _ => ?_, ?_⟩ <;> simp only [List.length_take] <;> omega
      rw [upd_ne _ _ j3] at hj
      by_cases j4 : j = w10.heap.size + 1 + 1
      · subst j4; rw [upd_at] at hj; injection hj with hj; subst hj
        refine ⟨?_, fun h => absurd rfl h, ?_⟩ <;> simp only [List.length_cons, List.length_nil] <;> omega
      rw [upd_ne _ _ j4] at hj
      rcases HV10.out.inv hKall.out hj with h | h | ⟨e0, h, he0⟩
      · exact absurd h j3
      · exact absurd h j2
      · have := HF.out j e0 h j1
        exact ⟨by rw [he0]; exact this.1, fun _ => by rw [he0]; exact this.2.1 j1, by rw [he0]; exact this.2.2⟩
    · exact ((HB10.out.trans B10.out).setCell (p := ⟨l, 0, none⟩) ge1.out _).setCell (p := ⟨r, 0, none⟩) ge2.out _ |>.setCell (p := ⟨H.tb, 0, none⟩) HS.out.hdB _
end Go.Proofs.Ytgakapigpiaoiaa.Bt
