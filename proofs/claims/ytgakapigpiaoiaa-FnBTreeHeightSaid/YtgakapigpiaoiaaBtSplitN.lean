import Derived.Test.YtgakapigpiaoiaaBtSplitR
namespace Go.Proofs.Ytgakapigpiaoiaa.Bt
open Go.RowKit Go.Proofs.Ytgakapigpiaoiaa
theorem insertIdx_mid {β : Type} (a b : List β) (u : β) : (a ++ b).insertIdx a.length u = a ++ u :: b := by
  induction a with
  | nil => simp
  | cons x a ih => simp [ih]
theorem ins_row (eL eR : List En) (e : En) : (enRow (eL ++ eR)).insertIdx eL.length (Value.pointer (some ⟨e.b, 0, none⟩)) = enRow (eL ++ e :: eR) := by
  rw [enRow_append, ← enRow_length eL, insertIdx_mid, enRow_append]; rfl
theorem set_mid {β : Type} (a b : List β) (x u : β) : (a ++ x :: b).set a.length u = a ++ u :: b := by
  induction a with
  | nil => rfl
  | cons y a ih => simp [ih]
theorem ins_row2 (kL kR : List Nat) (x l r : Nat) : ((ndRow (kL ++ x :: kR)).set kL.length (Value.pointer (some ⟨l, 0, none⟩))).insertIdx (kL.length + 1) (Value.pointer (some ⟨r, 0, none⟩)) = ndRow (kL ++ l :: r :: kR) := by
  rw [ndRow_append, show ndRow (x :: kR) = ndV x :: ndRow kR from rfl]
  have h1 := set_mid (ndRow kL) (ndRow kR) (ndV x) (Value.pointer (some ⟨l, 0, none⟩))
  rw [ndRow_length] at h1
  rw [h1, show ndRow kL ++ Value.pointer (some ⟨l, 0, none⟩) :: ndRow kR = (ndRow kL ++ [Value.pointer (some ⟨l, 0, none⟩)]) ++ ndRow kR by simp]
  have h2 := insertIdx_mid (ndRow kL ++ [Value.pointer (some ⟨l, 0, none⟩)]) (ndRow kR) (Value.pointer (some ⟨r, 0, none⟩))
  rw [show (ndRow kL ++ [Value.pointer (some ⟨l, 0, none⟩)]).length = kL.length + 1 by simp [ndRow_length]] at h2
  rw [h2, ndRow_append]
  simp [ndRow, ndV]
def SplitPost (w : World) (B : Nat) (H : Hd) (o : Ord) (σ : Store) (rt x : Nat) (e : Ending) (w' : World) : Prop := e = .returned (.tuple #[]) ∧ ∃ σ' α' rt', St w' B { H with root := some rt' } o σ' α' ∧ Shp σ' rt' ∧ nk σ' rt' = nk σ rt ∧ Fit σ' H.m rt' ∧ Below B w w' ∧ ∀ c, APath σ rt x c → abs σ' rt' = spl H.m c (abs σ x)
def SplitOk (n : Nat) : Prop := ∀ (w : World) (B : Nat) (H : Hd) (o : Ord) (σ : Store) (α : Nat → Arr) (x rt : Nat) (d : ND), St w B H o σ α → o.fine → (3 ≤ H.m ∧ H.m ≤ 64) → H.root = some rt → Shp σ rt → σ x = some d → (∀ r, σ rt = some r → r.lv ≤ d.lv + n) → FitX σ H.m rt x → (d.es.length : Int) ≤ H.m → (x ≠ rt → (H.m + 1) / 2 - 1 ≤ (d.es.length : Int)) → 1 ≤ d.es.length → Asc o (nk σ rt) →
  Calls Try.prog 71 #[.pointer (some ⟨H.tb, 0, none⟩), .pointer (some ⟨x, 0, none⟩)] w (SplitPost w B H o σ rt x)
set_option maxHeartbeats 8000000 in
set_option maxRecDepth 100000 in
theorem splitNonRoot_walk (lvn : Nat) (IH : SplitOk lvn) {w : World} {B x p rt : Nat} {H : Hd} {o : Ord} {σ : Store} {α : Nat → Arr} {d q : ND} (s : St w B H o σ α) (ho : o.fine) (hm : 3 ≤ H.m ∧ H.m ≤ 64) (hr : H.root = some rt) (S : Shp σ rt) (h : σ x = some d) (hdp : d.par = some p) (hq : σ p = some q) (hlv : ∀ r, σ rt = some r → r.lv ≤ d.lv + (lvn + 1)) (hn : (d.es.length : Int) = H.m) (hf : FitX σ H.m rt x) (hasc : Asc o (nk σ rt))
    {kL kR : List Nat} {eL eR : List En} (hks : q.ks = kL ++ x :: kR) (hqe : q.es = eL ++ eR) (hln : kL.length = eL.length) :
    Calls Try.prog 80 #[.pointer (some ⟨H.tb, 0, none⟩), .pointer (some ⟨x, 0, none⟩)] w (SplitPost w B H o σ rt x) := by
  obtain ⟨_, _, _, hh3⟩ := s.hcells
  have CM := Lib.hid (middle_walk s hm)
  obtain ⟨M, hM⟩ : ∃ M : Nat, (H.m - 1) / 2 = (M : Int) := ⟨((H.m - 1) / 2).toNat, by omega⟩
  have hM1 : 1 ≤ M := by omega
  have hM2 : M + 1 < d.es.length := by omega
  have hn6 : d.es.length ≤ 64 := by omega
  have HM := Lib.hid hM
  obtain ⟨A1, c, A2, c2, ha⟩ := St.arr α x
  obtain ⟨g, rfl⟩ := own_some' (s.own1' h ha) (by omega)
  have hcap := own_cap' (s.own1' h ha) (by omega)
  have SR1 := Lib.hid (own_src (s.own1' h ha) rfl 0 M c (ys := enRow (d.es.take M)) (enRow_take M) (by rw [enRow_length, List.length_take]; omega))
  have hc1 := (s.cells' h ha).2.1
  have HE := Lib.hid (fun e (he : e ∈ d.es) => s.en x d e h he)
  have hc0 := (s.cells' h ha).1
  rw [hdp] at hc0
  simp only [ptr, Option.map_some] at hc0
  obtain ⟨j, hj⟩ : ∃ j, kL.length = j := ⟨_, rfl⟩
  generalize hl : d.es.length = n at *
  have HN := Lib.hid hl
  have HS := Lib.hid s
  have HH := Lib.hid h
  have HA := Lib.hid ha
  have SS := Lib.hid S
  have hB := Lib.hid s.hB
  have HF := Lib.hid hf
  have HM3 := Lib.hid hm
  have HNM := Lib.hid hn
  have HO := Lib.hid ho
  have HR := Lib.hid hr
  have HDP := Lib.hid hdp
  have HQ := Lib.hid hq
  have HLV := Lib.hid hlv
  have HAS := Lib.hid hasc
  have HKS := Lib.hid hks
  have HQE := Lib.hid hqe
  have HLN := Lib.hid hln
  have HJ := Lib.hid hj
  have HIH := Lib.hid IH
  have hi1 : (M : Int) ≤ (n : Int) := by omega
  have hi2 : (0 : Int) ≤ (M : Int) := by omega
  have hi3 : (M : Int) ≤ (c : Int) := by omega
  have hi4 : (M : Int) + 1 ≤ (n : Int) := by omega
  have hi5 : (0 : Int) ≤ (M : Int) + 1 := by omega
  have hi6 : ¬ c = M + 1 := by omega
  have hi7 : (n : Int) ≤ 64 := by omega
  have hi8 : (M : Int) < (n : Int) := by omega
  have hw1 : IntKind.i64.wrap ((M : Int) + 1) = (M : Int) + 1 := IntWalk.i64_in _ (by omega)
  have hw2 : ((M : Int) + 1).toNat = M + 1 := by omega
  clear s h S hl hM hr ha hf hm hn ho hdp hq hlv hasc hks hqe hln hj IH
  go_enter Try.func80, Try.ntmps80
  go_wp2_with fail
  refine CM.out.mono ?_
  rintro e w1 ⟨rfl, rfl⟩
  rw [HM.out]
  go_wp2_with (at_builtin; refine Hid.out ?_)
  delta Hid
  refine wpList_appT Try.underlying58 en_info rfl (by omega) rfl _ _ rfl B (.slice none 0 0) 0 [] rfl (own_nil w B _) (some ⟨g, 0, none⟩) M c (enRow (d.es.take M)) rfl SR1.out (enRow_one _) (by omega) (by omega) hB.out ?_
  intro v1 w1 own1 gr1 ob1
  simp only [Nat.zero_add, List.nil_append] at own1
  obtain ⟨Al, cl, rfl, _, _⟩ := own_slice own1
  obtain rfl := own_fresh own1 (by omega) (by simpa [Value.ownBlock] using ob1)
  obtain ⟨s1, hl0⟩ := HS.out.newNode own1 gr1 (fun a ha => by injection ha with ha; subst ha; exact Nat.le_refl _) (by rw [List.length_take]; have := HN.out; omega) (fun e he => HE.out e (List.mem_of_mem_take he)) (some p) d.lv
  have b1 : Below B w (w1.alloc (.cells #[ptr (some p), .slice (some ⟨w.heap.size, 0, none⟩) M cl, .slice none 0 0] 61)) := ((grown_only (S := []) gr1 (fun k hk => by simp [Value.ownBlock] at hk)).alloc _).below (by simp) hB.out
  have nx1 : x ≠ w1.heap.size := fun e => by have := (HS.out.nd x d HH.out).lt; have := gr1.size; omega
  simp only [ptr, Option.map_some] at s1 b1
  have hx1 : upd σ w1.heap.size (some ⟨(some p), d.es.take M, [], d.lv⟩) x = some d := by rw [upd_ne _ _ nx1]; exact HH.out
  have ha1 : updA α w1.heap.size ⟨some ⟨w.heap.size, 0, none⟩, cl, none, 0⟩ x = ⟨some ⟨g, 0, none⟩, c, A2, c2⟩ := by rw [updA_ne _ _ nx1]; exact HA.out
  have hc1 := (s1.cells' hx1 ha1).2.1
  rw [HN.out] at hc1
  have SR2 := Lib.hid (own_src (s1.own1' hx1 ha1) rfl (M + 1) (n - (M + 1)) (c - (M + 1)) (ys := enRow (d.es.drop (M + 1))) (enRow_drop _) (by rw [enRow_length, List.length_drop]; have := HN.out; omega))
  have hl1 : upd σ w1.heap.size (some ⟨(some p), d.es.take M, [], d.lv⟩) w1.heap.size = some ⟨(some p), d.es.take M, [], d.lv⟩ := upd_at _ _ _
  have HL0 := Lib.hid hl0
  have HB1 := Lib.hid b1
  have HS1 := Lib.hid s1
  have HX1 := Lib.hid hx1
  have HA1 := Lib.hid ha1
  have HL1 := Lib.hid hl1
  have NX1 := Lib.hid nx1
  clear own1 gr1 ob1 hl0 b1 s1 hx1 ha1 hl1 nx1 CM SR1
  go_wp2_with (at_builtin; refine Hid.out ?_)
  delta Hid
  generalize w1.alloc (.cells #[.pointer (some ⟨p, 0, none⟩), .slice (some ⟨w.heap.size, 0, none⟩) M cl, .slice none 0 0] 61) = w2 at *
  generalize w1.heap.size = l at *
  refine wpList_appT Try.underlying58 en_info rfl (by omega) rfl _ _ rfl B (.slice none 0 0) 0 [] rfl (own_nil w2 B _) (some ⟨g, M + 1, none⟩) (n - (M + 1)) (c - (M + 1)) (enRow (d.es.drop (M + 1))) rfl SR2.out (enRow_one _) (by omega) (by omega) HS1.out.hB ?_
  intro v3 w3 own3 gr3 ob3
  simp only [Nat.zero_add, List.nil_append] at own3
  obtain ⟨Ar, cr, rfl, _, _⟩ := own_slice own3
  obtain rfl := own_fresh own3 (by omega) (by simpa [Value.ownBlock] using ob3)
  obtain ⟨s3, hr0⟩ := HS1.out.newNode own3 gr3 (fun a ha => by injection ha with ha; subst ha; exact Nat.le_refl _) (by rw [List.length_drop]; have := HN.out; omega) (fun e he => HS1.out.en x d e HX1.out (List.mem_of_mem_drop he)) (some p) d.lv
  have b3 : Below B w2 (w3.alloc (.cells #[ptr (some p), .slice (some ⟨w2.heap.size, 0, none⟩) (n - (M + 1)) cr, .slice none 0 0] 61)) := ((grown_only (S := []) gr3 (fun k hk => by simp [Value.ownBlock] at hk)).alloc _).below (by simp) HS1.out.hB
  have nx3 : x ≠ w3.heap.size := fun e => by have := (HS1.out.nd x d HX1.out).lt; have := gr3.size; omega
  have nl3 : l ≠ w3.heap.size := fun e => by have := (HS1.out.nd l _ HL1.out).lt; have := gr3.size; omega
  simp only [ptr, Option.map_some] at s3 b3
  have hx3 : upd (upd σ l (some ⟨(some p), d.es.take M, [], d.lv⟩)) w3.heap.size (some ⟨(some p), d.es.drop (M + 1), [], d.lv⟩) x = some d := by rw [upd_ne _ _ nx3]; exact HX1.out
  have ha3 : updA (updA α l ⟨some ⟨w.heap.size, 0, none⟩, cl, none, 0⟩) w3.heap.size ⟨some ⟨w2.heap.size, 0, none⟩, cr, none, 0⟩ x = ⟨some ⟨g, 0, none⟩, c, A2, c2⟩ := by rw [updA_ne _ _ nx3]; exact HA1.out
  have HV3 := Lib.hid (show Halves σ (upd (upd σ l (some ⟨(some p), d.es.take M, [], d.lv⟩)) w3.heap.size (some ⟨(some p), d.es.drop (M + 1), [], d.lv⟩)) l w3.heap.size (some p) d.lv (d.es.take M) (d.es.drop (M + 1)) [] [] from ⟨by rw [upd_ne _ _ nl3, upd_at], upd_at _ _ _, fun g hg => by simp at hg, fun g hg => by simp at hg, fun j h1 h2 _ _ => by rw [upd_ne _ _ h2, upd_ne _ _ h1], HL0.out, by rw [upd_ne _ _ nl3.symm] at hr0; exact hr0, nl3⟩)
  have ha3l : updA (updA α l ⟨some ⟨w.heap.size, 0, none⟩, cl, none, 0⟩) w3.heap.size ⟨some ⟨w2.heap.size, 0, none⟩, cr, none, 0⟩ l = ⟨some ⟨w.heap.size, 0, none⟩, cl, none, 0⟩ := by rw [updA_ne _ _ nl3, updA_at]
  have ha3r : updA (updA α l ⟨some ⟨w.heap.size, 0, none⟩, cl, none, 0⟩) w3.heap.size ⟨some ⟨w2.heap.size, 0, none⟩, cr, none, 0⟩ w3.heap.size = ⟨some ⟨w2.heap.size, 0, none⟩, cr, none, 0⟩ := updA_at _ _ _
  have HB3 := Lib.hid (HB1.out.trans (b3.mono (Nat.le_refl _)))
  have HS3 := Lib.hid s3
  have HX3 := Lib.hid hx3
  have HA3 := Lib.hid ha3
  have HA3l := Lib.hid ha3l
  have HA3r := Lib.hid ha3r
  have NX3 := Lib.hid nx3
  clear own3 gr3 ob3 hr0 b3 s3 hx3 ha3 ha3l ha3r nx3 nl3 SR2 HS1 HX1 HA1 HB1 HL1 hc1
  go_wp2_with fail
  generalize w3.alloc (.cells #[.pointer (some ⟨p, 0, none⟩), .slice (some ⟨w2.heap.size, 0, none⟩) (n - (M + 1)) cr, .slice none 0 0] 61) = w4 at *
  generalize w3.heap.size = r at *
  generalize upd (upd σ l (some ⟨(some p), d.es.take M, [], d.lv⟩)) r (some ⟨(some p), d.es.drop (M + 1), [], d.lv⟩) = σ3 at *
  generalize updA (updA α l ⟨some ⟨w.heap.size, 0, none⟩, cl, none, 0⟩) r ⟨some ⟨w2.heap.size, 0, none⟩, cr, none, 0⟩ = α3 at *
  generalize w.heap.size = gl at *
  generalize w2.heap.size = gr at *
  rcases Nat.eq_zero_or_pos d.lv with h0 | h0
  · have hk0 := SS.out.leaf x d HH.out h0
    refine (leafY HS3.out HX3.out hk0 _).mono ?_
    rintro e w10 ⟨rfl, rfl⟩
    generalize w4 = w10 at *
    obtain ⟨kA, kB, hkA, hkB⟩ : ∃ kA kB : List Nat, kA = [] ∧ kB = [] := ⟨[], [], rfl, rfl⟩
    have HK := Lib.hid (show d.ks = kA ++ kB ∧ Cut d.lv kA kB (d.es.take M) (d.es.drop (M + 1)) from ⟨by rw [hkA, hkB]; exact hk0, .inl ⟨h0, hkA, hkB⟩⟩)
    have HV10 := Lib.hid (show Halves σ σ3 l r (some p) d.lv (d.es.take M) (d.es.drop (M + 1)) kA kB from by rw [hkA, hkB]; exact HV3.out)
    have h0 := Lib.hid h0
    have HX10 := HX3
    have HS10 := HS3
    have HB10 := HB3
    have HA7x := HA3
    clear HV3 HX3 HS3 HB3 HA3 hk0 hkA hkB
    generalize σ3 = σ5 at *
    generalize α3 = α5 at *
    have hKall := Lib.hid (show ∀ g, g ∈ kA ∨ g ∈ kB → ∃ c, σ g = some c from fun g hg => by
      obtain ⟨cd, h1, _⟩ := SS.out.kid x d g HH.out (by rw [HK.out.1]; simpa using hg)
      exact ⟨cd, h1⟩)
    obtain ⟨e, he⟩ : ∃ e, d.es[M]? = some e := ⟨_, List.getElem?_eq_getElem (by have := HN.out; omega)⟩
    have HES := Lib.hid (getElem?_split he)
    have HEM := Lib.hid he
    have hc1 := (HS10.out.cells' HX10.out HA7x.out).2.1
    rw [HN.out] at hc1
    obtain ⟨g', hg1, hg2, _, hg4, _⟩ := HS10.out.ent HX10.out he
    rw [HA7x.out] at hg1
    injection hg1 with hg1
    injection hg1 with hg1
    subst hg1
    have HPX := Lib.hid (show p ≠ x from fun e => SS.out.not_own HQ.out (by rw [HKS.out, e]; simp))
    have pkid : ∀ g, g ∈ kA ∨ g ∈ kB → g ≠ p := fun g hg e => by
      obtain ⟨cd, h1, h2, h3⟩ := SS.out.kid x d g HH.out (by rw [HK.out.1]; simpa using hg)
      have h4 := SS.out.kidOf HQ.out (by rw [HKS.out]; simp) HH.out
      rw [e, HQ.out] at h1
      injection h1 with h1
      subst h1
      omega
    have HPK := Lib.hid pkid
    have hq5 : σ5 p = some q := by
      rw [HV10.out.off p (fun e => by have := HV10.out.l0; rw [← e, HQ.out] at this; cases this) (fun e => by have := HV10.out.r0; rw [← e, HQ.out] at this; cases this) (fun hm => pkid p (.inl hm) rfl) (fun hm => pkid p (.inr hm) rfl)]
      exact HQ.out
    have HQ5 := Lib.hid hq5
    have hfp := HF.out p q HQ.out HPX.out
    have hqn : q.es.length ≤ 64 := by have := hfp.1; have := HM3.out; omega
    have hsit := Sits.rank (sits_of SS.out HAS.out HH.out (u := e.kv) (by rw [nk_row SS.out HH.out]; exact mem_rowKvs (List.mem_of_getElem? he) (SS.out.fits HH.out))) HH.out HDP.out HQ.out HKS.out HQE.out HLN.out
    have cs := search_walk HS10.out HO.out hq5 (SS.out.ascE HQ.out HAS.out) (by omega) e.k
    have hsit' : rank o (o.rk e.k) q.es = j := hsit.trans HJ.out
    rw [hsit'] at cs
    have CS := Lib.hid cs
    have HFP := Lib.hid hfp
    clear cs hsit hsit' hq5 pkid he hfp
    go_wp2_with fail
    refine CS.out.mono ?_
    rintro e0 w11 ⟨rfl, mm, rfl⟩
    have HS11 := Lib.hid (HS10.out.drewN mm)
    have HB11 := Lib.hid (Below.drewN' HB10.out mm)
    have HEK11 := Lib.hid (HS11.out.en x d e HX10.out (List.mem_of_getElem? HEM.out))
    clear CS hc1 hg2 hg4
    generalize w10.drewN mm = w11 at *
    obtain ⟨P1, d1, P2, d2, hpa⟩ := St.arr α5 p
    have HPA := Lib.hid hpa
    have NR0 : NdRaw w11 B p q.par (α5 p) q.es.length q.ks.length (enRow q.es) (ndRow q.ks) := HS11.out.nd p q HQ5.out
    rw [hpa] at NR0
    generalize hxs : enRow q.es = XS at *
    generalize hys : ndRow q.ks = YS at *
    have HXS := Lib.hid hxs
    have HYS := Lib.hid hys
    generalize hne : q.es.length = ne at *
    generalize hnk : q.ks.length = nk2 at *
    have HNE := Lib.hid hne
    have HNK := Lib.hid hnk
    have hnk3 : nk2 = ne + 1 := by rw [← hnk, ← hne]; exact SS.out.inner p q HQ.out (by have := (SS.out.kidOf HQ.out (by rw [HKS.out]; simp) HH.out).2; omega)
    have hjne : j ≤ ne := by rw [← hne, HQE.out, List.length_append, ← HLN.out, HJ.out]; omega
    have NRa := Lib.hid NR0
    obtain ⟨gk, rfl⟩ := own_some' NR0.own2 (by omega)
    have ONEa := Lib.hid (show ∀ u ∈ XS, u.oneCell' = true by rw [← hxs]; exact enRow_one _)
    have ONEy := Lib.hid (show ∀ u ∈ YS, u.oneCell' = true by rw [← hys]; exact ndRow_one _)
    clear hxs hys hne hnk hpa NR0
    have ja1 : (0 : Int) ≤ (j : Int) := by omega
    have ja2 : (j : Int) ≤ (ne : Int) := by omega
    have ja3 : (j : Int) ≤ (ne : Int) + 1 := by omega
    have ja4 : (j : Int) + 1 ≤ (ne : Int) + 1 := by omega
    have ja5 : (0 : Int) ≤ (j : Int) + 1 := by omega
    have ja6 : (ne : Int) ≤ 64 := by omega
    have ja7 : (j : Int) < (ne : Int) + 1 := by omega
    have ja8 : IntKind.i64.wrap ((j : Int) + 1) = (j : Int) + 1 := IntWalk.i64_in _ (by omega)
    have ja9 : ((j : Int) + 1).toNat = j + 1 := by omega
    have jb1 : (0 : Int) ≤ (j : Int) + 2 := by omega
    have jb2 : (j : Int) + 2 ≤ (nk2 : Int) + 1 := by omega
    have jb3 : (j : Int) + 1 ≤ (nk2 : Int) := by omega
    have jb4 : (j : Int) + 1 ≤ (nk2 : Int) + 1 := by omega
    have jb5 : (j : Int) + 1 < (nk2 : Int) + 1 := by omega
    have jb6 : IntKind.i64.wrap ((j : Int) + 2) = (j : Int) + 2 := IntWalk.i64_in _ (by omega)
    have jb7 : ((j : Int) + 2).toNat = j + 2 := by omega
    have jb8 : (j : Int) < (nk2 : Int) := by omega
    have jb9 : (nk2 : Int) ≤ 65 := by omega
    clear hnk3
    have hcPa := NRa.out.blk.cell 1
    have hfPa := NRa.out.blk.frozen 1
    have hBBa := Lib.hid (show B ≤ (w11).heap.size from Nat.le_trans NRa.out.ge (Nat.le_of_lt NRa.out.lt))
    go_wp2_with (at_builtin; refine Hid.out ?_)
    delta Hid
    refine wpList_appT Try.underlying58 en_info rfl (by omega) rfl (.tmp 95) (.tmp 96) rfl B (.slice P1 ne d1) ne XS rfl (NRa.out.own1.alloc _) (some ⟨(w11).heap.size, 0, none⟩) 1 1 [.pointer none] rfl (src_blk (Blk.new _ _ _) rfl) (fun u hu => by simp only [List.mem_singleton] at hu; subst hu; rfl) (by omega) (by omega) (by have := hBBa.out; simp; omega) ?_
    intro v1a w1a own1a gr1a ob1a
    obtain ⟨A3a, c3a, rfl, _, _⟩ := own_slice own1a
    obtain ⟨g3a, rfl⟩ := own_some' own1a (by omega)
    have BP1a := Lib.hid ((NRa.out.blk.alloc (.cells #[.pointer none] 62)).same (gr1a.block p (by have := NRa.out.lt; simp; omega) (fun e => own_neB NRa.out.own1 NRa.out.blk (by decide) e.symm)))
    have OO1a := Lib.hid (own_only (S := (Value.slice P1 ne d1).ownBlock.toList) (NRa.out.own2.alloc (.cells #[.pointer none] 62)) (grown_only gr1a (fun k hk => by rw [hk]; simp)) (fun x hx hm => by
      obtain ⟨cur, hcx, _⟩ := own_blk NRa.out.own2 hx
      have hm' : (Value.slice P1 ne d1).ownBlock = some x.block := by simpa using hm
      obtain ⟨y, hy, hyb⟩ := ownBlock_slice hm'
      obtain ⟨cur2, hcy, _⟩ := own_blk NRa.out.own1 hy
      exact Blk.ne_ hcx hcy (by decide) hyb.symm))
    have ON1a := Lib.hid (show Only (ids p ⟨P1, d1, some ⟨gk, 0, none⟩, d2⟩) (w11) w1a from ((Only.refl _ _).alloc (.cells #[.pointer none] 62)).trans (grown_only gr1a (fun k hk => mem_ids.2 (.inr (.inl (ownBlock_slice hk))))))
    have FRa := Lib.hid (show Fresh (w11) ⟨P1, d1, some ⟨gk, 0, none⟩, d2⟩ ⟨some ⟨g3a, 0, none⟩, c3a, some ⟨gk, 0, none⟩, d2⟩ from ⟨fun x hx => by
      injection hx with hx
      subst hx
      rcases ob1a with e | e
      · exact .inl (ownBlock_slice e.symm)
      · right
        simp only [Value.ownBlock, Option.some.injEq] at e
        simp at e
        simp only
        omega, fun x hx => .inl ⟨x, hx, rfl⟩⟩)
    have hp1a := BP1a.out.cell 1
    have hp1fa := BP1a.out.frozen 1
    have OW1a := Lib.hid own1a
    clear own1a gr1a ob1a hcPa hfPa
    have BP2a := Lib.hid (BP1a.out.set_ 1 (.slice (some ⟨g3a, 0, none⟩) (ne + 1) c3a))
    have ON2a := Lib.hid (ON1a.out.setCell (p := ⟨p, 1, none⟩) (.inl (mem_ids.2 (.inl rfl))) (.slice (some ⟨g3a, 0, none⟩) (ne + 1) c3a))
    have OW2a := Lib.hid (own_only OW1a.out (only_cell w1a p 1 (.slice (some ⟨g3a, 0, none⟩) (ne + 1) c3a)) (fun x hx hm => by
      simp only [List.mem_singleton] at hm
      obtain ⟨cur, hcx, _⟩ := own_blk OW1a.out hx
      exact Blk.ne_ hcx BP1a.out (by decide) hm))
    have OO2a := Lib.hid (own_only OO1a.out (only_cell w1a p 1 (.slice (some ⟨g3a, 0, none⟩) (ne + 1) c3a)) (fun x hx hm => by
      simp only [List.mem_singleton] at hm
      obtain ⟨cur, hcx, _⟩ := own_blk OO1a.out hx
      exact Blk.ne_ hcx BP1a.out (by decide) hm))
    obtain ⟨La, hLa, hBga, hnca, hcma, hLca, hLta⟩ := own_list OW2a.out rfl
    have HLa := Lib.hid hLa
    have HLCa := Lib.hid hLca
    have HLTa := Lib.hid hLta
    have HCMa := Lib.hid hcma
    have XLa := Lib.hid NRa.out.own1.1
    have LTa := Lib.hid (show La.take ne = XS by
      have e := HLTa.out
      have e2 : La.take ne = (La.take (ne + 1)).take ne := by rw [List.take_take]; congr 1; omega
      rw [e2, e]
      exact List.take_left' (by have := XLa.out; omega))
    clear hLa hLca hLta hcma
    have hgpa : g3a ≠ p := Blk.ne_ (show Blk _ g3a 62 La.toArray from HLa.out) BP2a.out (by decide)
    have hnc1a : (ne : Int) + 1 ≤ (c3a : Int) := by omega
    have hnja : ¬ c3a = j := by omega
    obtain ⟨Da, hDa⟩ : ∃ D : Option Addr, (if c3a = j + 1 then some ⟨g3a, 0, none⟩ else some ⟨g3a, j + 1, none⟩) = D := ⟨_, rfl⟩
    have HDa := Lib.hid hDa
    have ELa := Lib.hid (show ((La.take ne).drop j).length = Nat.min (ne + 1 - j) (ne - j) by have := HLCa.out; simp only [List.length_drop, List.length_take]; show _ = min _ _; omega)
    have EFa := Lib.hid (show j + 1 + ((La.take ne).drop j).length ≤ La.length by have := HLCa.out; simp only [List.length_drop, List.length_take]; omega)
    have E1a := Lib.hid (show ∀ v ∈ (La.take ne).drop j, v.oneCell' = true from fun v hv => by rw [LTa.out] at hv; exact ONEa.out v (List.mem_of_mem_drop hv))
    have c2a := (BP2a.out.cell 1).trans (setIf_get _ _ _ (by simp))
    go_wp2_with fail
    have ESa := Lib.hid (show ∀ q v, ((La.take ne).drop j)[q]? = some v → (w1a.setCell ⟨p, 1, none⟩ (.slice (some ⟨g3a, 0, none⟩) (ne + 1) c3a)).cell? ((⟨g3a, j, none⟩ : Addr).add q) = some v from fun q v hv => by
      rw [List.getElem?_drop, List.getElem?_take] at hv
      split at hv
      · have e1 : ((⟨g3a, j, none⟩ : Addr).add q) = ⟨g3a, j + q, none⟩ := by unfold Addr.add; split <;> simp_all
        rw [e1, Blk.cell (show Blk _ g3a _ _ from HLa.out)]
        simpa using hv
      · cases hv)
    clear hp1a hp1fa
    generalize w1a.setCell ⟨p, 1, none⟩ (.slice (some ⟨g3a, 0, none⟩) (ne + 1) c3a) = w2a at *
    have K := Lib.hid c2a
    go_region_held3 (fun w' => w'.cell? ⟨p, 1, none⟩ = some (.slice (some ⟨g3a, 0, none⟩) (ne + 1) c3a)) (exact K.out)
      (first
        | (refine step_copyO rfl (.tmp 106) (.tmp 112) 58 58 rfl 62 Try.underlying58 ptr_info1 Da (some ⟨g3a, j, none⟩) _ _ _ _ rfl rfl g3a (j + 1) La 62 HLa.out ((La.take ne).drop j) (ELa.out) (fun h0 => ⟨by rw [← HDa.out, if_neg (by have := ELa.out; have e : Nat.min (ne + 1 - j) (ne - j) = min (ne + 1 - j) (ne - j) := rfl; omega)], _, rfl, ESa.out⟩) (EFa.out) (E1a.out) ?_
           intro w3a hg3a on3a
           have BP3a := Lib.hid ((Blk.drew BP2a.out).only on3a.out (by simpa using hgpa.symm))
           have K := Lib.hid ((BP3a.out.cell 1).trans (setIf_get _ _ _ (by simp)))))
    obtain ⟨L4a, hL4a⟩ : ∃ L4, L4 = splice La (j + 1) ((La.take ne).drop j) := ⟨_, rfl⟩
    have LEa := Lib.hid (show (L4a.set j (Value.pointer (some ⟨e.b, 0, none⟩))).take (ne + 1) = (XS).insertIdx j (Value.pointer (some ⟨e.b, 0, none⟩)) by rw [hL4a, ← LTa.out]; exact splice_insert La ne j _ (by omega) (by have := HLCa.out; omega))
    have LC4a := Lib.hid (show L4a.length = c3a by rw [hL4a, length_splice _ _ _ EFa.out]; exact HLCa.out)
    have GB3a := Lib.hid (show Blk w3a g3a 62 L4a.toArray from by rw [hL4a]; exact hg3a.out)
    have OG3a := Lib.hid (show Only [g3a] w2a w3a from (Only.refl [g3a] w2a).drew.trans on3a.out)
    have ON3a := Lib.hid (show Only (ids p ⟨P1, d1, some ⟨gk, 0, none⟩, d2⟩) (w11) w3a from ON2a.out.trans' OG3a.out (fun b hb hm => by
      simp only [List.mem_singleton] at hm
      subst hm
      rcases FRa.out.1 _ rfl with h | h
      · exact mem_ids.2 (.inr (.inl h))
      · simp only at h; omega))
    clear hL4a hg3a on3a EFa ESa ELa E1a hDa HDa
    have nx3 := Lib.hid ((HS11.out.nd x d HX10.out).only ON3a.out (by rw [← HPA.out]; exact HS11.out.apart HQ5.out HX10.out HPX.out))
    have hx3 := nx3.out.blk.cell 1
    rw [HA7x.out] at hx3
    simp only [HN.out] at hx3
    obtain ⟨LX, hLX, _, _, _, _, hLXt⟩ := own_list nx3.out.own1 (by rw [HA7x.out])
    have hxg : w3a.cell? ⟨g, M, none⟩ = some (.pointer (some ⟨e.b, 0, none⟩)) := by
      rw [Blk.cell (show Blk w3a g _ _ from hLX)]
      have h1 := enRow_get HEM.out
      rw [← hLXt, List.getElem?_take_of_lt (by have := HN.out; omega)] at h1
      simpa using h1
    have hp3 : w3a.cell? ⟨p, 1, none⟩ = some (.slice (some ⟨g3a, 0, none⟩) (ne + 1) c3a) := (BP3a.out.cell 1).trans (setIf_get _ _ _ (by simp))
    clear hLX hLXt
    go_wp2_with fail
    go_still_tail 13, (by kernel_rfl)
    change wpList _ _ _ _ _ w3a.drew
    have GB3a := Lib.hid (Blk.drew GB3a.out)
    have BP3a := Lib.hid (Blk.drew BP3a.out)
    have OG3a := Lib.hid OG3a.out.drew
    clear hx3 hxg hp3 nx3
    generalize w3a.drew = w3a at *
    obtain ⟨v4a, hv4a⟩ : ∃ v, w3a.cell? ⟨g3a, j, none⟩ = some v := ⟨L4a.toArray[j]'(by have := LC4a.out; simp; omega), by rw [GB3a.out.cell]; exact Array.getElem?_eq_getElem _⟩
    have hf4a := GB3a.out.frozen j
    have c3ca : w3a.cell? ⟨p, 1, none⟩ = some (.slice (some ⟨g3a, 0, none⟩) (ne + 1) c3a) := (BP3a.out.cell 1).trans (setIf_get _ _ _ (by simp))
    have OO4a := Lib.hid (own_only (own_only OO2a.out OG3a.out (fun x hx hm => by
      simp only [List.mem_singleton] at hm
      obtain ⟨cur, hcx, _⟩ := own_blk OO2a.out hx
      exact Blk.ne_ hcx (show Blk w2a g3a 62 La.toArray from HLa.out) (by decide) hm)) (only_cell w3a g3a j (Value.pointer (some ⟨e.b, 0, none⟩))) (fun x hx hm => by
      simp only [List.mem_singleton] at hm
      obtain ⟨cur, hcx, _⟩ := own_blk OO2a.out hx
      exact Blk.ne_ hcx (show Blk w2a g3a 62 La.toArray from HLa.out) (by decide) hm))
    have OE4a := Lib.hid (list_own (L := L4a.set j (Value.pointer (some ⟨e.b, 0, none⟩))) (by have := GB3a.out.set_ j (Value.pointer (some ⟨e.b, 0, none⟩)); unfold Blk at this; simpa using this) hBga (by omega) HCMa.out (by simpa using LC4a.out) LEa.out)
    have NR5a := Lib.hid (show NdRaw (w3a.setCell ⟨g3a, j, none⟩ (Value.pointer (some ⟨e.b, 0, none⟩))) B p q.par ⟨some ⟨g3a, 0, none⟩, c3a, some ⟨gk, 0, none⟩, d2⟩ (ne + 1) nk2 ((XS).insertIdx j (Value.pointer (some ⟨e.b, 0, none⟩))) YS from ⟨by simpa using BP3a.out.far (p := ⟨g3a, j, none⟩) (fun e => hgpa e.symm) (Value.pointer (some ⟨e.b, 0, none⟩)), OE4a.out, OO4a.out, NRa.out.ge⟩)
    have ON5a := Lib.hid (show Only (ids p ⟨P1, d1, some ⟨gk, 0, none⟩, d2⟩) (w11) (w3a.setCell ⟨g3a, j, none⟩ (Value.pointer (some ⟨e.b, 0, none⟩))) from ON2a.out.trans' (OG3a.out.setCell (p := ⟨g3a, j, none⟩) (.inl (by simp)) (Value.pointer (some ⟨e.b, 0, none⟩))) (fun b hb hm => by
      simp only [List.mem_singleton] at hm
      subst hm
      rcases FRa.out.1 _ rfl with h | h
      · exact mem_ids.2 (.inr (.inl h))
      · simp only at h; omega))
    clear OO4a OE4a OO2a OG3a BP2a ON2a HLa LEa LC4a HLCa HLTa HCMa LTa XLa ON1a OO1a BP1a OW1a OW2a
    have hpk : (w3a.setCell ⟨g3a, j, none⟩ (Value.pointer (some ⟨e.b, 0, none⟩))).cell? ⟨p, 2, none⟩ = some (.slice (some ⟨gk, 0, none⟩) nk2 d2) := NR5a.out.blk.cell 2
    have hgk : (w3a.setCell ⟨g3a, j, none⟩ (Value.pointer (some ⟨e.b, 0, none⟩))).cell? ⟨gk, j, none⟩ = some (YS[j]'(by have := NR5a.out.own2.1; omega)) := by rw [NR5a.out.own2.cellAt j (by omega)]; exact List.getElem?_eq_getElem _
    have hgf : (w3a.setCell ⟨g3a, j, none⟩ (Value.pointer (some ⟨e.b, 0, none⟩))).frozen? ⟨gk, j, none⟩ = false := NR5a.out.own2.frozenAt j
    obtain ⟨curk, GKB, _⟩ := own_blk NR5a.out.own2 rfl
    have hgkp : gk ≠ p := Blk.ne_ GKB NR5a.out.blk (by decide)
    have NRb := Lib.hid (show NdRaw ((w3a.setCell ⟨g3a, j, none⟩ (Value.pointer (some ⟨e.b, 0, none⟩))).setCell ⟨gk, j, none⟩ (Value.pointer (some ⟨l, 0, none⟩))) B p q.par ⟨some ⟨g3a, 0, none⟩, c3a, some ⟨gk, 0, none⟩, d2⟩ (ne + 1) nk2 (XS.insertIdx j (Value.pointer (some ⟨e.b, 0, none⟩))) (YS.set j (Value.pointer (some ⟨l, 0, none⟩))) from ⟨NR5a.out.blk.far (p := ⟨gk, j, none⟩) (fun e => hgkp e.symm) _, own_only NR5a.out.own1 (only_cell _ gk j _) (fun x hx hm => by
      simp only [List.mem_singleton] at hm
      obtain ⟨cur, hcx, _⟩ := own_blk NR5a.out.own1 hx
      exact Blk.ne_ hcx GKB (by decide) hm), (NR5a.out.own2.stored j (Value.pointer (some ⟨l, 0, none⟩))).1, NR5a.out.ge⟩)
    have ON6 := Lib.hid (show Only (ids p ⟨P1, d1, some ⟨gk, 0, none⟩, d2⟩) w11 ((w3a.setCell ⟨g3a, j, none⟩ (Value.pointer (some ⟨e.b, 0, none⟩))).setCell ⟨gk, j, none⟩ (Value.pointer (some ⟨l, 0, none⟩))) from ON5a.out.trans' (only_cell (w3a.setCell ⟨g3a, j, none⟩ (Value.pointer (some ⟨e.b, 0, none⟩))) gk j (Value.pointer (some ⟨l, 0, none⟩))) (fun b hb hm => by
      simp only [List.mem_singleton] at hm
      subst hm
      exact mem_ids.2 (.inr (.inr ⟨_, rfl, rfl⟩))))
    have ONEb := Lib.hid (show ∀ u ∈ YS.set j (Value.pointer (some ⟨l, 0, none⟩)), u.oneCell' = true from fun u hu => by
      rcases List.mem_or_eq_of_mem_set hu with h | h
      · exact ONEy.out u h
      · subst h; rfl)
    clear GKB hgkp
    have hcPb := NRb.out.blk.cell 2
    have hfPb := NRb.out.blk.frozen 2
    have hBBb := Lib.hid (show B ≤ (((w3a.setCell ⟨g3a, j, none⟩ (Value.pointer (some ⟨e.b, 0, none⟩))).setCell ⟨gk, j, none⟩ (Value.pointer (some ⟨l, 0, none⟩)))).heap.size from Nat.le_trans NRb.out.ge (Nat.le_of_lt NRb.out.lt))
    go_wp2_with (at_builtin; refine Hid.out ?_)
    delta Hid
    have hz6 : w3a.heap.size = ((w3a.setCell ⟨g3a, j, none⟩ (Value.pointer (some ⟨e.b, 0, none⟩))).setCell ⟨gk, j, none⟩ (Value.pointer (some ⟨l, 0, none⟩))).heap.size := by simp [World.setCell]
    generalize ((w3a.setCell ⟨g3a, j, none⟩ (Value.pointer (some ⟨e.b, 0, none⟩))).setCell ⟨gk, j, none⟩ (Value.pointer (some ⟨l, 0, none⟩))) = w6 at *
    rw [hz6]
    clear hz6
    clear GB3a BP3a hv4a hf4a c3ca hpk hgk hgf
    refine wpList_appT Try.underlying59 nd_info rfl (by omega) rfl (.tmp 138) (.tmp 139) rfl B (.slice (some ⟨gk, 0, none⟩) nk2 d2) nk2 (YS.set j (Value.pointer (some ⟨l, 0, none⟩))) rfl (NRb.out.own2.alloc _) (some ⟨(w6).heap.size, 0, none⟩) 1 1 [.pointer none] rfl (src_blk (Blk.new _ _ _) rfl) (fun u hu => by simp only [List.mem_singleton] at hu; subst hu; rfl) (by omega) (by omega) (by have := hBBb.out; simp; omega) ?_
    intro v1b w1b own1b gr1b ob1b
    obtain ⟨A3b, c3b, rfl, _, _⟩ := own_slice own1b
    obtain ⟨g3b, rfl⟩ := own_some' own1b (by omega)
    have BP1b := Lib.hid ((NRb.out.blk.alloc (.cells #[.pointer none] 45)).same (gr1b.block p (by have := NRb.out.lt; simp; omega) (fun e => own_neB NRb.out.own2 NRb.out.blk (by decide) e.symm)))
    have OO1b := Lib.hid (own_only (S := (Value.slice (some ⟨gk, 0, none⟩) nk2 d2).ownBlock.toList) (NRb.out.own1.alloc (.cells #[.pointer none] 45)) (grown_only gr1b (fun k hk => by rw [hk]; simp)) (fun x hx hm => by
      obtain ⟨cur, hcx, _⟩ := own_blk NRb.out.own1 hx
      have hm' : (Value.slice (some ⟨gk, 0, none⟩) nk2 d2).ownBlock = some x.block := by simpa using hm
      obtain ⟨y, hy, hyb⟩ := ownBlock_slice hm'
      obtain ⟨cur2, hcy, _⟩ := own_blk NRb.out.own2 hy
      exact Blk.ne_ hcx hcy (by decide) hyb.symm))
    have ON1b := Lib.hid (show Only (ids p ⟨some ⟨g3a, 0, none⟩, c3a, some ⟨gk, 0, none⟩, d2⟩) (w6) w1b from ((Only.refl _ _).alloc (.cells #[.pointer none] 45)).trans (grown_only gr1b (fun k hk => mem_ids.2 (.inr (.inr (ownBlock_slice hk))))))
    have FRb := Lib.hid (show Fresh (w6) ⟨some ⟨g3a, 0, none⟩, c3a, some ⟨gk, 0, none⟩, d2⟩ ⟨some ⟨g3a, 0, none⟩, c3a, some ⟨g3b, 0, none⟩, c3b⟩ from ⟨fun x hx => .inl ⟨x, hx, rfl⟩, fun x hx => by
      injection hx with hx
      subst hx
      rcases ob1b with e | e
      · exact .inl (ownBlock_slice e.symm)
      · right
        simp only [Value.ownBlock, Option.some.injEq] at e
        simp at e
        simp only
        omega⟩)
    have hp1b := BP1b.out.cell 2
    have hp1fb := BP1b.out.frozen 2
    have OW1b := Lib.hid own1b
    clear own1b gr1b ob1b hcPb hfPb
    have BP2b := Lib.hid (BP1b.out.set_ 2 (.slice (some ⟨g3b, 0, none⟩) (nk2 + 1) c3b))
    have ON2b := Lib.hid (ON1b.out.setCell (p := ⟨p, 2, none⟩) (.inl (mem_ids.2 (.inl rfl))) (.slice (some ⟨g3b, 0, none⟩) (nk2 + 1) c3b))
    have OW2b := Lib.hid (own_only OW1b.out (only_cell w1b p 2 (.slice (some ⟨g3b, 0, none⟩) (nk2 + 1) c3b)) (fun x hx hm => by
      simp only [List.mem_singleton] at hm
      obtain ⟨cur, hcx, _⟩ := own_blk OW1b.out hx
      exact Blk.ne_ hcx BP1b.out (by decide) hm))
    have OO2b := Lib.hid (own_only OO1b.out (only_cell w1b p 2 (.slice (some ⟨g3b, 0, none⟩) (nk2 + 1) c3b)) (fun x hx hm => by
      simp only [List.mem_singleton] at hm
      obtain ⟨cur, hcx, _⟩ := own_blk OO1b.out hx
      exact Blk.ne_ hcx BP1b.out (by decide) hm))
    obtain ⟨Lb, hLb, hBgb, hncb, hcmb, hLcb, hLtb⟩ := own_list OW2b.out rfl
    have HLb := Lib.hid hLb
    have HLCb := Lib.hid hLcb
    have HLTb := Lib.hid hLtb
    have HCMb := Lib.hid hcmb
    have XLb := Lib.hid NRb.out.own2.1
    have LTb := Lib.hid (show Lb.take nk2 = (YS.set j (Value.pointer (some ⟨l, 0, none⟩))) by
      have e := HLTb.out
      have e2 : Lb.take nk2 = (Lb.take (nk2 + 1)).take nk2 := by rw [List.take_take]; congr 1; omega
      rw [e2, e]
      exact List.take_left' (by have := XLb.out; omega))
    clear hLb hLcb hLtb hcmb
    have hgpb : g3b ≠ p := Blk.ne_ (show Blk _ g3b 45 Lb.toArray from HLb.out) BP2b.out (by decide)
    have hnc1b : (nk2 : Int) + 1 ≤ (c3b : Int) := by omega
    have hnjb : ¬ c3b = (j + 1) := by omega
    obtain ⟨Db, hDb⟩ : ∃ D : Option Addr, (if c3b = j + 2 then some ⟨g3b, 0, none⟩ else some ⟨g3b, j + 2, none⟩) = D := ⟨_, rfl⟩
    have HDb := Lib.hid hDb
    have ELb := Lib.hid (show ((Lb.take nk2).drop (j + 1)).length = Nat.min (nk2 - j) (nk2 - (j + 1)) by have := HLCb.out; simp only [List.length_drop, List.length_take]; show _ = min _ _; omega)
    have EFb := Lib.hid (show j + 2 + ((Lb.take nk2).drop (j + 1)).length ≤ Lb.length by have := HLCb.out; simp only [List.length_drop, List.length_take]; omega)
    have E1b := Lib.hid (show ∀ v ∈ (Lb.take nk2).drop (j + 1), v.oneCell' = true from fun v hv => by rw [LTb.out] at hv; exact ONEb.out v (List.mem_of_mem_drop hv))
    have c2b := (BP2b.out.cell 2).trans (setIf_get _ _ _ (by simp))
    go_wp2_with fail
    have ESb := Lib.hid (show ∀ q v, ((Lb.take nk2).drop (j + 1))[q]? = some v → (w1b.setCell ⟨p, 2, none⟩ (.slice (some ⟨g3b, 0, none⟩) (nk2 + 1) c3b)).cell? ((⟨g3b, (j + 1), none⟩ : Addr).add q) = some v from fun q v hv => by
      rw [List.getElem?_drop, List.getElem?_take] at hv
      split at hv
      · have e1 : ((⟨g3b, (j + 1), none⟩ : Addr).add q) = ⟨g3b, (j + 1) + q, none⟩ := by unfold Addr.add; split <;> simp_all
        rw [e1, Blk.cell (show Blk _ g3b _ _ from HLb.out)]
        simpa using hv
      · cases hv)
    clear hp1b hp1fb
    generalize w1b.setCell ⟨p, 2, none⟩ (.slice (some ⟨g3b, 0, none⟩) (nk2 + 1) c3b) = w2b at *
    have K := Lib.hid c2b
    go_region_held3 (fun w' => w'.cell? ⟨p, 2, none⟩ = some (.slice (some ⟨g3b, 0, none⟩) (nk2 + 1) c3b)) (exact K.out)
      (first
        | (refine step_copyO rfl (.tmp 149) (.tmp 156) 59 59 rfl 45 Try.underlying59 ptr_info2 Db (some ⟨g3b, (j + 1), none⟩) _ _ _ _ rfl rfl g3b (j + 2) Lb 45 HLb.out ((Lb.take nk2).drop (j + 1)) (ELb.out) (fun h0 => ⟨by rw [← HDb.out, if_neg (by have := ELb.out; have e : Nat.min (nk2 - j) (nk2 - (j + 1)) = min (nk2 - j) (nk2 - (j + 1)) := rfl; omega)], _, rfl, ESb.out⟩) (EFb.out) (E1b.out) ?_
           intro w3b hg3b on3b
           have BP3b := Lib.hid ((Blk.drew BP2b.out).only on3b.out (by simpa using hgpb.symm))
           have K := Lib.hid ((BP3b.out.cell 2).trans (setIf_get _ _ _ (by simp)))))
    obtain ⟨L4b, hL4b⟩ : ∃ L4, L4 = splice Lb (j + 2) ((Lb.take nk2).drop (j + 1)) := ⟨_, rfl⟩
    have LEb := Lib.hid (show (L4b.set (j + 1) (Value.pointer (some ⟨r, 0, none⟩))).take (nk2 + 1) = ((YS.set j (Value.pointer (some ⟨l, 0, none⟩)))).insertIdx (j + 1) (Value.pointer (some ⟨r, 0, none⟩)) by rw [hL4b, ← LTb.out]; exact splice_insert Lb nk2 (j + 1) _ (by omega) (by have := HLCb.out; omega))
    have LC4b := Lib.hid (show L4b.length = c3b by rw [hL4b, length_splice _ _ _ EFb.out]; exact HLCb.out)
    have GB3b := Lib.hid (show Blk w3b g3b 45 L4b.toArray from by rw [hL4b]; exact hg3b.out)
    have OG3b := Lib.hid (show Only [g3b] w2b w3b from (Only.refl [g3b] w2b).drew.trans on3b.out)
    have ON3b := Lib.hid (show Only (ids p ⟨some ⟨g3a, 0, none⟩, c3a, some ⟨gk, 0, none⟩, d2⟩) (w6) w3b from ON2b.out.trans' OG3b.out (fun b hb hm => by
      simp only [List.mem_singleton] at hm
      subst hm
      rcases FRb.out.2 _ rfl with h | h
      · exact mem_ids.2 (.inr (.inr h))
      · simp only at h; omega))
    clear hL4b hg3b on3b EFb ESb ELb E1b hDb HDb
    obtain ⟨v4b, hv4b⟩ : ∃ v, w3b.cell? ⟨g3b, (j + 1), none⟩ = some v := ⟨L4b.toArray[(j + 1)]'(by have := LC4b.out; simp; omega), by rw [GB3b.out.cell]; exact Array.getElem?_eq_getElem _⟩
    have hf4b := GB3b.out.frozen (j + 1)
    have c3cb : w3b.cell? ⟨p, 2, none⟩ = some (.slice (some ⟨g3b, 0, none⟩) (nk2 + 1) c3b) := (BP3b.out.cell 2).trans (setIf_get _ _ _ (by simp))
    have OO4b := Lib.hid (own_only (own_only OO2b.out OG3b.out (fun x hx hm => by
      simp only [List.mem_singleton] at hm
      obtain ⟨cur, hcx, _⟩ := own_blk OO2b.out hx
      exact Blk.ne_ hcx (show Blk w2b g3b 45 Lb.toArray from HLb.out) (by decide) hm)) (only_cell w3b g3b (j + 1) (Value.pointer (some ⟨r, 0, none⟩))) (fun x hx hm => by
      simp only [List.mem_singleton] at hm
      obtain ⟨cur, hcx, _⟩ := own_blk OO2b.out hx
      exact Blk.ne_ hcx (show Blk w2b g3b 45 Lb.toArray from HLb.out) (by decide) hm))
    have OE4b := Lib.hid (list_own (L := L4b.set (j + 1) (Value.pointer (some ⟨r, 0, none⟩))) (by have := GB3b.out.set_ (j + 1) (Value.pointer (some ⟨r, 0, none⟩)); unfold Blk at this; simpa using this) hBgb (by omega) HCMb.out (by simpa using LC4b.out) LEb.out)
    have NR5b := Lib.hid (show NdRaw (w3b.setCell ⟨g3b, (j + 1), none⟩ (Value.pointer (some ⟨r, 0, none⟩))) B p q.par ⟨some ⟨g3a, 0, none⟩, c3a, some ⟨g3b, 0, none⟩, c3b⟩ (ne + 1) (nk2 + 1) (XS.insertIdx j (Value.pointer (some ⟨e.b, 0, none⟩))) (((YS.set j (Value.pointer (some ⟨l, 0, none⟩)))).insertIdx (j + 1) (Value.pointer (some ⟨r, 0, none⟩))) from ⟨by simpa using BP3b.out.far (p := ⟨g3b, (j + 1), none⟩) (fun e => hgpb e.symm) (Value.pointer (some ⟨r, 0, none⟩)), OO4b.out, OE4b.out, NRb.out.ge⟩)
    have ON5b := Lib.hid (show Only (ids p ⟨some ⟨g3a, 0, none⟩, c3a, some ⟨gk, 0, none⟩, d2⟩) (w6) (w3b.setCell ⟨g3b, (j + 1), none⟩ (Value.pointer (some ⟨r, 0, none⟩))) from ON2b.out.trans' (OG3b.out.setCell (p := ⟨g3b, (j + 1), none⟩) (.inl (by simp)) (Value.pointer (some ⟨r, 0, none⟩))) (fun b hb hm => by
      simp only [List.mem_singleton] at hm
      subst hm
      rcases FRb.out.2 _ rfl with h | h
      · exact mem_ids.2 (.inr (.inr h))
      · simp only at h; omega))
    clear OO4b OE4b OO2b OG3b BP2b ON2b HLb LEb LC4b HLCb HLTb HCMb LTb XLb ON1b OO1b BP1b OW1b OW2b
    go_wp2_with fail
    clear GB3b BP3b hv4b hf4b c3cb
    have exs : (XS.insertIdx j (Value.pointer (some ⟨e.b, 0, none⟩))) = enRow (eL ++ e :: eR) := by
      rw [← HXS.out, HQE.out, ← HJ.out, HLN.out]
      exact ins_row eL eR e
    have eys : ((YS.set j (Value.pointer (some ⟨l, 0, none⟩))).insertIdx (j + 1) (Value.pointer (some ⟨r, 0, none⟩))) = ndRow (kL ++ l :: r :: kR) := by
      rw [← HYS.out, HKS.out, ← HJ.out]
      exact ins_row2 kL kR x l r
    have en1 : (eL ++ e :: eR).length = ne + 1 := by rw [← HNE.out, HQE.out]; simp; omega
    have en2 : (kL ++ l :: r :: kR).length = nk2 + 1 := by rw [← HNK.out, HKS.out]; simp; omega
    have ON7 : Only (ids p ⟨P1, d1, some ⟨gk, 0, none⟩, d2⟩) w11 (w3b.setCell ⟨g3b, (j + 1), none⟩ (Value.pointer (some ⟨r, 0, none⟩))) := ON6.out.trans' ON5b.out (fun b hb hm => by
      rcases mem_ids.1 hm with h | ⟨y, hy, h⟩ | ⟨y, hy, h⟩
      · exact mem_ids.2 (.inl h)
      · simp only at hy
        injection hy with hy
        subst hy h
        rcases FRa.out.1 _ rfl with h | h
        · exact mem_ids.2 (.inr (.inl h))
        · simp only at h hb; omega
      · simp only at hy
        injection hy with hy
        subst hy h
        exact mem_ids.2 (.inr (.inr ⟨_, rfl, rfl⟩)))
    have NR7 := NR5b.out
    rw [exs, eys] at NR7
    have s12 := (HS11.out.put HQ5.out (w' := w3b.setCell ⟨g3b, (j + 1), none⟩ (Value.pointer (some ⟨r, 0, none⟩))) (by rw [HPA.out]; exact ON7) (d' := ⟨q.par, eL ++ e :: eR, kL ++ l :: r :: kR, q.lv⟩) (a' := ⟨some ⟨g3a, 0, none⟩, c3a, some ⟨g3b, 0, none⟩, c3b⟩) (by show NdRaw _ _ _ _ _ (eL ++ e :: eR).length (kL ++ l :: r :: kR).length _ _; rw [en1, en2]; exact NR7)
      (by rw [HPA.out]; exact ⟨FRa.out.1, fun y hy => by
        rcases FRb.out.2 y hy with h | h
        · exact .inl h
        · exact .inr (Nat.le_trans ON6.out.size h)⟩)
      (fun e' he' => by
        simp only [List.mem_append, List.mem_cons] at he'
        rcases he' with h | h | h
        · exact .inl (by rw [HQE.out]; simp [h])
        · subst h
          exact .inr ⟨HEK11.out.1.only ON7 (by rw [← HPA.out]; exact (HS11.out.nd p q HQ5.out).not_ids HEK11.out.1 (by decide) (by decide) (by decide)), HEK11.out.2⟩
        · exact .inl (by rw [HQE.out]; simp [h]))).drop x
    have HPL : p ≠ l := fun e' => by have := HV10.out.l0; rw [← e', HQ.out] at this; cases this
    have HPR : p ≠ r := fun e' => by have := HV10.out.r0; rw [← e', HQ.out] at this; cases this
    have σp : upd (upd σ5 p (some ⟨q.par, eL ++ e :: eR, kL ++ l :: r :: kR, q.lv⟩)) x none p = some ⟨q.par, eL ++ e :: eR, kL ++ l :: r :: kR, q.lv⟩ := by rw [upd_ne _ _ HPX.out, upd_at]
    have σo : ∀ j, j ≠ p → j ≠ x → upd (upd σ5 p (some ⟨q.par, eL ++ e :: eR, kL ++ l :: r :: kR, q.lv⟩)) x none j = σ5 j := fun j h1 h2 => by rw [upd_ne _ _ h2, upd_ne _ _ h1]
    have T0 := split_two (σ' := upd (upd σ5 p (some ⟨q.par, eL ++ e :: eR, kL ++ l :: r :: kR, q.lv⟩)) x none) SS.out HH.out HQ.out HES.out HK.out.1 HK.out.2 HKS.out HQE.out HLN.out HV10.out.l0 HV10.out.r0 HV10.out.lr
      (by rw [σo l (fun e' => HPL e'.symm) NX1.out.symm]; exact HV10.out.l_) (by rw [σo r (fun e' => HPR e'.symm) NX3.out.symm]; exact HV10.out.r_) σp (upd_at _ _ _)
      (fun g hg gd hgd => by
        have hgx : g ≠ x := fun e => SS.out.not_own HH.out (by rw [HK.out.1, ← e]; simp [hg])
        rw [σo g (HPK.out g (.inl hg)) hgx]; exact HV10.out.gA g hg gd hgd)
      (fun g hg gd hgd => by
        have hgx : g ≠ x := fun e => SS.out.not_own HH.out (by rw [HK.out.1, ← e]; simp [hg])
        rw [σo g (HPK.out g (.inr hg)) hgx]; exact HV10.out.gB g hg gd hgd)
      (fun j h1 h2 h3 h4 h5 h6 => by rw [σo j h1 h2]; exact HV10.out.off j h3 h4 h5 h6)
    have T := T0.1
    have hdl := SS.out.kidOf HQ.out (by rw [HKS.out]; simp) HH.out
    have hlev : ∀ r', upd (upd σ5 p (some ⟨q.par, eL ++ e :: eR, kL ++ l :: r :: kR, q.lv⟩)) x none rt = some r' → r'.lv ≤ q.lv + lvn := by
      intro r' hr'
      obtain ⟨r0, hr0, hr0p⟩ := SS.out.root
      have hb := HLV.out r0 hr0
      by_cases h1 : rt = p
      · subst h1; rw [σp] at hr'; injection hr' with hr'; subst hr'; simp only; omega
      · have h2 : rt ≠ x := fun e' => by rw [e', HH.out] at hr0; injection hr0 with hr0; subst hr0; rw [HDP.out] at hr0p; cases hr0p
        rw [σo rt h1 h2] at hr'
        have h3 : σ5 rt = σ rt := HV10.out.off rt (fun e' => by have := HV10.out.l0; rw [← e', hr0] at this; cases this) (fun e' => by have := HV10.out.r0; rw [← e', hr0] at this; cases this)
          (fun hm => by have h4 := SS.out.kidOf HH.out (by rw [HK.out.1]; simp [hm]) hr0; rw [hr0p] at h4; cases h4.1) (fun hm => by have h4 := SS.out.kidOf HH.out (by rw [HK.out.1]; simp [hm]) hr0; rw [hr0p] at h4; cases h4.1)
        rw [h3, hr0] at hr'; injection hr' with hr'; subst hr'; omega
    have hfit : FitX (upd (upd σ5 p (some ⟨q.par, eL ++ e :: eR, kL ++ l :: r :: kR, q.lv⟩)) x none) H.m rt p := by
      intro j' e' hj' hne
      have hM := HM.out
      have hN := HN.out
      have hNM := HNM.out
      have hM3 := HM3.out
      by_cases h2 : j' = x
      · subst h2; rw [upd_at] at hj'; cases hj'
      rw [σo j' hne h2] at hj'
      by_cases h3 : j' = l
      · subst h3; rw [HV10.out.l_] at hj'; injection hj' with hj'; subst hj'
        refine ⟨?_, fun _ => ?_, ?_⟩ <;> simp only [List.length_take] <;> omega
      by_cases h4 : j' = r
      · subst h4; rw [HV10.out.r_] at hj'; injection hj' with hj'; subst hj'
        refine ⟨?_, fun _ => ?_, ?_⟩ <;> simp only [List.length_drop] <;> omega
      rcases HV10.out.inv hKall.out hj' with h | h | ⟨e0, h, he0⟩
      · exact absurd h h3
      · exact absurd h h4
      · have := HF.out j' e0 h h2
        exact ⟨by rw [he0]; exact this.1, fun hh => by rw [he0]; exact this.2.1 hh, by rw [he0]; exact this.2.2⟩
    have hlen1 : ((⟨q.par, eL ++ e :: eR, kL ++ l :: r :: kR, q.lv⟩ : ND).es.length : Int) ≤ H.m := by simp only; rw [en1]; have := HFP.out.1; have := HNE.out; omega
    have hlen2 : p ≠ rt → (H.m + 1) / 2 - 1 ≤ ((⟨q.par, eL ++ e :: eR, kL ++ l :: r :: kR, q.lv⟩ : ND).es.length : Int) := fun hh => by simp only; rw [en1]; have := HFP.out.2.1 hh; have := HNE.out; omega
    have hlen3 : 1 ≤ (⟨q.par, eL ++ e :: eR, kL ++ l :: r :: kR, q.lv⟩ : ND).es.length := by simp only; rw [en1]; omega
    have C := HIH.out _ B H o _ _ p rt ⟨q.par, eL ++ e :: eR, kL ++ l :: r :: kR, q.lv⟩ s12 HO.out HM3.out HR.out T.2.2 σp hlev hfit hlen1 hlen2 hlen3 (by rw [T.2.1]; exact HAS.out)
    refine C.mono ?_
    rintro e9 w9 ⟨rfl, σ2, α2, rt2, s2, S2, k2, f2, b2, ab2⟩
    have FIN := Lib.hid (show SplitPost w B H o σ rt x (.returned (.tuple #[])) w9 from ⟨rfl, σ2, α2, rt2, s2, S2, k2.trans T.2.1, f2, (HB11.out.trans (ON7.below (by rw [← HPA.out]; exact fun b hb => ((HS11.out.nd p q HQ5.out).ids_ b hb).1) HS11.out.hB)).trans b2, fun c ac => by
      have hN0 := HN.out
      have hN1 := HNM.out
      have hM0 := HM.out
      obtain ⟨c', h1, h2⟩ := T0.2 H.m c (by omega) (by unfold midOf; rw [List.length_take]; omega) ac
      rw [h2]; exact ab2 c' h1⟩)
    clear C s12 T σo σp hlev hfit hlen1 hlen2 hlen3 s2 S2 k2 f2 b2 NR7 ON7 exs eys en1 en2
    go_wp2_with fail
    go_end0
    exact FIN.out
  · have hk := SS.out.inner x d HH.out h0
    refine (leafN HS3.out HX3.out (by omega) _).mono ?_
    rintro e w5 ⟨rfl, rfl⟩
    have hkn : d.ks.length = n + 1 := by rw [hk, HN.out]
    have HKN := Lib.hid hkn
    have HK := Lib.hid (show d.ks = d.ks.take (M + 1) ++ d.ks.drop (M + 1) ∧ Cut d.lv (d.ks.take (M + 1)) (d.ks.drop (M + 1)) (d.es.take M) (d.es.drop (M + 1)) from ⟨(List.take_append_drop _ _).symm, .inr ⟨h0, by simp only [List.length_take]; have := HN.out; omega, by simp only [List.length_drop]; have := HN.out; omega⟩⟩)
    have hkall : ∀ k ∈ d.ks, ∃ cd, σ k = some cd := fun k hkm => by obtain ⟨cd, h1, _⟩ := SS.out.kid x d k HH.out hkm; exact ⟨cd, h1⟩
    have HKA := Lib.hid hkall
    have HND := Lib.hid (SS.out.nd x d HH.out)
    have hc2 := (HS3.out.cells' HX3.out HA3.out).2.2.1
    have ow2 := HS3.out.own2' HX3.out HA3.out
    obtain ⟨g2, rfl⟩ := own_some' ow2 (by omega)
    have hcap2 := own_cap' ow2 (by omega)
    rw [hkn] at hc2 hcap2
    have SR3 := Lib.hid (own_src ow2 rfl 0 (M + 1) c2 (ys := ndRow (d.ks.take (M + 1))) (ndRow_take _) (by rw [ndRow_length, List.length_take]; omega))
    have hj1 : (M : Int) + 1 ≤ ((n + 1 : Nat) : Int) := by omega
    have hj2 : (M : Int) + 1 ≤ (c2 : Int) := by omega
    have hj3 : ¬ c2 = M + 1 := by omega
    have hj4 : (M : Int) + 1 ≤ (n : Int) + 1 := by omega
    have h0 := Lib.hid h0
    clear ow2 hk hkn hkall
    go_wp2_with (at_builtin; refine Hid.out ?_)
    delta Hid
    refine wpList_appT Try.underlying59 nd_info rfl (by omega) rfl _ _ rfl B (.slice none 0 0) 0 [] rfl (own_nil w4 B _) (some ⟨g2, 0, none⟩) (M + 1) c2 (ndRow (d.ks.take (M + 1))) rfl SR3.out (ndRow_one _) (by omega) (by omega) HS3.out.hB ?_
    intro v5 w5 own5 gr5 ob5
    simp only [Nat.zero_add, List.nil_append] at own5
    obtain ⟨Ac, cc, rfl, _, _⟩ := own_slice own5
    obtain rfl := own_fresh own5 (by omega) (by simpa [Value.ownBlock] using ob5)
    obtain ⟨s5, b5⟩ := HS3.out.setKs HV3.out.l_ own5 gr5 (fun k hk => by simp [Value.ownBlock] at hk) (fun a ha => .inr (by injection ha with ha; subst ha; exact Nat.le_refl _)) (by rw [List.length_take]; have := HKN.out; omega)
    rw [HA3l.out] at s5
    simp only at s5
    have lb5 := ((HS3.out.nd l _ HV3.out.l_).blk.same (gr5.block l (HS3.out.nd l _ HV3.out.l_).lt (fun e => by simp [Value.ownBlock] at e)))
    rw [HA3l.out] at lb5
    have hlc5 := lb5.cell 2
    have hlf5 := lb5.frozen 2
    simp only at hlc5
    have nxl : x ≠ l := NX1.out
    have hx5 : upd σ3 l (some ⟨(some p), d.es.take M, d.ks.take (M + 1), d.lv⟩) x = some d := by rw [upd_ne _ _ nxl]; exact HX3.out
    have ha5 : updA α3 l ⟨some ⟨gl, 0, none⟩, cl, some ⟨w4.heap.size, 0, none⟩, cc⟩ x = ⟨some ⟨g, 0, none⟩, c, some ⟨g2, 0, none⟩, c2⟩ := by rw [updA_ne _ _ nxl]; exact HA3.out
    have hr5 : upd σ3 l (some ⟨(some p), d.es.take M, d.ks.take (M + 1), d.lv⟩) r = some ⟨(some p), d.es.drop (M + 1), [], d.lv⟩ := by rw [upd_ne _ _ HV3.out.lr.symm]; exact HV3.out.r_
    have ha5r : updA α3 l ⟨some ⟨gl, 0, none⟩, cl, some ⟨w4.heap.size, 0, none⟩, cc⟩ r = ⟨some ⟨gr, 0, none⟩, cr, none, 0⟩ := by rw [updA_ne _ _ HV3.out.lr.symm]; exact HA3r.out
    have hc2 := (s5.cells' hx5 ha5).2.2.1
    rw [HKN.out] at hc2
    have SR5 := Lib.hid (own_src (s5.own2' hx5 ha5) rfl (M + 1) (n - M) (c2 - (M + 1)) (ys := ndRow (d.ks.drop (M + 1))) (ndRow_drop _) (by rw [ndRow_length, List.length_drop]; have := HKN.out; omega))
    have HS5 := Lib.hid s5
    have HB5 := Lib.hid (HB3.out.trans b5)
    have HX5 := Lib.hid hx5
    have HA5 := Lib.hid ha5
    have HR5 := Lib.hid hr5
    have HA5r := Lib.hid ha5r
    have GZ := Lib.hid gr5.size
    clear own5 gr5 ob5 s5 b5 hx5 ha5 hr5 ha5r lb5 SR3 HS3 HX3 HA3 HA3l HA3r HB3 nxl
    go_wp2_with (at_builtin; refine Hid.out ?_)
    delta Hid
    generalize w5.setCell ⟨l, 2, none⟩ (.slice (some ⟨w4.heap.size, 0, none⟩) (M + 1) cc) = w6 at *
    refine wpList_appT Try.underlying59 nd_info rfl (by omega) rfl _ _ rfl B (.slice none 0 0) 0 [] rfl (own_nil w6 B _) (some ⟨g2, M + 1, none⟩) (n - M) (c2 - (M + 1)) (ndRow (d.ks.drop (M + 1))) rfl SR5.out (ndRow_one _) (by omega) (by omega) HS5.out.hB ?_
    intro v7 w7 own7 gr7 ob7
    simp only [Nat.zero_add, List.nil_append] at own7
    obtain ⟨Ad, ce, rfl, _, _⟩ := own_slice own7
    obtain rfl := own_fresh own7 (by omega) (by simpa [Value.ownBlock] using ob7)
    obtain ⟨s7, b7⟩ := HS5.out.setKs HR5.out own7 gr7 (fun k hk => by simp [Value.ownBlock] at hk) (fun a ha => .inr (by injection ha with ha; subst ha; exact Nat.le_refl _)) (by rw [List.length_drop]; have := HKN.out; omega)
    rw [HA5r.out] at s7
    simp only at s7
    have lb7 := ((HS5.out.nd r _ HR5.out).blk.same (gr7.block r (HS5.out.nd r _ HR5.out).lt (fun e => by simp [Value.ownBlock] at e)))
    rw [HA5r.out] at lb7
    have hrc7 := lb7.cell 2
    have hrf7 := lb7.frozen 2
    simp only at hrc7
    have hl7 : upd (upd σ3 l (some ⟨(some p), d.es.take M, d.ks.take (M + 1), d.lv⟩)) r (some ⟨(some p), d.es.drop (M + 1), d.ks.drop (M + 1), d.lv⟩) l = some ⟨(some p), d.es.take M, d.ks.take (M + 1), d.lv⟩ := by rw [upd_ne _ _ HV3.out.lr, upd_at]
    have ha7l : updA (updA α3 l ⟨some ⟨gl, 0, none⟩, cl, some ⟨w4.heap.size, 0, none⟩, cc⟩) r ⟨some ⟨gr, 0, none⟩, cr, some ⟨w6.heap.size, 0, none⟩, ce⟩ l = ⟨some ⟨gl, 0, none⟩, cl, some ⟨w4.heap.size, 0, none⟩, cc⟩ := by rw [updA_ne _ _ HV3.out.lr, updA_at]
    have ha7r : updA (updA α3 l ⟨some ⟨gl, 0, none⟩, cl, some ⟨w4.heap.size, 0, none⟩, cc⟩) r ⟨some ⟨gr, 0, none⟩, cr, some ⟨w6.heap.size, 0, none⟩, ce⟩ r = ⟨some ⟨gr, 0, none⟩, cr, some ⟨w6.heap.size, 0, none⟩, ce⟩ := updA_at _ _ _
    have ha7x : updA (updA α3 l ⟨some ⟨gl, 0, none⟩, cl, some ⟨w4.heap.size, 0, none⟩, cc⟩) r ⟨some ⟨gr, 0, none⟩, cr, some ⟨w6.heap.size, 0, none⟩, ce⟩ x = ⟨some ⟨g, 0, none⟩, c, some ⟨g2, 0, none⟩, c2⟩ := by rw [updA_ne _ _ NX3.out]; exact HA5.out
    have kne : ∀ k ∈ d.ks, k ≠ l ∧ k ≠ r := fun k hk => by
      obtain ⟨cd, h1⟩ := HKA.out k hk
      exact ⟨(fun e => by rw [e, HV3.out.l0] at h1; cases h1), (fun e => by rw [e, HV3.out.r0] at h1; cases h1)⟩
    have KNE := Lib.hid kne
    have hold : ∀ j, j ≠ l → j ≠ r → upd (upd σ3 l (some ⟨(some p), d.es.take M, d.ks.take (M + 1), d.lv⟩)) r (some ⟨(some p), d.es.drop (M + 1), d.ks.drop (M + 1), d.lv⟩) j = σ j := fun j h1 h2 => by rw [upd_ne _ _ h2, upd_ne _ _ h1]; exact HV3.out.off j h1 h2 (by simp) (by simp)
    have HOLD := Lib.hid hold
    have CP := Lib.hid (fun (wx : World) (sx : St wx B H o _ _) => setParent_walk' sx hl7 ha7l (by rw [List.length_take]; have := HKN.out; omega) (fun k hk => by
      obtain ⟨cd, h1⟩ := HKA.out k (List.mem_of_mem_take hk)
      have h2 := KNE.out k (List.mem_of_mem_take hk)
      exact ⟨cd, by rw [HOLD.out k h2.1 h2.2]; exact h1⟩) ((List.take_sublist _ _).nodup HND.out) (fun hm => (KNE.out l (List.mem_of_mem_take hm)).1 rfl) (by omega) l (n := M + 1))
    have hlc7 := (s7.cells' hl7 ha7l).2.2.1
    simp only [List.length_take, show min (M + 1) d.ks.length = M + 1 by have := HKN.out; omega] at hlc7
    have HS7 := Lib.hid s7
    have HB7 := Lib.hid (HB5.out.trans b7)
    have HA7r := Lib.hid ha7r
    have HA7x := Lib.hid ha7x
    have HA7l := Lib.hid ha7l
    clear own7 gr7 ob7 s7 b7 lb7 hl7 ha7l ha7r ha7x kne hold hlc5 hlf5 SR5 HS5 HX5 HA5 HR5 HA5r HB5 GZ
    go_wp2_with fail
    generalize w7.setCell ⟨r, 2, none⟩ (.slice (some ⟨w6.heap.size, 0, none⟩) (n - M) ce) = w8 at *
    refine (CP.out w8 HS7.out).mono ?_
    rintro e w9 ⟨rfl, s9, b9⟩
    have hr9 : setPar (upd (upd σ3 l (some ⟨(some p), d.es.take M, d.ks.take (M + 1), d.lv⟩)) r (some ⟨(some p), d.es.drop (M + 1), d.ks.drop (M + 1), d.lv⟩)) (d.ks.take (M + 1)) (some l) r = some ⟨(some p), d.es.drop (M + 1), d.ks.drop (M + 1), d.lv⟩ := by rw [setPar_out (fun hm => (KNE.out r (List.mem_of_mem_take hm)).2 rfl), upd_at]
    have hsep : ∀ k ∈ d.ks.drop (M + 1), k ∉ d.ks.take (M + 1) := fun k hk1 hk2 => by
      have := HND.out
      rw [← List.take_append_drop (M + 1) d.ks, List.nodup_append] at this
      exact this.2.2 k hk2 k hk1 rfl
    have HSEP := Lib.hid hsep
    have CQ := Lib.hid (fun (wx : World) (sx : St wx B H o _ _) => setParent_walk' sx hr9 HA7r.out (by rw [List.length_drop]; have := HKN.out; omega) (fun k hk => by
      obtain ⟨cd, h1⟩ := HKA.out k (List.mem_of_mem_drop hk)
      have h2 := KNE.out k (List.mem_of_mem_drop hk)
      exact ⟨cd, by rw [setPar_out (HSEP.out k hk), HOLD.out k h2.1 h2.2]; exact h1⟩) ((List.drop_sublist _ _).nodup HND.out) (fun hm => (KNE.out r (List.mem_of_mem_drop hm)).2 rfl) (by omega) r (n := n - M))
    have hrc9 := (s9.cells' hr9 HA7r.out).2.2.1
    simp only [List.length_drop, show d.ks.length - (M + 1) = n - M by have := HKN.out; omega] at hrc9
    have HS9 := Lib.hid s9
    have HB9 := Lib.hid (HB7.out.trans b9)
    clear s9 b9 hsep HS7 HB7 hlc7 hr9 hrc7 hrf7
    go_wp2_with fail
    refine (CQ.out w9 HS9.out).mono ?_
    rintro e w10 ⟨rfl, s10, b10⟩
    have HV10 := Lib.hid (show Halves σ (setPar (setPar (upd (upd σ3 l (some ⟨(some p), d.es.take M, d.ks.take (M + 1), d.lv⟩)) r (some ⟨(some p), d.es.drop (M + 1), d.ks.drop (M + 1), d.lv⟩)) (d.ks.take (M + 1)) (some l)) (d.ks.drop (M + 1)) (some r)) l r (some p) d.lv (d.es.take M) (d.es.drop (M + 1)) (d.ks.take (M + 1)) (d.ks.drop (M + 1)) from by
      refine ⟨?_, ?_, ?_, ?_, ?_, HV3.out.l0, HV3.out.r0, HV3.out.lr⟩
      · rw [setPar_out (fun hm => (KNE.out l (List.mem_of_mem_drop hm)).1 rfl), setPar_out (fun hm => (KNE.out l (List.mem_of_mem_take hm)).1 rfl), upd_ne _ _ HV3.out.lr, upd_at]
      · rw [setPar_out (fun hm => (KNE.out r (List.mem_of_mem_drop hm)).2 rfl), setPar_out (fun hm => (KNE.out r (List.mem_of_mem_take hm)).2 rfl), upd_at]
      · intro k hk gd hgd
        have h2 := KNE.out k (List.mem_of_mem_take hk)
        rw [setPar_out (fun hm => HSEP.out k hm hk)]
        exact setPar_in hk (by rw [HOLD.out k h2.1 h2.2]; exact hgd)
      · intro k hk gd hgd
        have h2 := KNE.out k (List.mem_of_mem_drop hk)
        exact setPar_in hk (by rw [setPar_out (HSEP.out k hk), HOLD.out k h2.1 h2.2]; exact hgd)
      · intro j h1 h2 h3 h4
        rw [setPar_out h4, setPar_out h3]
        exact HOLD.out j h1 h2)
    have own := SS.out.not_own HH.out
    have HX10 := Lib.hid (show setPar (setPar (upd (upd σ3 l (some ⟨(some p), d.es.take M, d.ks.take (M + 1), d.lv⟩)) r (some ⟨(some p), d.es.drop (M + 1), d.ks.drop (M + 1), d.lv⟩)) (d.ks.take (M + 1)) (some l)) (d.ks.drop (M + 1)) (some r) x = some d by rw [HV10.out.off x NX1.out NX3.out (fun hm => own (List.mem_of_mem_take hm)) (fun hm => own (List.mem_of_mem_drop hm))]; exact HH.out)
    have HS10 := Lib.hid s10
    have HB10 := Lib.hid (HB9.out.trans b10)
    clear own s10 b10 HS9 HB9 CP CQ hrc9 HOLD HV3 KNE HSEP HA7r HA7l
    generalize setPar (setPar (upd (upd σ3 l (some ⟨(some p), d.es.take M, d.ks.take (M + 1), d.lv⟩)) r (some ⟨(some p), d.es.drop (M + 1), d.ks.drop (M + 1), d.lv⟩)) (d.ks.take (M + 1)) (some l)) (d.ks.drop (M + 1)) (some r) = σ5 at *
    generalize updA (updA α3 l ⟨some ⟨gl, 0, none⟩, cl, some ⟨w4.heap.size, 0, none⟩, cc⟩) r ⟨some ⟨gr, 0, none⟩, cr, some ⟨w6.heap.size, 0, none⟩, ce⟩ = α5 at *
    generalize d.ks.take (M + 1) = kA at *
    generalize d.ks.drop (M + 1) = kB at *
    have hKall := Lib.hid (show ∀ g, g ∈ kA ∨ g ∈ kB → ∃ c, σ g = some c from fun g hg => by
      obtain ⟨cd, h1, _⟩ := SS.out.kid x d g HH.out (by rw [HK.out.1]; simpa using hg)
      exact ⟨cd, h1⟩)
    obtain ⟨e, he⟩ : ∃ e, d.es[M]? = some e := ⟨_, List.getElem?_eq_getElem (by have := HN.out; omega)⟩
    have HES := Lib.hid (getElem?_split he)
    have HEM := Lib.hid he
    have hc1 := (HS10.out.cells' HX10.out HA7x.out).2.1
    rw [HN.out] at hc1
    obtain ⟨g', hg1, hg2, _, hg4, _⟩ := HS10.out.ent HX10.out he
    rw [HA7x.out] at hg1
    injection hg1 with hg1
    injection hg1 with hg1
    subst hg1
    have HPX := Lib.hid (show p ≠ x from fun e => SS.out.not_own HQ.out (by rw [HKS.out, e]; simp))
    have pkid : ∀ g, g ∈ kA ∨ g ∈ kB → g ≠ p := fun g hg e => by
      obtain ⟨cd, h1, h2, h3⟩ := SS.out.kid x d g HH.out (by rw [HK.out.1]; simpa using hg)
      have h4 := SS.out.kidOf HQ.out (by rw [HKS.out]; simp) HH.out
      rw [e, HQ.out] at h1
      injection h1 with h1
      subst h1
      omega
    have HPK := Lib.hid pkid
    have hq5 : σ5 p = some q := by
      rw [HV10.out.off p (fun e => by have := HV10.out.l0; rw [← e, HQ.out] at this; cases this) (fun e => by have := HV10.out.r0; rw [← e, HQ.out] at this; cases this) (fun hm => pkid p (.inl hm) rfl) (fun hm => pkid p (.inr hm) rfl)]
      exact HQ.out
    have HQ5 := Lib.hid hq5
    have hfp := HF.out p q HQ.out HPX.out
    have hqn : q.es.length ≤ 64 := by have := hfp.1; have := HM3.out; omega
    have hsit := Sits.rank (sits_of SS.out HAS.out HH.out (u := e.kv) (by rw [nk_row SS.out HH.out]; exact mem_rowKvs (List.mem_of_getElem? he) (SS.out.fits HH.out))) HH.out HDP.out HQ.out HKS.out HQE.out HLN.out
    have cs := search_walk HS10.out HO.out hq5 (SS.out.ascE HQ.out HAS.out) (by omega) e.k
    have hsit' : rank o (o.rk e.k) q.es = j := hsit.trans HJ.out
    rw [hsit'] at cs
    have CS := Lib.hid cs
    have HFP := Lib.hid hfp
    clear cs hsit hsit' hq5 pkid he hfp
    go_wp2_with fail
    refine CS.out.mono ?_
    rintro e0 w11 ⟨rfl, mm, rfl⟩
    have HS11 := Lib.hid (HS10.out.drewN mm)
    have HB11 := Lib.hid (Below.drewN' HB10.out mm)
    have HEK11 := Lib.hid (HS11.out.en x d e HX10.out (List.mem_of_getElem? HEM.out))
    clear CS hc1 hg2 hg4
    generalize w10.drewN mm = w11 at *
    obtain ⟨P1, d1, P2, d2, hpa⟩ := St.arr α5 p
    have HPA := Lib.hid hpa
    have NR0 : NdRaw w11 B p q.par (α5 p) q.es.length q.ks.length (enRow q.es) (ndRow q.ks) := HS11.out.nd p q HQ5.out
    rw [hpa] at NR0
    generalize hxs : enRow q.es = XS at *
    generalize hys : ndRow q.ks = YS at *
    have HXS := Lib.hid hxs
    have HYS := Lib.hid hys
    generalize hne : q.es.length = ne at *
    generalize hnk : q.ks.length = nk2 at *
    have HNE := Lib.hid hne
    have HNK := Lib.hid hnk
    have hnk3 : nk2 = ne + 1 := by rw [← hnk, ← hne]; exact SS.out.inner p q HQ.out (by have := (SS.out.kidOf HQ.out (by rw [HKS.out]; simp) HH.out).2; omega)
    have hjne : j ≤ ne := by rw [← hne, HQE.out, List.length_append, ← HLN.out, HJ.out]; omega
    have NRa := Lib.hid NR0
    obtain ⟨gk, rfl⟩ := own_some' NR0.own2 (by omega)
    have ONEa := Lib.hid (show ∀ u ∈ XS, u.oneCell' = true by rw [← hxs]; exact enRow_one _)
    have ONEy := Lib.hid (show ∀ u ∈ YS, u.oneCell' = true by rw [← hys]; exact ndRow_one _)
    clear hxs hys hne hnk hpa NR0
    have ja1 : (0 : Int) ≤ (j : Int) := by omega
    have ja2 : (j : Int) ≤ (ne : Int) := by omega
    have ja3 : (j : Int) ≤ (ne : Int) + 1 := by omega
    have ja4 : (j : Int) + 1 ≤ (ne : Int) + 1 := by omega
    have ja5 : (0 : Int) ≤ (j : Int) + 1 := by omega
    have ja6 : (ne : Int) ≤ 64 := by omega
    have ja7 : (j : Int) < (ne : Int) + 1 := by omega
    have ja8 : IntKind.i64.wrap ((j : Int) + 1) = (j : Int) + 1 := IntWalk.i64_in _ (by omega)
    have ja9 : ((j : Int) + 1).toNat = j + 1 := by omega
    have jb1 : (0 : Int) ≤ (j : Int) + 2 := by omega
    have jb2 : (j : Int) + 2 ≤ (nk2 : Int) + 1 := by omega
    have jb3 : (j : Int) + 1 ≤ (nk2 : Int) := by omega
    have jb4 : (j : Int) + 1 ≤ (nk2 : Int) + 1 := by omega
    have jb5 : (j : Int) + 1 < (nk2 : Int) + 1 := by omega
    have jb6 : IntKind.i64.wrap ((j : Int) + 2) = (j : Int) + 2 := IntWalk.i64_in _ (by omega)
    have jb7 : ((j : Int) + 2).toNat = j + 2 := by omega
    have jb8 : (j : Int) < (nk2 : Int) := by omega
    have jb9 : (nk2 : Int) ≤ 65 := by omega
    clear hnk3
    have hcPa := NRa.out.blk.cell 1
    have hfPa := NRa.out.blk.frozen 1
    have hBBa := Lib.hid (show B ≤ (w11).heap.size from Nat.le_trans NRa.out.ge (Nat.le_of_lt NRa.out.lt))
    go_wp2_with (at_builtin; refine Hid.out ?_)
    delta Hid
    refine wpList_appT Try.underlying58 en_info rfl (by omega) rfl (.tmp 95) (.tmp 96) rfl B (.slice P1 ne d1) ne XS rfl (NRa.out.own1.alloc _) (some ⟨(w11).heap.size, 0, none⟩) 1 1 [.pointer none] rfl (src_blk (Blk.new _ _ _) rfl) (fun u hu => by simp only [List.mem_singleton] at hu; subst hu; rfl) (by omega) (by omega) (by have := hBBa.out; simp; omega) ?_
    intro v1a w1a own1a gr1a ob1a
    obtain ⟨A3a, c3a, rfl, _, _⟩ := own_slice own1a
    obtain ⟨g3a, rfl⟩ := own_some' own1a (by omega)
    have BP1a := Lib.hid ((NRa.out.blk.alloc (.cells #[.pointer none] 62)).same (gr1a.block p (by have := NRa.out.lt; simp; omega) (fun e => own_neB NRa.out.own1 NRa.out.blk (by decide) e.symm)))
    have OO1a := Lib.hid (own_only (S := (Value.slice P1 ne d1).ownBlock.toList) (NRa.out.own2.alloc (.cells #[.pointer none] 62)) (grown_only gr1a (fun k hk => by rw [hk]; simp)) (fun x hx hm => by
      obtain ⟨cur, hcx, _⟩ := own_blk NRa.out.own2 hx
      have hm' : (Value.slice P1 ne d1).ownBlock = some x.block := by simpa using hm
      obtain ⟨y, hy, hyb⟩ := ownBlock_slice hm'
      obtain ⟨cur2, hcy, _⟩ := own_blk NRa.out.own1 hy
      exact Blk.ne_ hcx hcy (by decide) hyb.symm))
    have ON1a := Lib.hid (show Only (ids p ⟨P1, d1, some ⟨gk, 0, none⟩, d2⟩) (w11) w1a from ((Only.refl _ _).alloc (.cells #[.pointer none] 62)).trans (grown_only gr1a (fun k hk => mem_ids.2 (.inr (.inl (ownBlock_slice hk))))))
    have FRa := Lib.hid (show Fresh (w11) ⟨P1, d1, some ⟨gk, 0, none⟩, d2⟩ ⟨some ⟨g3a, 0, none⟩, c3a, some ⟨gk, 0, none⟩, d2⟩ from ⟨fun x hx => by
      injection hx with hx
      subst hx
      rcases ob1a with e | e
      · exact .inl (ownBlock_slice e.symm)
      · right
        simp only [Value.ownBlock, Option.some.injEq] at e
        simp at e
        simp only
        omega, fun x hx => .inl ⟨x, hx, rfl⟩⟩)
    have hp1a := BP1a.out.cell 1
    have hp1fa := BP1a.out.frozen 1
    have OW1a := Lib.hid own1a
    clear own1a gr1a ob1a hcPa hfPa
    have BP2a := Lib.hid (BP1a.out.set_ 1 (.slice (some ⟨g3a, 0, none⟩) (ne + 1) c3a))
    have ON2a := Lib.hid (ON1a.out.setCell (p := ⟨p, 1, none⟩) (.inl (mem_ids.2 (.inl rfl))) (.slice (some ⟨g3a, 0, none⟩) (ne + 1) c3a))
    have OW2a := Lib.hid (own_only OW1a.out (only_cell w1a p 1 (.slice (some ⟨g3a, 0, none⟩) (ne + 1) c3a)) (fun x hx hm => by
      simp only [List.mem_singleton] at hm
      obtain ⟨cur, hcx, _⟩ := own_blk OW1a.out hx
      exact Blk.ne_ hcx BP1a.out (by decide) hm))
    have OO2a := Lib.hid (own_only OO1a.out (only_cell w1a p 1 (.slice (some ⟨g3a, 0, none⟩) (ne + 1) c3a)) (fun x hx hm => by
      simp only [List.mem_singleton] at hm
      obtain ⟨cur, hcx, _⟩ := own_blk OO1a.out hx
      exact Blk.ne_ hcx BP1a.out (by decide) hm))
    obtain ⟨La, hLa, hBga, hnca, hcma, hLca, hLta⟩ := own_list OW2a.out rfl
    have HLa := Lib.hid hLa
    have HLCa := Lib.hid hLca
    have HLTa := Lib.hid hLta
    have HCMa := Lib.hid hcma
    have XLa := Lib.hid NRa.out.own1.1
    have LTa := Lib.hid (show La.take ne = XS by
      have e := HLTa.out
      have e2 : La.take ne = (La.take (ne + 1)).take ne := by rw [List.take_take]; congr 1; omega
      rw [e2, e]
      exact List.take_left' (by have := XLa.out; omega))
    clear hLa hLca hLta hcma
    have hgpa : g3a ≠ p := Blk.ne_ (show Blk _ g3a 62 La.toArray from HLa.out) BP2a.out (by decide)
    have hnc1a : (ne : Int) + 1 ≤ (c3a : Int) := by omega
    have hnja : ¬ c3a = j := by omega
    obtain ⟨Da, hDa⟩ : ∃ D : Option Addr, (if c3a = j + 1 then some ⟨g3a, 0, none⟩ else some ⟨g3a, j + 1, none⟩) = D := ⟨_, rfl⟩
    have HDa := Lib.hid hDa
    have ELa := Lib.hid (show ((La.take ne).drop j).length = Nat.min (ne + 1 - j) (ne - j) by have := HLCa.out; simp only [List.length_drop, List.length_take]; show _ = min _ _; omega)
    have EFa := Lib.hid (show j + 1 + ((La.take ne).drop j).length ≤ La.length by have := HLCa.out; simp only [List.length_drop, List.length_take]; omega)
    have E1a := Lib.hid (show ∀ v ∈ (La.take ne).drop j, v.oneCell' = true from fun v hv => by rw [LTa.out] at hv; exact ONEa.out v (List.mem_of_mem_drop hv))
    have c2a := (BP2a.out.cell 1).trans (setIf_get _ _ _ (by simp))
    go_wp2_with fail
    have ESa := Lib.hid (show ∀ q v, ((La.take ne).drop j)[q]? = some v → (w1a.setCell ⟨p, 1, none⟩ (.slice (some ⟨g3a, 0, none⟩) (ne + 1) c3a)).cell? ((⟨g3a, j, none⟩ : Addr).add q) = some v from fun q v hv => by
      rw [List.getElem?_drop, List.getElem?_take] at hv
      split at hv
      · have e1 : ((⟨g3a, j, none⟩ : Addr).add q) = ⟨g3a, j + q, none⟩ := by unfold Addr.add; split <;> simp_all
        rw [e1, Blk.cell (show Blk _ g3a _ _ from HLa.out)]
        simpa using hv
      · cases hv)
    clear hp1a hp1fa
    generalize w1a.setCell ⟨p, 1, none⟩ (.slice (some ⟨g3a, 0, none⟩) (ne + 1) c3a) = w2a at *
    have K := Lib.hid c2a
    go_region_held3 (fun w' => w'.cell? ⟨p, 1, none⟩ = some (.slice (some ⟨g3a, 0, none⟩) (ne + 1) c3a)) (exact K.out)
      (first
        | (refine step_copyO rfl (.tmp 106) (.tmp 112) 58 58 rfl 62 Try.underlying58 ptr_info1 Da (some ⟨g3a, j, none⟩) _ _ _ _ rfl rfl g3a (j + 1) La 62 HLa.out ((La.take ne).drop j) (ELa.out) (fun h0 => ⟨by rw [← HDa.out, if_neg (by have := ELa.out; have e : Nat.min (ne + 1 - j) (ne - j) = min (ne + 1 - j) (ne - j) := rfl; omega)], _, rfl, ESa.out⟩) (EFa.out) (E1a.out) ?_
           intro w3a hg3a on3a
           have BP3a := Lib.hid ((Blk.drew BP2a.out).only on3a.out (by simpa using hgpa.symm))
           have K := Lib.hid ((BP3a.out.cell 1).trans (setIf_get _ _ _ (by simp)))))
    obtain ⟨L4a, hL4a⟩ : ∃ L4, L4 = splice La (j + 1) ((La.take ne).drop j) := ⟨_, rfl⟩
    have LEa := Lib.hid (show (L4a.set j (Value.pointer (some ⟨e.b, 0, none⟩))).take (ne + 1) = (XS).insertIdx j (Value.pointer (some ⟨e.b, 0, none⟩)) by rw [hL4a, ← LTa.out]; exact splice_insert La ne j _ (by omega) (by have := HLCa.out; omega))
    have LC4a := Lib.hid (show L4a.length = c3a by rw [hL4a, length_splice _ _ _ EFa.out]; exact HLCa.out)
    have GB3a := Lib.hid (show Blk w3a g3a 62 L4a.toArray from by rw [hL4a]; exact hg3a.out)
    have OG3a := Lib.hid (show Only [g3a] w2a w3a from (Only.refl [g3a] w2a).drew.trans on3a.out)
    have ON3a := Lib.hid (show Only (ids p ⟨P1, d1, some ⟨gk, 0, none⟩, d2⟩) (w11) w3a from ON2a.out.trans' OG3a.out (fun b hb hm => by
      simp only [List.mem_singleton] at hm
      subst hm
      rcases FRa.out.1 _ rfl with h | h
      · exact mem_ids.2 (.inr (.inl h))
      · simp only at h; omega))
    clear hL4a hg3a on3a EFa ESa ELa E1a hDa HDa
    have nx3 := Lib.hid ((HS11.out.nd x d HX10.out).only ON3a.out (by rw [← HPA.out]; exact HS11.out.apart HQ5.out HX10.out HPX.out))
    have hx3 := nx3.out.blk.cell 1
    rw [HA7x.out] at hx3
    simp only [HN.out] at hx3
    obtain ⟨LX, hLX, _, _, _, _, hLXt⟩ := own_list nx3.out.own1 (by rw [HA7x.out])
    have hxg : w3a.cell? ⟨g, M, none⟩ = some (.pointer (some ⟨e.b, 0, none⟩)) := by
      rw [Blk.cell (show Blk w3a g _ _ from hLX)]
      have h1 := enRow_get HEM.out
      rw [← hLXt, List.getElem?_take_of_lt (by have := HN.out; omega)] at h1
      simpa using h1
    have hp3 : w3a.cell? ⟨p, 1, none⟩ = some (.slice (some ⟨g3a, 0, none⟩) (ne + 1) c3a) := (BP3a.out.cell 1).trans (setIf_get _ _ _ (by simp))
    clear hLX hLXt
    go_wp2_with fail
    go_still_tail 13, (by kernel_rfl)
    change wpList _ _ _ _ _ w3a.drew
    have GB3a := Lib.hid (Blk.drew GB3a.out)
    have BP3a := Lib.hid (Blk.drew BP3a.out)
    have OG3a := Lib.hid OG3a.out.drew
    clear hx3 hxg hp3 nx3
    generalize w3a.drew = w3a at *
    obtain ⟨v4a, hv4a⟩ : ∃ v, w3a.cell? ⟨g3a, j, none⟩ = some v := ⟨L4a.toArray[j]'(by have := LC4a.out; simp; omega), by rw [GB3a.out.cell]; exact Array.getElem?_eq_getElem _⟩
    have hf4a := GB3a.out.frozen j
    have c3ca : w3a.cell? ⟨p, 1, none⟩ = some (.slice (some ⟨g3a, 0, none⟩) (ne + 1) c3a) := (BP3a.out.cell 1).trans (setIf_get _ _ _ (by simp))
    have OO4a := Lib.hid (own_only (own_only OO2a.out OG3a.out (fun x hx hm => by
      simp only [List.mem_singleton] at hm
      obtain ⟨cur, hcx, _⟩ := own_blk OO2a.out hx
      exact Blk.ne_ hcx (show Blk w2a g3a 62 La.toArray from HLa.out) (by decide) hm)) (only_cell w3a g3a j (Value.pointer (some ⟨e.b, 0, none⟩))) (fun x hx hm => by
      simp only [List.mem_singleton] at hm
      obtain ⟨cur, hcx, _⟩ := own_blk OO2a.out hx
      exact Blk.ne_ hcx (show Blk w2a g3a 62 La.toArray from HLa.out) (by decide) hm))
    have OE4a := Lib.hid (list_own (L := L4a.set j (Value.pointer (some ⟨e.b, 0, none⟩))) (by have := GB3a.out.set_ j (Value.pointer (some ⟨e.b, 0, none⟩)); unfold Blk at this; simpa using this) hBga (by omega) HCMa.out (by simpa using LC4a.out) LEa.out)
    have NR5a := Lib.hid (show NdRaw (w3a.setCell ⟨g3a, j, none⟩ (Value.pointer (some ⟨e.b, 0, none⟩))) B p q.par ⟨some ⟨g3a, 0, none⟩, c3a, some ⟨gk, 0, none⟩, d2⟩ (ne + 1) nk2 ((XS).insertIdx j (Value.pointer (some ⟨e.b, 0, none⟩))) YS from ⟨by simpa using BP3a.out.far (p := ⟨g3a, j, none⟩) (fun e => hgpa e.symm) (Value.pointer (some ⟨e.b, 0, none⟩)), OE4a.out, OO4a.out, NRa.out.ge⟩)
    have ON5a := Lib.hid (show Only (ids p ⟨P1, d1, some ⟨gk, 0, none⟩, d2⟩) (w11) (w3a.setCell ⟨g3a, j, none⟩ (Value.pointer (some ⟨e.b, 0, none⟩))) from ON2a.out.trans' (OG3a.out.setCell (p := ⟨g3a, j, none⟩) (.inl (by simp)) (Value.pointer (some ⟨e.b, 0, none⟩))) (fun b hb hm => by
      simp only [List.mem_singleton] at hm
      subst hm
      rcases FRa.out.1 _ rfl with h | h
      · exact mem_ids.2 (.inr (.inl h))
      · simp only at h; omega))
    clear OO4a OE4a OO2a OG3a BP2a ON2a HLa LEa LC4a HLCa HLTa HCMa LTa XLa ON1a OO1a BP1a OW1a OW2a
    have hpk : (w3a.setCell ⟨g3a, j, none⟩ (Value.pointer (some ⟨e.b, 0, none⟩))).cell? ⟨p, 2, none⟩ = some (.slice (some ⟨gk, 0, none⟩) nk2 d2) := NR5a.out.blk.cell 2
    have hgk : (w3a.setCell ⟨g3a, j, none⟩ (Value.pointer (some ⟨e.b, 0, none⟩))).cell? ⟨gk, j, none⟩ = some (YS[j]'(by have := NR5a.out.own2.1; omega)) := by rw [NR5a.out.own2.cellAt j (by omega)]; exact List.getElem?_eq_getElem _
    have hgf : (w3a.setCell ⟨g3a, j, none⟩ (Value.pointer (some ⟨e.b, 0, none⟩))).frozen? ⟨gk, j, none⟩ = false := NR5a.out.own2.frozenAt j
    obtain ⟨curk, GKB, _⟩ := own_blk NR5a.out.own2 rfl
    have hgkp : gk ≠ p := Blk.ne_ GKB NR5a.out.blk (by decide)
    have NRb := Lib.hid (show NdRaw ((w3a.setCell ⟨g3a, j, none⟩ (Value.pointer (some ⟨e.b, 0, none⟩))).setCell ⟨gk, j, none⟩ (Value.pointer (some ⟨l, 0, none⟩))) B p q.par ⟨some ⟨g3a, 0, none⟩, c3a, some ⟨gk, 0, none⟩, d2⟩ (ne + 1) nk2 (XS.insertIdx j (Value.pointer (some ⟨e.b, 0, none⟩))) (YS.set j (Value.pointer (some ⟨l, 0, none⟩))) from ⟨NR5a.out.blk.far (p := ⟨gk, j, none⟩) (fun e => hgkp e.symm) _, own_only NR5a.out.own1 (only_cell _ gk j _) (fun x hx hm => by
      simp only [List.mem_singleton] at hm
      obtain ⟨cur, hcx, _⟩ := own_blk NR5a.out.own1 hx
      exact Blk.ne_ hcx GKB (by decide) hm), (NR5a.out.own2.stored j (Value.pointer (some ⟨l, 0, none⟩))).1, NR5a.out.ge⟩)
    have ON6 := Lib.hid (show Only (ids p ⟨P1, d1, some ⟨gk, 0, none⟩, d2⟩) w11 ((w3a.setCell ⟨g3a, j, none⟩ (Value.pointer (some ⟨e.b, 0, none⟩))).setCell ⟨gk, j, none⟩ (Value.pointer (some ⟨l, 0, none⟩))) from ON5a.out.trans' (only_cell (w3a.setCell ⟨g3a, j, none⟩ (Value.pointer (some ⟨e.b, 0, none⟩))) gk j (Value.pointer (some ⟨l, 0, none⟩))) (fun b hb hm => by
      simp only [List.mem_singleton] at hm
      subst hm
      exact mem_ids.2 (.inr (.inr ⟨_, rfl, rfl⟩))))
    have ONEb := Lib.hid (show ∀ u ∈ YS.set j (Value.pointer (some ⟨l, 0, none⟩)), u.oneCell' = true from fun u hu => by
      rcases List.mem_or_eq_of_mem_set hu with h | h
      · exact ONEy.out u h
      · subst h; rfl)
    clear GKB hgkp
    have hcPb := NRb.out.blk.cell 2
    have hfPb := NRb.out.blk.frozen 2
    have hBBb := Lib.hid (show B ≤ (((w3a.setCell ⟨g3a, j, none⟩ (Value.pointer (some ⟨e.b, 0, none⟩))).setCell ⟨gk, j, none⟩ (Value.pointer (some ⟨l, 0, none⟩)))).heap.size from Nat.le_trans NRb.out.ge (Nat.le_of_lt NRb.out.lt))
    go_wp2_with (at_builtin; refine Hid.out ?_)
    delta Hid
    have hz6 : w3a.heap.size = ((w3a.setCell ⟨g3a, j, none⟩ (Value.pointer (some ⟨e.b, 0, none⟩))).setCell ⟨gk, j, none⟩ (Value.pointer (some ⟨l, 0, none⟩))).heap.size := by simp [World.setCell]
    generalize ((w3a.setCell ⟨g3a, j, none⟩ (Value.pointer (some ⟨e.b, 0, none⟩))).setCell ⟨gk, j, none⟩ (Value.pointer (some ⟨l, 0, none⟩))) = w6 at *
    rw [hz6]
    clear hz6
    clear GB3a BP3a hv4a hf4a c3ca hpk hgk hgf
    refine wpList_appT Try.underlying59 nd_info rfl (by omega) rfl (.tmp 138) (.tmp 139) rfl B (.slice (some ⟨gk, 0, none⟩) nk2 d2) nk2 (YS.set j (Value.pointer (some ⟨l, 0, none⟩))) rfl (NRb.out.own2.alloc _) (some ⟨(w6).heap.size, 0, none⟩) 1 1 [.pointer none] rfl (src_blk (Blk.new _ _ _) rfl) (fun u hu => by simp only [List.mem_singleton] at hu; subst hu; rfl) (by omega) (by omega) (by have := hBBb.out; simp; omega) ?_
    intro v1b w1b own1b gr1b ob1b
    obtain ⟨A3b, c3b, rfl, _, _⟩ := own_slice own1b
    obtain ⟨g3b, rfl⟩ := own_some' own1b (by omega)
    have BP1b := Lib.hid ((NRb.out.blk.alloc (.cells #[.pointer none] 45)).same (gr1b.block p (by have := NRb.out.lt; simp; omega) (fun e => own_neB NRb.out.own2 NRb.out.blk (by decide) e.symm)))
    have OO1b := Lib.hid (own_only (S := (Value.slice (some ⟨gk, 0, none⟩) nk2 d2).ownBlock.toList) (NRb.out.own1.alloc (.cells #[.pointer none] 45)) (grown_only gr1b (fun k hk => by rw [hk]; simp)) (fun x hx hm => by
      obtain ⟨cur, hcx, _⟩ := own_blk NRb.out.own1 hx
      have hm' : (Value.slice (some ⟨gk, 0, none⟩) nk2 d2).ownBlock = some x.block := by simpa using hm
      obtain ⟨y, hy, hyb⟩ := ownBlock_slice hm'
      obtain ⟨cur2, hcy, _⟩ := own_blk NRb.out.own2 hy
      exact Blk.ne_ hcx hcy (by decide) hyb.symm))
    have ON1b := Lib.hid (show Only (ids p ⟨some ⟨g3a, 0, none⟩, c3a, some ⟨gk, 0, none⟩, d2⟩) (w6) w1b from ((Only.refl _ _).alloc (.cells #[.pointer none] 45)).trans (grown_only gr1b (fun k hk => mem_ids.2 (.inr (.inr (ownBlock_slice hk))))))
    have FRb := Lib.hid (show Fresh (w6) ⟨some ⟨g3a, 0, none⟩, c3a, some ⟨gk, 0, none⟩, d2⟩ ⟨some ⟨g3a, 0, none⟩, c3a, some ⟨g3b, 0, none⟩, c3b⟩ from ⟨fun x hx => .inl ⟨x, hx, rfl⟩, fun x hx => by
      injection hx with hx
      subst hx
      rcases ob1b with e | e
      · exact .inl (ownBlock_slice e.symm)
      · right
        simp only [Value.ownBlock, Option.some.injEq] at e
        simp at e
        simp only
        omega⟩)
    have hp1b := BP1b.out.cell 2
    have hp1fb := BP1b.out.frozen 2
    have OW1b := Lib.hid own1b
    clear own1b gr1b ob1b hcPb hfPb
    have BP2b := Lib.hid (BP1b.out.set_ 2 (.slice (some ⟨g3b, 0, none⟩) (nk2 + 1) c3b))
    have ON2b := Lib.hid (ON1b.out.setCell (p := ⟨p, 2, none⟩) (.inl (mem_ids.2 (.inl rfl))) (.slice (some ⟨g3b, 0, none⟩) (nk2 + 1) c3b))
    have OW2b := Lib.hid (own_only OW1b.out (only_cell w1b p 2 (.slice (some ⟨g3b, 0, none⟩) (nk2 + 1) c3b)) (fun x hx hm => by
      simp only [List.mem_singleton] at hm
      obtain ⟨cur, hcx, _⟩ := own_blk OW1b.out hx
      exact Blk.ne_ hcx BP1b.out (by decide) hm))
    have OO2b := Lib.hid (own_only OO1b.out (only_cell w1b p 2 (.slice (some ⟨g3b, 0, none⟩) (nk2 + 1) c3b)) (fun x hx hm => by
      simp only [List.mem_singleton] at hm
      obtain ⟨cur, hcx, _⟩ := own_blk OO1b.out hx
      exact Blk.ne_ hcx BP1b.out (by decide) hm))
    obtain ⟨Lb, hLb, hBgb, hncb, hcmb, hLcb, hLtb⟩ := own_list OW2b.out rfl
    have HLb := Lib.hid hLb
    have HLCb := Lib.hid hLcb
    have HLTb := Lib.hid hLtb
    have HCMb := Lib.hid hcmb
    have XLb := Lib.hid NRb.out.own2.1
    have LTb := Lib.hid (show Lb.take nk2 = (YS.set j (Value.pointer (some ⟨l, 0, none⟩))) by
      have e := HLTb.out
      have e2 : Lb.take nk2 = (Lb.take (nk2 + 1)).take nk2 := by rw [List.take_take]; congr 1; omega
      rw [e2, e]
      exact List.take_left' (by have := XLb.out; omega))
    clear hLb hLcb hLtb hcmb
    have hgpb : g3b ≠ p := Blk.ne_ (show Blk _ g3b 45 Lb.toArray from HLb.out) BP2b.out (by decide)
    have hnc1b : (nk2 : Int) + 1 ≤ (c3b : Int) := by omega
    have hnjb : ¬ c3b = (j + 1) := by omega
    obtain ⟨Db, hDb⟩ : ∃ D : Option Addr, (if c3b = j + 2 then some ⟨g3b, 0, none⟩ else some ⟨g3b, j + 2, none⟩) = D := ⟨_, rfl⟩
    have HDb := Lib.hid hDb
    have ELb := Lib.hid (show ((Lb.take nk2).drop (j + 1)).length = Nat.min (nk2 - j) (nk2 - (j + 1)) by have := HLCb.out; simp only [List.length_drop, List.length_take]; show _ = min _ _; omega)
    have EFb := Lib.hid (show j + 2 + ((Lb.take nk2).drop (j + 1)).length ≤ Lb.length by have := HLCb.out; simp only [List.length_drop, List.length_take]; omega)
    have E1b := Lib.hid (show ∀ v ∈ (Lb.take nk2).drop (j + 1), v.oneCell' = true from fun v hv => by rw [LTb.out] at hv; exact ONEb.out v (List.mem_of_mem_drop hv))
    have c2b := (BP2b.out.cell 2).trans (setIf_get _ _ _ (by simp))
    go_wp2_with fail
    have ESb := Lib.hid (show ∀ q v, ((Lb.take nk2).drop (j + 1))[q]? = some v → (w1b.setCell ⟨p, 2, none⟩ (.slice (some ⟨g3b, 0, none⟩) (nk2 + 1) c3b)).cell? ((⟨g3b, (j + 1), none⟩ : Addr).add q) = some v from fun q v hv => by
      rw [List.getElem?_drop, List.getElem?_take] at hv
      split at hv
      · have e1 : ((⟨g3b, (j + 1), none⟩ : Addr).add q) = ⟨g3b, (j + 1) + q, none⟩ := by unfold Addr.add; split <;> simp_all
        rw [e1, Blk.cell (show Blk _ g3b _ _ from HLb.out)]
        simpa using hv
      · cases hv)
    clear hp1b hp1fb
    generalize w1b.setCell ⟨p, 2, none⟩ (.slice (some ⟨g3b, 0, none⟩) (nk2 + 1) c3b) = w2b at *
    have K := Lib.hid c2b
    go_region_held3 (fun w' => w'.cell? ⟨p, 2, none⟩ = some (.slice (some ⟨g3b, 0, none⟩) (nk2 + 1) c3b)) (exact K.out)
      (first
        | (refine step_copyO rfl (.tmp 149) (.tmp 156) 59 59 rfl 45 Try.underlying59 ptr_info2 Db (some ⟨g3b, (j + 1), none⟩) _ _ _ _ rfl rfl g3b (j + 2) Lb 45 HLb.out ((Lb.take nk2).drop (j + 1)) (ELb.out) (fun h0 => ⟨by rw [← HDb.out, if_neg (by have := ELb.out; have e : Nat.min (nk2 - j) (nk2 - (j + 1)) = min (nk2 - j) (nk2 - (j + 1)) := rfl; omega)], _, rfl, ESb.out⟩) (EFb.out) (E1b.out) ?_
           intro w3b hg3b on3b
           have BP3b := Lib.hid ((Blk.drew BP2b.out).only on3b.out (by simpa using hgpb.symm))
           have K := Lib.hid ((BP3b.out.cell 2).trans (setIf_get _ _ _ (by simp)))))
    obtain ⟨L4b, hL4b⟩ : ∃ L4, L4 = splice Lb (j + 2) ((Lb.take nk2).drop (j + 1)) := ⟨_, rfl⟩
    have LEb := Lib.hid (show (L4b.set (j + 1) (Value.pointer (some ⟨r, 0, none⟩))).take (nk2 + 1) = ((YS.set j (Value.pointer (some ⟨l, 0, none⟩)))).insertIdx (j + 1) (Value.pointer (some ⟨r, 0, none⟩)) by rw [hL4b, ← LTb.out]; exact splice_insert Lb nk2 (j + 1) _ (by omega) (by have := HLCb.out; omega))
    have LC4b := Lib.hid (show L4b.length = c3b by rw [hL4b, length_splice _ _ _ EFb.out]; exact HLCb.out)
    have GB3b := Lib.hid (show Blk w3b g3b 45 L4b.toArray from by rw [hL4b]; exact hg3b.out)
    have OG3b := Lib.hid (show Only [g3b] w2b w3b from (Only.refl [g3b] w2b).drew.trans on3b.out)
    have ON3b := Lib.hid (show Only (ids p ⟨some ⟨g3a, 0, none⟩, c3a, some ⟨gk, 0, none⟩, d2⟩) (w6) w3b from ON2b.out.trans' OG3b.out (fun b hb hm => by
      simp only [List.mem_singleton] at hm
      subst hm
      rcases FRb.out.2 _ rfl with h | h
      · exact mem_ids.2 (.inr (.inr h))
      · simp only at h; omega))
    clear hL4b hg3b on3b EFb ESb ELb E1b hDb HDb
    obtain ⟨v4b, hv4b⟩ : ∃ v, w3b.cell? ⟨g3b, (j + 1), none⟩ = some v := ⟨L4b.toArray[(j + 1)]'(by have := LC4b.out; simp; omega), by rw [GB3b.out.cell]; exact Array.getElem?_eq_getElem _⟩
    have hf4b := GB3b.out.frozen (j + 1)
    have c3cb : w3b.cell? ⟨p, 2, none⟩ = some (.slice (some ⟨g3b, 0, none⟩) (nk2 + 1) c3b) := (BP3b.out.cell 2).trans (setIf_get _ _ _ (by simp))
    have OO4b := Lib.hid (own_only (own_only OO2b.out OG3b.out (fun x hx hm => by
      simp only [List.mem_singleton] at hm
      obtain ⟨cur, hcx, _⟩ := own_blk OO2b.out hx
      exact Blk.ne_ hcx (show Blk w2b g3b 45 Lb.toArray from HLb.out) (by decide) hm)) (only_cell w3b g3b (j + 1) (Value.pointer (some ⟨r, 0, none⟩))) (fun x hx hm => by
      simp only [List.mem_singleton] at hm
      obtain ⟨cur, hcx, _⟩ := own_blk OO2b.out hx
      exact Blk.ne_ hcx (show Blk w2b g3b 45 Lb.toArray from HLb.out) (by decide) hm))
    have OE4b := Lib.hid (list_own (L := L4b.set (j + 1) (Value.pointer (some ⟨r, 0, none⟩))) (by have := GB3b.out.set_ (j + 1) (Value.pointer (some ⟨r, 0, none⟩)); unfold Blk at this; simpa using this) hBgb (by omega) HCMb.out (by simpa using LC4b.out) LEb.out)
    have NR5b := Lib.hid (show NdRaw (w3b.setCell ⟨g3b, (j + 1), none⟩ (Value.pointer (some ⟨r, 0, none⟩))) B p q.par ⟨some ⟨g3a, 0, none⟩, c3a, some ⟨g3b, 0, none⟩, c3b⟩ (ne + 1) (nk2 + 1) (XS.insertIdx j (Value.pointer (some ⟨e.b, 0, none⟩))) (((YS.set j (Value.pointer (some ⟨l, 0, none⟩)))).insertIdx (j + 1) (Value.pointer (some ⟨r, 0, none⟩))) from ⟨by simpa using BP3b.out.far (p := ⟨g3b, (j + 1), none⟩) (fun e => hgpb e.symm) (Value.pointer (some ⟨r, 0, none⟩)), OO4b.out, OE4b.out, NRb.out.ge⟩)
    have ON5b := Lib.hid (show Only (ids p ⟨some ⟨g3a, 0, none⟩, c3a, some ⟨gk, 0, none⟩, d2⟩) (w6) (w3b.setCell ⟨g3b, (j + 1), none⟩ (Value.pointer (some ⟨r, 0, none⟩))) from ON2b.out.trans' (OG3b.out.setCell (p := ⟨g3b, (j + 1), none⟩) (.inl (by simp)) (Value.pointer (some ⟨r, 0, none⟩))) (fun b hb hm => by
      simp only [List.mem_singleton] at hm
      subst hm
      rcases FRb.out.2 _ rfl with h | h
      · exact mem_ids.2 (.inr (.inr h))
      · simp only at h; omega))
    clear OO4b OE4b OO2b OG3b BP2b ON2b HLb LEb LC4b HLCb HLTb HCMb LTb XLb ON1b OO1b BP1b OW1b OW2b
    go_wp2_with fail
    clear GB3b BP3b hv4b hf4b c3cb
    have exs : (XS.insertIdx j (Value.pointer (some ⟨e.b, 0, none⟩))) = enRow (eL ++ e :: eR) := by
      rw [← HXS.out, HQE.out, ← HJ.out, HLN.out]
      exact ins_row eL eR e
    have eys : ((YS.set j (Value.pointer (some ⟨l, 0, none⟩))).insertIdx (j + 1) (Value.pointer (some ⟨r, 0, none⟩))) = ndRow (kL ++ l :: r :: kR) := by
      rw [← HYS.out, HKS.out, ← HJ.out]
      exact ins_row2 kL kR x l r
    have en1 : (eL ++ e :: eR).length = ne + 1 := by rw [← HNE.out, HQE.out]; simp; omega
    have en2 : (kL ++ l :: r :: kR).length = nk2 + 1 := by rw [← HNK.out, HKS.out]; simp; omega
    have ON7 : Only (ids p ⟨P1, d1, some ⟨gk, 0, none⟩, d2⟩) w11 (w3b.setCell ⟨g3b, (j + 1), none⟩ (Value.pointer (some ⟨r, 0, none⟩))) := ON6.out.trans' ON5b.out (fun b hb hm => by
      rcases mem_ids.1 hm with h | ⟨y, hy, h⟩ | ⟨y, hy, h⟩
      · exact mem_ids.2 (.inl h)
      · simp only at hy
        injection hy with hy
        subst hy h
        rcases FRa.out.1 _ rfl with h | h
        · exact mem_ids.2 (.inr (.inl h))
        · simp only at h hb; omega
      · simp only at hy
        injection hy with hy
        subst hy h
        exact mem_ids.2 (.inr (.inr ⟨_, rfl, rfl⟩)))
    have NR7 := NR5b.out
    rw [exs, eys] at NR7
    have s12 := (HS11.out.put HQ5.out (w' := w3b.setCell ⟨g3b, (j + 1), none⟩ (Value.pointer (some ⟨r, 0, none⟩))) (by rw [HPA.out]; exact ON7) (d' := ⟨q.par, eL ++ e :: eR, kL ++ l :: r :: kR, q.lv⟩) (a' := ⟨some ⟨g3a, 0, none⟩, c3a, some ⟨g3b, 0, none⟩, c3b⟩) (by show NdRaw _ _ _ _ _ (eL ++ e :: eR).length (kL ++ l :: r :: kR).length _ _; rw [en1, en2]; exact NR7)
      (by rw [HPA.out]; exact ⟨FRa.out.1, fun y hy => by
        rcases FRb.out.2 y hy with h | h
        · exact .inl h
        · exact .inr (Nat.le_trans ON6.out.size h)⟩)
      (fun e' he' => by
        simp only [List.mem_append, List.mem_cons] at he'
        rcases he' with h | h | h
        · exact .inl (by rw [HQE.out]; simp [h])
        · subst h
          exact .inr ⟨HEK11.out.1.only ON7 (by rw [← HPA.out]; exact (HS11.out.nd p q HQ5.out).not_ids HEK11.out.1 (by decide) (by decide) (by decide)), HEK11.out.2⟩
        · exact .inl (by rw [HQE.out]; simp [h]))).drop x
    have HPL : p ≠ l := fun e' => by have := HV10.out.l0; rw [← e', HQ.out] at this; cases this
    have HPR : p ≠ r := fun e' => by have := HV10.out.r0; rw [← e', HQ.out] at this; cases this
    have σp : upd (upd σ5 p (some ⟨q.par, eL ++ e :: eR, kL ++ l :: r :: kR, q.lv⟩)) x none p = some ⟨q.par, eL ++ e :: eR, kL ++ l :: r :: kR, q.lv⟩ := by rw [upd_ne _ _ HPX.out, upd_at]
    have σo : ∀ j, j ≠ p → j ≠ x → upd (upd σ5 p (some ⟨q.par, eL ++ e :: eR, kL ++ l :: r :: kR, q.lv⟩)) x none j = σ5 j := fun j h1 h2 => by rw [upd_ne _ _ h2, upd_ne _ _ h1]
    have T0 := split_two (σ' := upd (upd σ5 p (some ⟨q.par, eL ++ e :: eR, kL ++ l :: r :: kR, q.lv⟩)) x none) SS.out HH.out HQ.out HES.out HK.out.1 HK.out.2 HKS.out HQE.out HLN.out HV10.out.l0 HV10.out.r0 HV10.out.lr
      (by rw [σo l (fun e' => HPL e'.symm) NX1.out.symm]; exact HV10.out.l_) (by rw [σo r (fun e' => HPR e'.symm) NX3.out.symm]; exact HV10.out.r_) σp (upd_at _ _ _)
      (fun g hg gd hgd => by
        have hgx : g ≠ x := fun e => SS.out.not_own HH.out (by rw [HK.out.1, ← e]; simp [hg])
        rw [σo g (HPK.out g (.inl hg)) hgx]; exact HV10.out.gA g hg gd hgd)
      (fun g hg gd hgd => by
        have hgx : g ≠ x := fun e => SS.out.not_own HH.out (by rw [HK.out.1, ← e]; simp [hg])
        rw [σo g (HPK.out g (.inr hg)) hgx]; exact HV10.out.gB g hg gd hgd)
      (fun j h1 h2 h3 h4 h5 h6 => by rw [σo j h1 h2]; exact HV10.out.off j h3 h4 h5 h6)
    have T := T0.1
    have hdl := SS.out.kidOf HQ.out (by rw [HKS.out]; simp) HH.out
    have hlev : ∀ r', upd (upd σ5 p (some ⟨q.par, eL ++ e :: eR, kL ++ l :: r :: kR, q.lv⟩)) x none rt = some r' → r'.lv ≤ q.lv + lvn := by
      intro r' hr'
      obtain ⟨r0, hr0, hr0p⟩ := SS.out.root
      have hb := HLV.out r0 hr0
      by_cases h1 : rt = p
      · subst h1; rw [σp] at hr'; injection hr' with hr'; subst hr'; simp only; omega
      · have h2 : rt ≠ x := fun e' => by rw [e', HH.out] at hr0; injection hr0 with hr0; subst hr0; rw [HDP.out] at hr0p; cases hr0p
        rw [σo rt h1 h2] at hr'
        have h3 : σ5 rt = σ rt := HV10.out.off rt (fun e' => by have := HV10.out.l0; rw [← e', hr0] at this; cases this) (fun e' => by have := HV10.out.r0; rw [← e', hr0] at this; cases this)
          (fun hm => by have h4 := SS.out.kidOf HH.out (by rw [HK.out.1]; simp [hm]) hr0; rw [hr0p] at h4; cases h4.1) (fun hm => by have h4 := SS.out.kidOf HH.out (by rw [HK.out.1]; simp [hm]) hr0; rw [hr0p] at h4; cases h4.1)
        rw [h3, hr0] at hr'; injection hr' with hr'; subst hr'; omega
    have hfit : FitX (upd (upd σ5 p (some ⟨q.par, eL ++ e :: eR, kL ++ l :: r :: kR, q.lv⟩)) x none) H.m rt p := by
      intro j' e' hj' hne
      have hM := HM.out
      have hN := HN.out
      have hNM := HNM.out
      have hM3 := HM3.out
      by_cases h2 : j' = x
      · subst h2; rw [upd_at] at hj'; cases hj'
      rw [σo j' hne h2] at hj'
      by_cases h3 : j' = l
      · subst h3; rw [HV10.out.l_] at hj'; injection hj' with hj'; subst hj'
        refine ⟨?_, fun _ => ?_, ?_⟩ <;> simp only [List.length_take] <;> omega
      by_cases h4 : j' = r
      · subst h4; rw [HV10.out.r_] at hj'; injection hj' with hj'; subst hj'
        refine ⟨?_, fun _ => ?_, ?_⟩ <;> simp only [List.length_drop] <;> omega
      rcases HV10.out.inv hKall.out hj' with h | h | ⟨e0, h, he0⟩
      · exact absurd h h3
      · exact absurd h h4
      · have := HF.out j' e0 h h2
        exact ⟨by rw [he0]; exact this.1, fun hh => by rw [he0]; exact this.2.1 hh, by rw [he0]; exact this.2.2⟩
    have hlen1 : ((⟨q.par, eL ++ e :: eR, kL ++ l :: r :: kR, q.lv⟩ : ND).es.length : Int) ≤ H.m := by simp only; rw [en1]; have := HFP.out.1; have := HNE.out; omega
    have hlen2 : p ≠ rt → (H.m + 1) / 2 - 1 ≤ ((⟨q.par, eL ++ e :: eR, kL ++ l :: r :: kR, q.lv⟩ : ND).es.length : Int) := fun hh => by simp only; rw [en1]; have := HFP.out.2.1 hh; have := HNE.out; omega
    have hlen3 : 1 ≤ (⟨q.par, eL ++ e :: eR, kL ++ l :: r :: kR, q.lv⟩ : ND).es.length := by simp only; rw [en1]; omega
    have C := HIH.out _ B H o _ _ p rt ⟨q.par, eL ++ e :: eR, kL ++ l :: r :: kR, q.lv⟩ s12 HO.out HM3.out HR.out T.2.2 σp hlev hfit hlen1 hlen2 hlen3 (by rw [T.2.1]; exact HAS.out)
    refine C.mono ?_
    rintro e9 w9 ⟨rfl, σ2, α2, rt2, s2, S2, k2, f2, b2, ab2⟩
    have FIN := Lib.hid (show SplitPost w B H o σ rt x (.returned (.tuple #[])) w9 from ⟨rfl, σ2, α2, rt2, s2, S2, k2.trans T.2.1, f2, (HB11.out.trans (ON7.below (by rw [← HPA.out]; exact fun b hb => ((HS11.out.nd p q HQ5.out).ids_ b hb).1) HS11.out.hB)).trans b2, fun c ac => by
      have hN0 := HN.out
      have hN1 := HNM.out
      have hM0 := HM.out
      obtain ⟨c', h1, h2⟩ := T0.2 H.m c (by omega) (by unfold midOf; rw [List.length_take]; omega) ac
      rw [h2]; exact ab2 c' h1⟩)
    clear C s12 T σo σp hlev hfit hlen1 hlen2 hlen3 s2 S2 k2 f2 b2 NR7 ON7 exs eys en1 en2
    go_wp2_with fail
    go_end0
    exact FIN.out
end Go.Proofs.Ytgakapigpiaoiaa.Bt
