import Derived.Test.YtgakapigpiaoiaaBtSplitN
import Derived.Test.YtgakapigpiaoiaaBtInsT
import Derived.Test.YtgakapigpiaoiaaBtPures
import Derived.LaidEqlPtr
namespace Go.Proofs.Ytgakapigpiaoiaa.Bt
open Go.RowKit Go.Proofs.Ytgakapigpiaoiaa
theorem NdRaw.drewN {w : World} {B i : Nat} {p : Option Nat} {a : Arr} {n1 n2 : Nat} {xs ys : List Value} (h : NdRaw w B i p a n1 n2 xs ys) (m : Nat) : NdRaw (w.drewN m) B i p a n1 n2 xs ys := ⟨h.blk, h.own1, h.own2, h.ge⟩
theorem btNode_size : (Try.prog.info? 61).map (fun i => i.size) = some 3 := by kernel_rfl
theorem btPtr_same (w : World) (a : Addr) : (binOp .eql 45 (.pointer (some a)) (.pointer (some a))).run Try.prog w = .ok (.bool true) w := by
  obtain ⟨j, hj, _⟩ := Option.map_eq_some_iff.1 btNode_size
  exact run_eql_ptr_same w a Try.underlying45 hj
theorem btPtr_other (w : World) {i j : Nat} (h : i ≠ j) {ca cb : Array Value} {ta tb : TypeId} (hi : Blk w i ta ca) (hj : Blk w j tb cb) :
    (binOp .eql 45 (.pointer (some ⟨i, 0, none⟩)) (.pointer (some ⟨j, 0, none⟩))).run Try.prog w = .ok (.bool false) w := by
  obtain ⟨x, hx, hs⟩ := Option.map_eq_some_iff.1 btNode_size
  exact run_eql_ptr_other w Try.underlying45 hx (by rw [hs]; decide) (fun e => h (by injection e)) hi hj
theorem Hd.eta (H : Hd) {rt : Nat} (hr : H.root = some rt) : { H with root := some rt } = H := by
  cases H; simp only at hr; rw [hr]
theorem hit_ex {o : Ord} {k : Int} {es : List En} (h : hit o k es = true) : ∃ e, es[rank o (o.rk k) es]? = some e ∧ o.rk e.k = o.rk k := by
  unfold hit at h
  cases hc : es[rank o (o.rk k) es]? with
  | none => rw [hc] at h; cases h
  | some e => rw [hc] at h; exact ⟨e, rfl, by simpa using h⟩
theorem hit_no {o : Ord} {k : Int} {es : List En} (h : hit o k es = false) : ∀ e, es[rank o (o.rk k) es]? = some e → o.rk e.k ≠ o.rk k := by
  intro e he hk
  rw [hit_at he hk] at h; cases h
theorem FitX.fit {σ : Store} {m : Int} {rt x : Nat} {d : ND} (f : FitX σ m rt x) (h : σ x = some d) (hx : fitN m rt x d) : Fit σ m rt := by
  intro j e hj
  by_cases hjx : j = x
  · subst hjx; rw [h] at hj; injection hj with hj; subst hj; exact hx
  · exact f j e hj hjx
set_option maxHeartbeats 2000000 in
set_option maxRecDepth 100000 in
theorem split_ok (n : Nat) : SplitOk n := by
  induction n with
  | zero =>
    intro w B H o σ α x rt d s ho hm hr S h hlv hf hl1 hl2 hl3 hasc
    have hxr : x = rt := by
      cases hp : d.par with
      | none => exact S.top x d h hp
      | some p =>
        exfalso
        obtain ⟨q, hq, _⟩ := S.up x d p h hp
        obtain ⟨r, hr', _⟩ := S.root
        have h1 := (S.kidLv h hp hq).1
        have h2 := S.bd p q r hq hr'
        have h3 := hlv r hr'
        omega
    subst hxr
    by_cases hc : (d.es.length : Int) ≤ H.m - 1
    · have C := Lib.hid (shouldSplit_walk s hm h)
      have hd : decide (H.m - 1 < (d.es.length : Int)) = false := decide_eq_false (by omega)
      rw [hd] at C
      have F := Lib.hid (show ∀ k, SplitPost w B H o σ x x (.returned (.tuple #[])) (w.drewN k) from fun k => ⟨rfl, σ, α, x, by rw [H.eta hr]; exact s.drewN k, S, rfl, hf.fit h ⟨hc, hl2, hl3⟩, Below.drewN' (Below.refl _ _) k, fun c ac => spl_fine S h hc ac⟩)
      clear s h hf S hasc hlv hd
      go_enter Try.func71, Try.ntmps71
      go_wp2_with fail
      refine C.out.mono ?_
      rintro e w1 ⟨rfl, k, rfl⟩
      go_wp2_with fail
      go_end0
      exact F.out k
    · have C := Lib.hid (shouldSplit_walk s hm h)
      have hd : decide (H.m - 1 < (d.es.length : Int)) = true := decide_eq_true (by omega)
      rw [hd] at C
      have CR := Lib.hid (fun k => splitRoot_walk (s.drewN k) hm hr S h (by omega) hf)
      have HH0 := Lib.hid (fun k => ((s.drewN k).hcells).1)
      have HR := Lib.hid hr
      have qs := btPtr_same
      clear s h hf S hasc hlv hd hr
      go_enter Try.func71, Try.ntmps71
      go_wp2_with fail
      refine C.out.mono ?_
      rintro e w1 ⟨rfl, k, rfl⟩
      have hh := HH0.out k
      rw [HR.out] at hh
      simp only [ptr, Option.map_some] at hh
      have CK := Lib.hid (CR.out k)
      clear HH0 CR
      have BK := Lib.hid (Below.drewN' (Below.refl B w) k)
      generalize w.drewN k = w2 at *
      go_wp2_with fail
      refine CK.out.mono ?_
      rintro e w3 ⟨rfl, σ2, α2, nr, s2, S2, k2, f2, b2, ab2⟩
      have F := Lib.hid (show SplitPost w B H o σ x x (.returned (.tuple #[])) w3 from ⟨rfl, σ2, α2, nr, s2, S2, k2, f2, BK.out.trans b2, ab2⟩)
      clear s2 S2 k2 f2 b2 CK BK
      go_wp2_with fail
      go_end0
      exact F.out
  | succ n ih =>
    intro w B H o σ α x rt d s ho hm hr S h hlv hf hl1 hl2 hl3 hasc
    by_cases hc : (d.es.length : Int) ≤ H.m - 1
    · have C := Lib.hid (shouldSplit_walk s hm h)
      have hd : decide (H.m - 1 < (d.es.length : Int)) = false := decide_eq_false (by omega)
      rw [hd] at C
      have F := Lib.hid (show ∀ k, SplitPost w B H o σ rt x (.returned (.tuple #[])) (w.drewN k) from fun k => ⟨rfl, σ, α, rt, by rw [H.eta hr]; exact s.drewN k, S, rfl, hf.fit h ⟨hc, hl2, hl3⟩, Below.drewN' (Below.refl _ _) k, fun c ac => spl_fine S h hc ac⟩)
      clear s h hf S hasc hlv hd ih
      go_enter Try.func71, Try.ntmps71
      go_wp2_with fail
      refine C.out.mono ?_
      rintro e w1 ⟨rfl, k, rfl⟩
      go_wp2_with fail
      go_end0
      exact F.out k
    · have C := Lib.hid (shouldSplit_walk s hm h)
      have hd : decide (H.m - 1 < (d.es.length : Int)) = true := decide_eq_true (by omega)
      rw [hd] at C
      by_cases hx : x = rt
      · subst hx
        have CR := Lib.hid (fun k => splitRoot_walk (s.drewN k) hm hr S h (by omega) hf)
        have HH0 := Lib.hid (fun k => ((s.drewN k).hcells).1)
        have HR := Lib.hid hr
        have qs := btPtr_same
        clear s h hf S hasc hlv hd hr ih
        go_enter Try.func71, Try.ntmps71
        go_wp2_with fail
        refine C.out.mono ?_
        rintro e w1 ⟨rfl, k, rfl⟩
        have hh := HH0.out k
        rw [HR.out] at hh
        simp only [ptr, Option.map_some] at hh
        have CK := Lib.hid (CR.out k)
        clear HH0 CR
        have BK := Lib.hid (Below.drewN' (Below.refl B w) k)
        generalize w.drewN k = w2 at *
        go_wp2_with fail
        refine CK.out.mono ?_
        rintro e w3 ⟨rfl, σ2, α2, nr, s2, S2, k2, f2, b2, ab2⟩
        have F := Lib.hid (show SplitPost w B H o σ x x (.returned (.tuple #[])) w3 from ⟨rfl, σ2, α2, nr, s2, S2, k2, f2, BK.out.trans b2, ab2⟩)
        clear s2 S2 k2 f2 b2 CK BK
        go_wp2_with fail
        go_end0
        exact F.out
      · obtain ⟨p, hp⟩ : ∃ p, d.par = some p := by
          cases hp : d.par with
          | none => exact absurd (S.top x d h hp) hx
          | some p => exact ⟨p, rfl⟩
        obtain ⟨q, hq, hmq⟩ := S.up x d p h hp
        obtain ⟨kL, kR, eL, eR, hks, hqe, hln⟩ := kid_split S hq hmq
        obtain ⟨r, hrr, _⟩ := S.root
        have CR := Lib.hid (fun k => splitNonRoot_walk n ih (s.drewN k) ho hm hr S h hp hq hlv (by omega) hf hasc hks hqe hln)
        have HH0 := Lib.hid (fun k => ((s.drewN k).hcells).1)
        have qs := Lib.hid (fun k => btPtr_other (w.drewN k) hx (i := x) (j := rt) ((s.drewN k).nd x d h).blk ((s.drewN k).nd rt r hrr).blk)
        have HR := Lib.hid hr
        clear s h hf S hasc hlv hd hr ih hp hq hmq hks hqe hln hrr
        go_enter Try.func71, Try.ntmps71
        go_wp2_with fail
        refine C.out.mono ?_
        rintro e w1 ⟨rfl, k, rfl⟩
        have hh := HH0.out k
        rw [HR.out] at hh
        simp only [ptr, Option.map_some] at hh
        have CK := Lib.hid (CR.out k)
        have qk := qs.out k
        clear HH0 CR qs
        have BK := Lib.hid (Below.drewN' (Below.refl B w) k)
        generalize w.drewN k = w2 at *
        go_wp2_with fail
        refine CK.out.mono ?_
        rintro e w3 ⟨rfl, σ2, α2, nr, s2, S2, k2, f2, b2, ab2⟩
        have F := Lib.hid (show SplitPost w B H o σ rt x (.returned (.tuple #[])) w3 from ⟨rfl, σ2, α2, nr, s2, S2, k2, f2, BK.out.trans b2, ab2⟩)
        clear s2 S2 k2 f2 b2 CK BK
        go_wp2_with fail
        go_end0
        exact F.out
def InsPost (w : World) (B : Nat) (H : Hd) (o : Ord) (σ : Store) (rt x n : Nat) (k v : Int) (e : Ending) (w' : World) : Prop := e = .returned (.bool (look o k (nk σ rt)).isNone) ∧ ∃ σ' α' rt', St w' B { H with root := some rt' } o σ' α' ∧ Shp σ' rt' ∧ nk σ' rt' = ins o k v (nk σ rt) ∧ Fit σ' H.m rt' ∧ Below B w w' ∧ ∀ c, APath σ rt x c → abs σ' rt' = insT H.m o k v n c (abs σ x)
set_option maxHeartbeats 4000000 in
set_option maxRecDepth 100000 in
theorem insLeaf_walk {w : World} {B x rt : Nat} {H : Hd} {o : Ord} {σ : Store} {α : Nat → Arr} {d : ND} {en : En} (s : St w B H o σ α) (ho : o.fine) (hm : 3 ≤ H.m ∧ H.m ≤ 64) (hr : H.root = some rt) (S : Shp σ rt) (h : σ x = some d) (hf : Fit σ H.m rt) (hasc : Asc o (nk σ rt)) (hen : EnAt w B en) (hh1 : Here σ rt x o en.k) (h0 : d.lv = 0) :
    Calls Try.prog 65 #[.pointer (some ⟨H.tb, 0, none⟩), .pointer (some ⟨x, 0, none⟩), (Value.pointer (some ⟨en.b, 0, none⟩))] w (InsPost w B H o σ rt x 1 en.k en.v) := by
  have hfx := hf x d h
  have hn6 : d.es.length ≤ 64 := by have := hfx.1; omega
  cases hh : hit o en.k d.es with
  | true =>
    obtain ⟨e, he, hke⟩ := hit_ex hh
    obtain ⟨g, hg1, hg2, hg3, _⟩ := s.ent h he
    obtain ⟨S', k', l'⟩ := hit_set S hasc h he hke.symm
    have n0 : NdRaw w B x d.par (α x) d.es.length d.ks.length (enRow d.es) (ndRow d.ks) := s.nd x d h
    have cs := search_walk s ho h (S.ascE h hasc) (by omega) en.k
    rw [hh] at cs
    have c1 := (s.cells h).2.1
    rw [hg1] at c1
    have fg := hg3 (rank o (o.rk en.k) d.es)
    have rl : rank o (o.rk en.k) d.es < d.es.length := (List.getElem?_eq_some_iff.1 he).1
    have e0 : w.cell? ⟨en.b, 0, none⟩ = some (.iface 3 (.int .i64 en.k)) := hen.1.cell 0
    have FIN := Lib.hid (fun m : Nat => show InsPost w B H o σ rt x 1 en.k en.v (.returned (.bool false)) ((w.drewN m).setCell ⟨g, rank o (o.rk en.k) d.es, none⟩ (Value.pointer (some ⟨en.b, 0, none⟩))) from by
      have s1 := s.drewN m
      have n1 : NdRaw (w.drewN m) B x d.par (α x) d.es.length d.ks.length (enRow d.es) (ndRow d.ks) := n0.drewN m
      have own := n1.own1
      rw [hg1] at own
      have st := own.stored (rank o (o.rk en.k) d.es) (Value.pointer (some ⟨en.b, 0, none⟩))
      have hgx : g ≠ x := by
        obtain ⟨cur, hc, _⟩ := own_blk n1.own1 hg1
        exact Blk.ne_ hc n1.blk (by decide)
      have on : Only (ids x (α x)) (w.drewN m) ((w.drewN m).setCell ⟨g, rank o (o.rk en.k) d.es, none⟩ (Value.pointer (some ⟨en.b, 0, none⟩))) := (Only.refl _ _).setCell (p := ⟨g, rank o (o.rk en.k) d.es, none⟩) (.inl (mem_ids.2 (.inr (.inl ⟨_, hg1, rfl⟩)))) _
      have own2 := own_only n1.own2 (only_cell (w.drewN m) g (rank o (o.rk en.k) d.es) (Value.pointer (some ⟨en.b, 0, none⟩))) (fun y hy hm => by
        simp only [List.mem_singleton] at hm
        obtain ⟨cur, hc, _⟩ := own_blk n1.own2 hy
        obtain ⟨cur2, hc2, _⟩ := own_blk n1.own1 hg1
        exact Blk.ne_ hc hc2 (by decide) hm)
      have s2 := s1.put h on (d' := { d with es := d.es.set (rank o (o.rk en.k) d.es) en }) (a' := α x)
        ⟨by simpa using n1.blk.far (p := ⟨g, rank o (o.rk en.k) d.es, none⟩) (fun e => hgx e.symm) (Value.pointer (some ⟨en.b, 0, none⟩)), by have := st.1; rw [← hg1] at this; simpa [enRow, enV] using this, own2, n1.ge⟩ (Fresh.refl _ _) (fun e' he' => by
          rcases List.mem_or_eq_of_mem_set he' with h1 | h1
          · exact .inl h1
          · subst h1; exact .inr ⟨(show Blk (w.drewN m) _ _ _ from hen.1).only on (n1.not_ids hen.1 (by decide) (by decide) (by decide)), hen.2⟩)
      refine ⟨by rw [l']; rfl, _, _, rt, by rw [H.eta hr]; exact s2, S', k', ?_, (Below.drewN' (Below.refl _ _) m).setCell (by obtain ⟨cur, _, hb, _⟩ := own_blk n1.own1 hg1; exact hb) _, fun c ac => insT_hit S h hh 0 ac⟩
      intro j e' hj
      by_cases hjx : j = x
      · subst hjx
        rw [upd_at] at hj
        injection hj with hj
        subst hj
        have := hf j d h
        simpa [fitN] using this
      · rw [upd_ne _ _ hjx] at hj
        exact hf j e' hj)
    have CS := Lib.hid cs
    have i1 : (0 : Int) ≤ ((rank o (o.rk en.k) d.es : Nat) : Int) := by omega
    have i2 : ((rank o (o.rk en.k) d.es : Nat) : Int) < (d.es.length : Int) := by omega
    generalize rank o (o.rk en.k) d.es = j at *
    have HG2 := Lib.hid hg2
    have HC1 := Lib.hid c1
    have HFG := Lib.hid fg
    clear cs hg2 hh1 h0 hfx hg3 S' k' l' n0 he hke s h S hasc hf c1 fg hen hg1 rl hh ho hm hr
    generalize d.es.length = n at *
    generalize (α x).c1 = c at *
    go_enter Try.func65, Try.ntmps65
    go_wp2_with fail
    refine CS.out.mono ?_
    rintro e9 w9 ⟨rfl, m, rfl⟩
    have FM := Lib.hid (FIN.out m)
    have hg2 : (w.drewN m).cell? ⟨g, j, none⟩ = some (.pointer (some ⟨e.b, 0, none⟩)) := HG2.out
    have hc1 : (w.drewN m).cell? ⟨x, 1, none⟩ = some (.slice (some ⟨g, 0, none⟩) n c) := HC1.out
    have hfg : (w.drewN m).frozen? ⟨g, j, none⟩ = false := HFG.out
    clear FIN CS HG2 HC1 HFG e0
    generalize w.drewN m = w2 at *
    go_wp2_with fail
    go_ret
    exact FM.out
  | false =>
    have hno := hit_no hh
    obtain ⟨S', k', l'⟩ := miss_ins S hasc h h0 hh1 hno
    have AB := Lib.hid (fun (c : List Fr) (ac : APath σ rt x c) => insT_leaf (m := H.m) S h h0 hh 0 ac)
    have cs := search_walk s ho h (S.ascE h hasc) (by omega) en.k
    rw [hh] at cs
    have rl := rank_le o (o.rk en.k) d.es
    have e0 : w.cell? ⟨en.b, 0, none⟩ = some (.iface 3 (.int .i64 en.k)) := hen.1.cell 0
    obtain ⟨P1, d1, P2, d2, hpa⟩ := St.arr α x
    have NR0 : NdRaw w B x d.par (α x) d.es.length d.ks.length (enRow d.es) (ndRow d.ks) := s.nd x d h
    rw [hpa] at NR0
    have ONEa := Lib.hid (enRow_one d.es)
    have FIN := Lib.hid (fun (m : Nat) (w2 : World) (gx cx : _) (nr : NdRaw w2 B x d.par ⟨some ⟨gx, 0, none⟩, cx, P2, d2⟩ (d.es.length + 1) d.ks.length ((enRow d.es).insertIdx (rank o (o.rk en.k) d.es) (Value.pointer (some ⟨en.b, 0, none⟩))) (ndRow d.ks)) (on : Only (ids x ⟨P1, d1, P2, d2⟩) (w.drewN m) w2) (fr : Fresh (w.drewN m) ⟨P1, d1, P2, d2⟩ ⟨some ⟨gx, 0, none⟩, cx, P2, d2⟩) => show ∃ α', St w2 B H o (upd σ x (some { d with es := d.es.insertIdx (rank o (o.rk en.k) d.es) en })) α' ∧ Below B w w2 from by
      have s1 := s.drewN m
      have el : (d.es.insertIdx (rank o (o.rk en.k) d.es) en).length = d.es.length + 1 := List.length_insertIdx_of_le_length rl en
      have er : (enRow d.es).insertIdx (rank o (o.rk en.k) d.es) (Value.pointer (some ⟨en.b, 0, none⟩)) = enRow (d.es.insertIdx (rank o (o.rk en.k) d.es) en) := by
        rw [insertIdx_take _ _ _ rl, insertIdx_take _ _ _ (by rw [enRow_length]; exact rl)]
        simp [enRow, enV]
      refine ⟨_, s1.put h (by rw [hpa]; exact on) (d' := { d with es := d.es.insertIdx (rank o (o.rk en.k) d.es) en }) (a' := ⟨some ⟨gx, 0, none⟩, cx, P2, d2⟩) (by show NdRaw _ _ _ _ _ (d.es.insertIdx (rank o (o.rk en.k) d.es) en).length _ _ _; rw [el, ← er]; exact nr) (by rw [hpa]; exact fr) (fun e' he' => ?_), (Below.drewN' (Below.refl _ _) m).trans (on.below (fun b hb => (NR0.ids_ b hb).1) s.hB)⟩
      rw [insertIdx_take _ _ _ rl] at he'
      simp only [List.mem_append, List.mem_cons] at he'
      rcases he' with h1 | h1 | h1
      · exact .inl (List.mem_of_mem_take h1)
      · subst h1; exact .inr ⟨(show Blk (w.drewN m) _ _ _ from hen.1).only on (NR0.not_ids hen.1 (by decide) (by decide) (by decide)), hen.2⟩
      · exact .inl (List.mem_of_mem_drop h1))
    have CSP := Lib.hid (fun (w2 : World) (α2 : Nat → Arr) (s2 : St w2 B H o (upd σ x (some { d with es := d.es.insertIdx (rank o (o.rk en.k) d.es) en })) α2) => by
      obtain ⟨r, hrr, _⟩ := S'.root
      have el : (d.es.insertIdx (rank o (o.rk en.k) d.es) en).length = d.es.length + 1 := List.length_insertIdx_of_le_length rl en
      exact split_ok r.lv w2 B H o _ α2 x rt { d with es := d.es.insertIdx (rank o (o.rk en.k) d.es) en } s2 ho hm hr S' (upd_at _ _ _) (fun r' hr' => by rw [hrr] at hr'; injection hr' with hr'; subst hr'; omega) (fun j e hj hjx => hf j e (by rw [upd_ne _ _ hjx] at hj; exact hj)) (by simp only; rw [el]; have := hfx.1; omega) (fun hx => by simp only; rw [el]; have := hfx.2.1 hx; omega) (by simp only; rw [el]; omega) (by rw [k']; exact hasc.ins))
    have LL := Lib.hid l'
    have KK := Lib.hid k'
    have CS := Lib.hid cs
    have NRx := Lib.hid NR0
    have HB := Lib.hid s.hB
    clear s S h hf hasc hen hh1 hh hno S' k' l' cs hfx NR0 hpa hr ho hm h0
    have hj0 : (0 : Int) ≤ ((rank o (o.rk en.k) d.es : Nat) : Int) := by omega
    generalize upd σ x (some { d with es := d.es.insertIdx (rank o (o.rk en.k) d.es) en }) = σ2 at *
    generalize rank o (o.rk en.k) d.es = j at *
    generalize d.es.length = n at *
    generalize d.ks.length = n2 at *
    generalize enRow d.es = XS at *
    generalize ndRow d.ks = YS at *
    have hjl : (j : Int) ≤ (n : Int) := by omega
    have hjl2 : (j : Int) ≤ (n : Int) + 1 := by omega
    have hjl3 : (j : Int) + 1 ≤ (n : Int) + 1 := by omega
    have hj1 : (0 : Int) ≤ (j : Int) + 1 := by omega
    have hn0 : (n : Int) ≤ 64 := by omega
    have hjlt : (j : Int) < (n : Int) + 1 := by omega
    have hw1 : IntKind.i64.wrap ((j : Int) + 1) = (j : Int) + 1 := IntWalk.i64_in _ (by omega)
    have hw2 : ((j : Int) + 1).toNat = j + 1 := by omega
    go_enter Try.func65, Try.ntmps65
    go_wp2_with fail
    refine CS.out.mono ?_
    rintro e9 w9 ⟨rfl, m, rfl⟩
    have NRa := Lib.hid (show NdRaw (w.drewN m) B x d.par ⟨P1, d1, P2, d2⟩ n n2 XS YS from NRx.out.drewN m)
    have FM := Lib.hid (FIN.out m)
    clear FIN NRx CS e0
    generalize w.drewN m = w1 at *
    have hcPa := NRa.out.blk.cell 1
    have hfPa := NRa.out.blk.frozen 1
    have hBBa := Lib.hid (show B ≤ (w1).heap.size from Nat.le_trans NRa.out.ge (Nat.le_of_lt NRa.out.lt))
    go_wp2_with (at_builtin; refine Hid.out ?_)
    delta Hid
    refine wpList_appT Try.underlying58 en_info rfl (by omega) rfl (.tmp 31) (.tmp 32) rfl B (.slice P1 n d1) n XS rfl (NRa.out.own1.alloc _) (some ⟨(w1).heap.size, 0, none⟩) 1 1 [.pointer none] rfl (src_blk (Blk.new _ _ _) rfl) (fun u hu => by simp only [List.mem_singleton] at hu; subst hu; rfl) (by omega) (by omega) (by have := hBBa.out; simp; omega) ?_
    intro v1a w1a own1a gr1a ob1a
    obtain ⟨A3a, c3a, rfl, _, _⟩ := own_slice own1a
    obtain ⟨g3a, rfl⟩ := own_some' own1a (by omega)
    have BP1a := Lib.hid ((NRa.out.blk.alloc (.cells #[.pointer none] 62)).same (gr1a.block x (by have := NRa.out.lt; simp; omega) (fun e => own_neB NRa.out.own1 NRa.out.blk (by decide) e.symm)))
    have OO1a := Lib.hid (own_only (S := (Value.slice P1 n d1).ownBlock.toList) (NRa.out.own2.alloc (.cells #[.pointer none] 62)) (grown_only gr1a (fun k hk => by rw [hk]; simp)) (fun x hx hm => by
      obtain ⟨cur, hcx, _⟩ := own_blk NRa.out.own2 hx
      have hm' : (Value.slice P1 n d1).ownBlock = some x.block := by simpa using hm
      obtain ⟨y, hy, hyb⟩ := ownBlock_slice hm'
      obtain ⟨cur2, hcy, _⟩ := own_blk NRa.out.own1 hy
      exact Blk.ne_ hcx hcy (by decide) hyb.symm))
    have ON1a := Lib.hid (show Only (ids x ⟨P1, d1, P2, d2⟩) (w1) w1a from ((Only.refl _ _).alloc (.cells #[.pointer none] 62)).trans (grown_only gr1a (fun k hk => mem_ids.2 (.inr (.inl (ownBlock_slice hk))))))
    have FRa := Lib.hid (show Fresh (w1) ⟨P1, d1, P2, d2⟩ ⟨some ⟨g3a, 0, none⟩, c3a, P2, d2⟩ from ⟨fun x hx => by
      injection hx with hx
      subst hx
      rcases ob1a with e | e
      · exact .inl (ownBlock_slice e.symm)
      · right
        simp only [Value.ownBlock, Option.some.injEq] at e
        simp at e
        simp only
        omega, fun x hx => .inl ⟨x, hx, rfl⟩⟩)
    have hp1a := BP1a.out.cell 1
    have hp1fa := BP1a.out.frozen 1
    have OW1a := Lib.hid own1a
    clear own1a gr1a ob1a hcPa hfPa
    have BP2a := Lib.hid (BP1a.out.set_ 1 (.slice (some ⟨g3a, 0, none⟩) (n + 1) c3a))
    have ON2a := Lib.hid (ON1a.out.setCell (p := ⟨x, 1, none⟩) (.inl (mem_ids.2 (.inl rfl))) (.slice (some ⟨g3a, 0, none⟩) (n + 1) c3a))
    have OW2a := Lib.hid (own_only OW1a.out (only_cell w1a x 1 (.slice (some ⟨g3a, 0, none⟩) (n + 1) c3a)) (fun x hx hm => by
      simp only [List.mem_singleton] at hm
      obtain ⟨cur, hcx, _⟩ := own_blk OW1a.out hx
      exact Blk.ne_ hcx BP1a.out (by decide) hm))
    have OO2a := Lib.hid (own_only OO1a.out (only_cell w1a x 1 (.slice (some ⟨g3a, 0, none⟩) (n + 1) c3a)) (fun x hx hm => by
      simp only [List.mem_singleton] at hm
      obtain ⟨cur, hcx, _⟩ := own_blk OO1a.out hx
      exact Blk.ne_ hcx BP1a.out (by decide) hm))
    obtain ⟨La, hLa, hBga, hnca, hcma, hLca, hLta⟩ := own_list OW2a.out rfl
    have HLa := Lib.hid hLa
    have HLCa := Lib.hid hLca
    have HLTa := Lib.hid hLta
    have HCMa := Lib.hid hcma
    have XLa := Lib.hid NRa.out.own1.1
    have LTa := Lib.hid (show La.take n = XS by
      have e := HLTa.out
      have e2 : La.take n = (La.take (n + 1)).take n := by rw [List.take_take]; congr 1; omega
      rw [e2, e]
      exact List.take_left' (by have := XLa.out; omega))
    clear hLa hLca hLta hcma
    have hgpa : g3a ≠ x := Blk.ne_ (show Blk _ g3a 62 La.toArray from HLa.out) BP2a.out (by decide)
    have hnc1a : (n : Int) + 1 ≤ (c3a : Int) := by omega
    have hnja : ¬ c3a = j := by omega
    obtain ⟨Da, hDa⟩ : ∃ D : Option Addr, (if c3a = j + 1 then some ⟨g3a, 0, none⟩ else some ⟨g3a, j + 1, none⟩) = D := ⟨_, rfl⟩
    have HDa := Lib.hid hDa
    have ELa := Lib.hid (show ((La.take n).drop j).length = Nat.min (n + 1 - j) (n - j) by have := HLCa.out; simp only [List.length_drop, List.length_take]; show _ = min _ _; omega)
    have EFa := Lib.hid (show j + 1 + ((La.take n).drop j).length ≤ La.length by have := HLCa.out; simp only [List.length_drop, List.length_take]; omega)
    have E1a := Lib.hid (show ∀ v ∈ (La.take n).drop j, v.oneCell' = true from fun v hv => by rw [LTa.out] at hv; exact ONEa.out v (List.mem_of_mem_drop hv))
    have c2a := (BP2a.out.cell 1).trans (setIf_get _ _ _ (by simp))
    go_wp2_with fail
    have ESa := Lib.hid (show ∀ q v, ((La.take n).drop j)[q]? = some v → (w1a.setCell ⟨x, 1, none⟩ (.slice (some ⟨g3a, 0, none⟩) (n + 1) c3a)).cell? ((⟨g3a, j, none⟩ : Addr).add q) = some v from fun q v hv => by
      rw [List.getElem?_drop, List.getElem?_take] at hv
      split at hv
      · have e1 : ((⟨g3a, j, none⟩ : Addr).add q) = ⟨g3a, j + q, none⟩ := by unfold Addr.add; split <;> simp_all
        rw [e1, Blk.cell (show Blk _ g3a _ _ from HLa.out)]
        simpa using hv
      · cases hv)
    clear hp1a hp1fa
    generalize w1a.setCell ⟨x, 1, none⟩ (.slice (some ⟨g3a, 0, none⟩) (n + 1) c3a) = w2a at *
    have K := Lib.hid c2a
    go_region_held3 (fun w' => w'.cell? ⟨x, 1, none⟩ = some (.slice (some ⟨g3a, 0, none⟩) (n + 1) c3a)) (exact K.out)
      (first
        | (refine step_copyO rfl (.tmp 42) (.tmp 48) 58 58 rfl 62 Try.underlying58 ptr_info1 Da (some ⟨g3a, j, none⟩) _ _ _ _ rfl rfl g3a (j + 1) La 62 HLa.out ((La.take n).drop j) (ELa.out) (fun h0 => ⟨by rw [← HDa.out, if_neg (by have := ELa.out; have e : Nat.min (n + 1 - j) (n - j) = min (n + 1 - j) (n - j) := rfl; omega)], _, rfl, ESa.out⟩) (EFa.out) (E1a.out) ?_
           intro w3a hg3a on3a
           have BP3a := Lib.hid ((Blk.drew BP2a.out).only on3a.out (by simpa using hgpa.symm))
           have K := Lib.hid ((BP3a.out.cell 1).trans (setIf_get _ _ _ (by simp)))))
    obtain ⟨L4a, hL4a⟩ : ∃ L4, L4 = splice La (j + 1) ((La.take n).drop j) := ⟨_, rfl⟩
    have LEa := Lib.hid (show (L4a.set j (Value.pointer (some ⟨en.b, 0, none⟩))).take (n + 1) = (XS).insertIdx j (Value.pointer (some ⟨en.b, 0, none⟩)) by rw [hL4a, ← LTa.out]; exact splice_insert La n j _ (by omega) (by have := HLCa.out; omega))
    have LC4a := Lib.hid (show L4a.length = c3a by rw [hL4a, length_splice _ _ _ EFa.out]; exact HLCa.out)
    have GB3a := Lib.hid (show Blk w3a g3a 62 L4a.toArray from by rw [hL4a]; exact hg3a.out)
    have OG3a := Lib.hid (show Only [g3a] w2a w3a from (Only.refl [g3a] w2a).drew.trans on3a.out)
    have ON3a := Lib.hid (show Only (ids x ⟨P1, d1, P2, d2⟩) (w1) w3a from ON2a.out.trans' OG3a.out (fun b hb hm => by
      simp only [List.mem_singleton] at hm
      subst hm
      rcases FRa.out.1 _ rfl with h | h
      · exact mem_ids.2 (.inr (.inl h))
      · simp only at h; omega))
    clear hL4a hg3a on3a EFa ESa ELa E1a hDa HDa
    obtain ⟨v4a, hv4a⟩ : ∃ v, w3a.cell? ⟨g3a, j, none⟩ = some v := ⟨L4a.toArray[j]'(by have := LC4a.out; simp; omega), by rw [GB3a.out.cell]; exact Array.getElem?_eq_getElem _⟩
    have hf4a := GB3a.out.frozen j
    have c3ca : w3a.cell? ⟨x, 1, none⟩ = some (.slice (some ⟨g3a, 0, none⟩) (n + 1) c3a) := (BP3a.out.cell 1).trans (setIf_get _ _ _ (by simp))
    have OO4a := Lib.hid (own_only (own_only OO2a.out OG3a.out (fun x hx hm => by
      simp only [List.mem_singleton] at hm
      obtain ⟨cur, hcx, _⟩ := own_blk OO2a.out hx
      exact Blk.ne_ hcx (show Blk w2a g3a 62 La.toArray from HLa.out) (by decide) hm)) (only_cell w3a g3a j (Value.pointer (some ⟨en.b, 0, none⟩))) (fun x hx hm => by
      simp only [List.mem_singleton] at hm
      obtain ⟨cur, hcx, _⟩ := own_blk OO2a.out hx
      exact Blk.ne_ hcx (show Blk w2a g3a 62 La.toArray from HLa.out) (by decide) hm))
    have OE4a := Lib.hid (list_own (L := L4a.set j (Value.pointer (some ⟨en.b, 0, none⟩))) (by have := GB3a.out.set_ j (Value.pointer (some ⟨en.b, 0, none⟩)); unfold Blk at this; simpa using this) hBga (by omega) HCMa.out (by simpa using LC4a.out) LEa.out)
    have NR5a := Lib.hid (show NdRaw (w3a.setCell ⟨g3a, j, none⟩ (Value.pointer (some ⟨en.b, 0, none⟩))) B x d.par ⟨some ⟨g3a, 0, none⟩, c3a, P2, d2⟩ (n + 1) n2 ((XS).insertIdx j (Value.pointer (some ⟨en.b, 0, none⟩))) YS from ⟨by simpa using BP3a.out.far (p := ⟨g3a, j, none⟩) (fun e => hgpa e.symm) (Value.pointer (some ⟨en.b, 0, none⟩)), OE4a.out, OO4a.out, NRa.out.ge⟩)
    have ON5a := Lib.hid (show Only (ids x ⟨P1, d1, P2, d2⟩) (w1) (w3a.setCell ⟨g3a, j, none⟩ (Value.pointer (some ⟨en.b, 0, none⟩))) from ON2a.out.trans' (OG3a.out.setCell (p := ⟨g3a, j, none⟩) (.inl (by simp)) (Value.pointer (some ⟨en.b, 0, none⟩))) (fun b hb hm => by
      simp only [List.mem_singleton] at hm
      subst hm
      rcases FRa.out.1 _ rfl with h | h
      · exact mem_ids.2 (.inr (.inl h))
      · simp only at h; omega))
    clear OO4a OE4a OO2a OG3a BP2a ON2a HLa LEa LC4a HLCa HLTa HCMa LTa XLa ON1a OO1a BP1a OW1a OW2a
    go_wp2_with fail
    clear GB3a BP3a hv4a hf4a c3ca
    obtain ⟨α2, s2, b2⟩ := FM.out _ _ _ NR5a.out ON5a.out FRa.out
    have C2 := Lib.hid (CSP.out _ α2 s2)
    have B2 := Lib.hid b2
    clear s2 b2 FM CSP NR5a ON5a FRa NRa
    refine C2.out.mono ?_
    rintro e w3 ⟨rfl, σ3, α3, rt3, s3, S3, k3, f3, b3, ab3⟩
    have F := Lib.hid (show InsPost w B H o σ rt x 1 en.k en.v (.returned (.bool true)) w3 from ⟨by rw [LL.out]; rfl, σ3, α3, rt3, s3, S3, k3.trans KK.out, f3, B2.out.trans b3, fun c ac => (ab3 c (AB.out c ac).1).trans (AB.out c ac).2⟩)
    clear s3 S3 k3 f3 b3 C2 B2
    go_wp2_with fail
    go_ret
    exact F.out
def InsOk (lv : Nat) : Prop := ∀ (w : World) (B x rt : Nat) (H : Hd) (o : Ord) (σ : Store) (α : Nat → Arr) (d : ND) (en : En), St w B H o σ α → o.fine → (3 ≤ H.m ∧ H.m ≤ 64) → H.root = some rt → Shp σ rt → σ x = some d → d.lv = lv → Fit σ H.m rt → Asc o (nk σ rt) → EnAt w B en → Here σ rt x o en.k →
  Calls Try.prog 57 #[.pointer (some ⟨H.tb, 0, none⟩), .pointer (some ⟨x, 0, none⟩), (Value.pointer (some ⟨en.b, 0, none⟩))] w (InsPost w B H o σ rt x (lv + 1) en.k en.v)
set_option maxHeartbeats 4000000 in
set_option maxRecDepth 100000 in
theorem insInner_walk {w : World} {B x rt : Nat} {H : Hd} {o : Ord} {σ : Store} {α : Nat → Arr} {d : ND} {en : En} (s : St w B H o σ α) (ho : o.fine) (hm : 3 ≤ H.m ∧ H.m ≤ 64) (hr : H.root = some rt) (S : Shp σ rt) (h : σ x = some d) (hf : Fit σ H.m rt) (hasc : Asc o (nk σ rt)) (hen : EnAt w B en) (hh1 : Here σ rt x o en.k) {lv : Nat} (h0 : d.lv = lv + 1) (ih : InsOk lv) :
    Calls Try.prog 66 #[.pointer (some ⟨H.tb, 0, none⟩), .pointer (some ⟨x, 0, none⟩), (Value.pointer (some ⟨en.b, 0, none⟩))] w (InsPost w B H o σ rt x (lv + 2) en.k en.v) := by
  have hfx := hf x d h
  have hn6 : d.es.length ≤ 64 := by have := hfx.1; omega
  cases hh : hit o en.k d.es with
  | true =>
    obtain ⟨e, he, hke⟩ := hit_ex hh
    obtain ⟨g, hg1, hg2, hg3, _⟩ := s.ent h he
    obtain ⟨S', k', l'⟩ := hit_set S hasc h he hke.symm
    have n0 : NdRaw w B x d.par (α x) d.es.length d.ks.length (enRow d.es) (ndRow d.ks) := s.nd x d h
    have cs := search_walk s ho h (S.ascE h hasc) (by omega) en.k
    rw [hh] at cs
    have c1 := (s.cells h).2.1
    rw [hg1] at c1
    have fg := hg3 (rank o (o.rk en.k) d.es)
    have rl : rank o (o.rk en.k) d.es < d.es.length := (List.getElem?_eq_some_iff.1 he).1
    have e0 : w.cell? ⟨en.b, 0, none⟩ = some (.iface 3 (.int .i64 en.k)) := hen.1.cell 0
    have FIN := Lib.hid (fun m : Nat => show InsPost w B H o σ rt x (lv + 2) en.k en.v (.returned (.bool false)) ((w.drewN m).setCell ⟨g, rank o (o.rk en.k) d.es, none⟩ (Value.pointer (some ⟨en.b, 0, none⟩))) from by
      have s1 := s.drewN m
      have n1 : NdRaw (w.drewN m) B x d.par (α x) d.es.length d.ks.length (enRow d.es) (ndRow d.ks) := n0.drewN m
      have own := n1.own1
      rw [hg1] at own
      have st := own.stored (rank o (o.rk en.k) d.es) (Value.pointer (some ⟨en.b, 0, none⟩))
      have hgx : g ≠ x := by
        obtain ⟨cur, hc, _⟩ := own_blk n1.own1 hg1
        exact Blk.ne_ hc n1.blk (by decide)
      have on : Only (ids x (α x)) (w.drewN m) ((w.drewN m).setCell ⟨g, rank o (o.rk en.k) d.es, none⟩ (Value.pointer (some ⟨en.b, 0, none⟩))) := (Only.refl _ _).setCell (p := ⟨g, rank o (o.rk en.k) d.es, none⟩) (.inl (mem_ids.2 (.inr (.inl ⟨_, hg1, rfl⟩)))) _
      have own2 := own_only n1.own2 (only_cell (w.drewN m) g (rank o (o.rk en.k) d.es) (Value.pointer (some ⟨en.b, 0, none⟩))) (fun y hy hm => by
        simp only [List.mem_singleton] at hm
        obtain ⟨cur, hc, _⟩ := own_blk n1.own2 hy
        obtain ⟨cur2, hc2, _⟩ := own_blk n1.own1 hg1
        exact Blk.ne_ hc hc2 (by decide) hm)
      have s2 := s1.put h on (d' := { d with es := d.es.set (rank o (o.rk en.k) d.es) en }) (a' := α x)
        ⟨by simpa using n1.blk.far (p := ⟨g, rank o (o.rk en.k) d.es, none⟩) (fun e => hgx e.symm) (Value.pointer (some ⟨en.b, 0, none⟩)), by have := st.1; rw [← hg1] at this; simpa [enRow, enV] using this, own2, n1.ge⟩ (Fresh.refl _ _) (fun e' he' => by
          rcases List.mem_or_eq_of_mem_set he' with h1 | h1
          · exact .inl h1
          · subst h1; exact .inr ⟨(show Blk (w.drewN m) _ _ _ from hen.1).only on (n1.not_ids hen.1 (by decide) (by decide) (by decide)), hen.2⟩)
      refine ⟨by rw [l']; rfl, _, _, rt, by rw [H.eta hr]; exact s2, S', k', ?_, (Below.drewN' (Below.refl _ _) m).setCell (by obtain ⟨cur, _, hb, _⟩ := own_blk n1.own1 hg1; exact hb) _, fun c ac => insT_hit S h hh (lv + 1) ac⟩
      intro j e' hj
      by_cases hjx : j = x
      · subst hjx
        rw [upd_at] at hj
        injection hj with hj
        subst hj
        have := hf j d h
        simpa [fitN] using this
      · rw [upd_ne _ _ hjx] at hj
        exact hf j e' hj)
    have CS := Lib.hid cs
    have i1 : (0 : Int) ≤ ((rank o (o.rk en.k) d.es : Nat) : Int) := by omega
    have i2 : ((rank o (o.rk en.k) d.es : Nat) : Int) < (d.es.length : Int) := by omega
    generalize rank o (o.rk en.k) d.es = j at *
    have HG2 := Lib.hid hg2
    have HC1 := Lib.hid c1
    have HFG := Lib.hid fg
    clear cs hg2 hh1 h0 ih hfx hg3 S' k' l' n0 he hke s h S hasc hf c1 fg hen hg1 rl hh ho hm hr
    generalize d.es.length = n at *
    generalize (α x).c1 = c at *
    go_enter Try.func66, Try.ntmps66
    go_wp2_with fail
    refine CS.out.mono ?_
    rintro e9 w9 ⟨rfl, m, rfl⟩
    have FM := Lib.hid (FIN.out m)
    have hg2 : (w.drewN m).cell? ⟨g, j, none⟩ = some (.pointer (some ⟨e.b, 0, none⟩)) := HG2.out
    have hc1 : (w.drewN m).cell? ⟨x, 1, none⟩ = some (.slice (some ⟨g, 0, none⟩) n c) := HC1.out
    have hfg : (w.drewN m).frozen? ⟨g, j, none⟩ = false := HFG.out
    clear FIN CS HG2 HC1 HFG e0
    generalize w.drewN m = w2 at *
    go_wp2_with fail
    go_ret
    exact FM.out
  | false =>
    have hno := hit_no hh
    have cs := search_walk s ho h (S.ascE h hasc) (by omega) en.k
    rw [hh] at cs
    have rl := rank_le o (o.rk en.k) d.es
    have e0 : w.cell? ⟨en.b, 0, none⟩ = some (.iface 3 (.int .i64 en.k)) := hen.1.cell 0
    have hkl := S.inner x d h (by omega)
    obtain ⟨c, hc⟩ : ∃ c, d.ks[rank o (o.rk en.k) d.es]? = some c := ⟨_, List.getElem?_eq_getElem (by omega)⟩
    obtain ⟨cd, hcd, _, hcl⟩ := S.kid x d c h (List.mem_of_getElem? hc)
    have AB := Lib.hid (fun (cc : List Fr) (ac : APath σ rt x cc) => insT_down (m := H.m) (v := en.v) S h hh hc (lv + 1) ac)
    obtain ⟨g, hg1, hg2, _⟩ := s.kid h hc
    have c2 := (s.cells h).2.2.1
    rw [hg1] at c2
    have CI := Lib.hid (fun m => ih (w.drewN m) B c rt H o σ α cd en (s.drewN m) ho hm hr S hcd (by omega) hf hasc hen (hh1.down S hasc h hc hno))
    have CS := Lib.hid cs
    have HG2 := Lib.hid hg2
    have HC2 := Lib.hid c2
    have i1 : (0 : Int) ≤ ((rank o (o.rk en.k) d.es : Nat) : Int) := by omega
    have i2 : ((rank o (o.rk en.k) d.es : Nat) : Int) < (d.ks.length : Int) := by omega
    clear s S h hf hasc hen hh1 hh hno cs hfx hr ho hm h0 ih hkl hc hcd hcl hg1 hg2 c2 rl
    generalize rank o (o.rk en.k) d.es = j at *
    generalize d.ks.length = n2 at *
    generalize (α x).c2 = cc at *
    go_enter Try.func66, Try.ntmps66
    go_wp2_with fail
    refine CS.out.mono ?_
    rintro e9 w9 ⟨rfl, m, rfl⟩
    have CM := Lib.hid (CI.out m)
    have hg2 : (w.drewN m).cell? ⟨g, j, none⟩ = some (.pointer (some ⟨c, 0, none⟩)) := HG2.out
    have hc2 : (w.drewN m).cell? ⟨x, 2, none⟩ = some (.slice (some ⟨g, 0, none⟩) n2 cc) := HC2.out
    have BK := Lib.hid (Below.drewN' (Below.refl B w) m)
    clear CI CS HG2 HC2 e0
    generalize w.drewN m = w2 at *
    go_wp2_with fail
    refine CM.out.mono ?_
    rintro e w3 ⟨rfl, σ3, α3, rt3, s3, S3, k3, f3, b3, ab3⟩
    have F := Lib.hid (show InsPost w B H o σ rt x (lv + 2) en.k en.v (.returned (.bool (look o en.k (nk σ rt)).isNone)) w3 from ⟨rfl, σ3, α3, rt3, s3, S3, k3, f3, BK.out.trans b3, fun cc ac => by obtain ⟨f, h1, h2⟩ := AB.out cc ac; rw [h2]; exact ab3 _ h1⟩)
    clear s3 S3 k3 f3 b3 CM BK
    generalize (look o en.k (nk σ rt)).isNone = bb at *
    go_wp2_with fail
    go_ret
    exact F.out
theorem insert_ok (lv : Nat) : InsOk lv := by
  induction lv with
  | zero =>
    intro w B x rt H o σ α d en s ho hm hr S h h0 hf hasc hen hh1
    have C := Lib.hid (insLeaf_walk s ho hm hr S h hf hasc hen hh1 h0)
    have CL := Lib.hid (leaf_yes S s h h0 (.pointer (some ⟨H.tb, 0, none⟩)))
    clear s S h hf hasc hen hh1
    go_enter Try.func57, Try.ntmps57
    go_wp2_with fail
    refine CL.out.mono ?_
    rintro e w1 ⟨rfl, rfl⟩
    go_wp2_with fail
    refine C.out.mono ?_
    rintro e w3 ⟨rfl, hp⟩
    have F := Lib.hid (show InsPost w B H o σ rt x 1 en.k en.v (.returned (.bool (look o en.k (nk σ rt)).isNone)) w3 from ⟨rfl, hp⟩)
    clear hp C CL
    generalize (look o en.k (nk σ rt)).isNone = bb at *
    go_wp2_with fail
    go_ret
    exact F.out
  | succ lv ih =>
    intro w B x rt H o σ α d en s ho hm hr S h h0 hf hasc hen hh1
    have C := Lib.hid (insInner_walk s ho hm hr S h hf hasc hen hh1 h0 ih)
    have CL := Lib.hid (leaf_no S s h (by omega) (.pointer (some ⟨H.tb, 0, none⟩)))
    clear s S h hf hasc hen hh1 ih
    go_enter Try.func57, Try.ntmps57
    go_wp2_with fail
    refine CL.out.mono ?_
    rintro e w1 ⟨rfl, rfl⟩
    go_wp2_with fail
    refine C.out.mono ?_
    rintro e w3 ⟨rfl, hp⟩
    have F := Lib.hid (show InsPost w B H o σ rt x (lv + 2) en.k en.v (.returned (.bool (look o en.k (nk σ rt)).isNone)) w3 from ⟨rfl, hp⟩)
    clear hp C CL
    generalize (look o en.k (nk σ rt)).isNone = bb at *
    go_wp2_with fail
    go_ret
    exact F.out
end Go.Proofs.Ytgakapigpiaoiaa.Bt
