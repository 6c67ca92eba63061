/-
  Several texts as one (BtWay, BtDelP, BtItP): each says its own in its remarks.
-/
import Derived.Test.YtgakapigpiaoiaaBtPut
import Derived.Deep.LoopGhost
import Derived.Test.YtgakapigpiaoiaaBtSibs
namespace Go.Proofs.Ytgakapigpiaoiaa.Bt
open Go.RowKit Go.Proofs.Ytgakapigpiaoiaa
inductive LFar (σ : Store) : Nat → Nat → Prop
  | leaf {x : Nat} {d : ND} (h : σ x = some d) (hk : d.ks = []) : LFar σ x x
  | step {x c l : Nat} {d : ND} {ks : List Nat} (h : σ x = some d) (hk : d.ks = c :: ks) (t : LFar σ c l) : LFar σ x l
inductive RFar (σ : Store) : Nat → Nat → Prop
  | leaf {x : Nat} {d : ND} (h : σ x = some d) (hk : d.ks = []) : RFar σ x x
  | step {x c l : Nat} {d : ND} {ks : List Nat} (h : σ x = some d) (hk : d.ks = ks ++ [c]) (t : RFar σ c l) : RFar σ x l
section
variable {w : World} {B x l rt : Nat} {H : Hd} {o : Ord} {σ : Store} {α : Nat → Arr} {d dl : ND}
theorem Shp.lv0 (S : Shp σ rt) (h : σ x = some d) (hk : d.ks = []) : d.lv = 0 := by
  rcases Nat.eq_zero_or_pos d.lv with h0 | h0
  · exact h0
  · have := S.inner x d h h0
    rw [hk] at this
    simp at this
theorem LFar.ctxt (S : Shp σ rt) (f : LFar σ x l) : ∀ L R, Ctxt σ rt x L R → ∃ dl R', σ l = some dl ∧ dl.ks = [] ∧ Ctxt σ rt l L R' := by
  induction f with
  | leaf h hk => exact fun L R c => ⟨_, R, h, hk, c⟩
  | @step x c l d ks h hk t ih =>
    intro L R cx
    have := cx.down S h (i := c) (kL := []) (kR := ks) (eL := []) (eR := d.es) (by rw [hk]; rfl) rfl rfl
    rw [show L ++ rowKvs (nk σ) [] [] = L from by simp [rowKvs]] at this
    exact ih _ _ this
theorem RFar.ctxt (S : Shp σ rt) (f : RFar σ x l) : ∀ L R, Ctxt σ rt x L R → ∃ dl L', σ l = some dl ∧ dl.ks = [] ∧ Ctxt σ rt l L' R := by
  induction f with
  | leaf h hk => exact fun L R c => ⟨_, L, h, hk, c⟩
  | @step x c l d ks h hk t ih =>
    intro L R cx
    have hlen : ks.length = d.es.length := by
      have h1 := S.inner x d h (by
        obtain ⟨_, _, _, h2⟩ := S.kid x d c h (by rw [hk]; simp)
        omega)
      rw [hk] at h1
      simpa using h1
    have := cx.down S h (i := c) (kL := ks) (kR := []) (eL := d.es) (eR := []) hk (by simp) hlen
    simp only [rowR, List.nil_append] at this
    exact ih _ _ this
theorem RFar.off (S : Shp σ rt) (f : RFar σ x l) : ∀ i di, σ i = some di → (∀ dx, σ x = some dx → dx.lv < di.lv) → ∃ dl, σ l = some dl ∧ dl.lv < di.lv ∧ (dl.par = some i → l = x) := by
  induction f with
  | @leaf x d h hk => exact fun i di hi hx => ⟨d, h, hx d h, fun _ => rfl⟩
  | @step x c l d ks h hk t ih =>
    intro i di hi hx
    obtain ⟨dc, h1, h2, h3⟩ := S.kid x d c h (by rw [hk]; simp)
    have hl := hx d h
    obtain ⟨dl, g1, g2, g3⟩ := ih i di hi (fun dx hdx => by rw [h1] at hdx; injection hdx with hdx; subst hdx; omega)
    refine ⟨dl, g1, g2, fun hp => ?_⟩
    have := g3 hp
    subst this
    rw [h1] at g1; injection g1 with g1; subst g1
    rw [h2] at hp; injection hp with hp
    subst hp
    rw [h] at hi; injection hi with hi; subst hi
    omega
set_option maxHeartbeats 1000000 in
set_option maxRecDepth 100000 in
theorem left_walk (s : St w B H o σ α) (S : Shp σ rt) (hz : H.size ≠ 0) (h : σ x = some d) :
    Calls Try.prog 70 #[.pointer (some ⟨H.tb, 0, none⟩), .pointer (some ⟨x, 0, none⟩)] w fun e w' => ∃ l, e = .returned (.pointer (some ⟨l, 0, none⟩)) ∧ LFar σ x l ∧ w = w' := by
  have ce := empty_walk s
  rw [show (H.size == 0) = false from by simp [hz]] at ce
  have CE := Lib.hid ce
  have HS := Lib.hid s
  have SS := Lib.hid S
  have HH := Lib.hid h
  clear s S h ce hz
  go_enter Try.func70, Try.ntmps70
  go_wp2_with fail
  refine CE.out.mono ?_
  rintro e w1 ⟨rfl, rfl⟩
  clear CE
  go_wp2_with fail
  go_loopg [5] (d.lv + 1) (fun g p wr => ∃ c dc, p = .pointer (some ⟨c, 0, none⟩) ∧ wr = w ∧ σ c = some dc ∧ dc.lv < g ∧ ∀ l, LFar σ c l → LFar σ x l)
  case atStart => exact ⟨x, d, rfl, rfl, HH.out, by omega, fun _ hl => hl⟩
  case round =>
    clear HH
    obtain ⟨c, dc, rfl, rfl, hc, hg, hl⟩ := hrel
    have HC := Lib.hid hc
    have HL := Lib.hid hl
    rcases Nat.eq_zero_or_pos dc.lv with h0 | h0
    · have CL := Lib.hid (leaf_yes SS.out HS.out hc h0 (.pointer (some ⟨H.tb, 0, none⟩)))
      have HK := Lib.hid (SS.out.leaf c dc hc h0)
      clear hc hl h0 hg
      go_wp2_with fail
      refine CL.out.mono ?_
      rintro e w1 ⟨rfl, rfl⟩
      clear CL
      go_wp2_with fail
      go_ret
      exact ⟨c, rfl, HL.out c (.leaf HC.out HK.out), rfl⟩
    · have CL := Lib.hid (leaf_no SS.out HS.out hc h0 (.pointer (some ⟨H.tb, 0, none⟩)))
      have hlen := SS.out.inner c dc hc h0
      obtain ⟨k, ks, hk⟩ : ∃ k ks, dc.ks = k :: ks := by
        cases hh : dc.ks with
        | nil => rw [hh] at hlen; simp at hlen
        | cons k ks => exact ⟨k, ks, rfl⟩
      obtain ⟨kd, hkd, _, hkl⟩ := SS.out.kid c dc k hc (by rw [hk]; simp)
      obtain ⟨gk, hgk, hgkc, _⟩ := HS.out.kid hc (j := 0) (k := k) (by rw [hk]; rfl)
      have hc2 := (HS.out.cells hc).2.2.1
      rw [hgk] at hc2
      have ik0 : (0 : Int) < (dc.ks.length : Int) := by omega
      have ik1 : 0 < dc.ks.length := by omega
      have ik2 : ¬ dc.ks.length = 0 := by omega
      generalize dc.ks.length = nk0 at *
      have HK := Lib.hid hk
      have HKD := Lib.hid hkd
      have HG := Lib.hid hg
      have HKL := Lib.hid hkl
      clear hc hl h0 hg hlen hk hkd hkl hgk
      go_wp2_with fail
      refine CL.out.mono ?_
      rintro e w1 ⟨rfl, rfl⟩
      clear CL
      go_wp2_with fail
      go_roundg dc.lv
      case measure => exact HG.out
      case rel => exact ⟨k, kd, rfl, rfl, HKD.out, by have h1 := HKL.out; omega, fun l t => HL.out l (.step HC.out HK.out t)⟩
set_option maxHeartbeats 1000000 in
set_option maxRecDepth 100000 in
theorem right_walk (s : St w B H o σ α) (S : Shp σ rt) (hz : H.size ≠ 0) (hn : ∀ i di, σ i = some di → di.es.length ≤ 1000) (h : σ x = some d) :
    Calls Try.prog 69 #[.pointer (some ⟨H.tb, 0, none⟩), .pointer (some ⟨x, 0, none⟩)] w fun e w' => ∃ l, e = .returned (.pointer (some ⟨l, 0, none⟩)) ∧ RFar σ x l ∧ ∃ n, w' = w.drewN n := by
  have ce := empty_walk s
  rw [show (H.size == 0) = false from by simp [hz]] at ce
  have CE := Lib.hid ce
  have HS := Lib.hid s
  have SS := Lib.hid S
  have HH := Lib.hid h
  have HN := Lib.hid hn
  clear s S h ce hz hn
  go_enter Try.func69, Try.ntmps69
  go_wp2_with fail
  refine CE.out.mono ?_
  rintro e w1 ⟨rfl, rfl⟩
  clear CE
  go_wp2_with fail
  go_loopg [5] (d.lv + 1) (fun g p wr => ∃ c dc, p = .pointer (some ⟨c, 0, none⟩) ∧ (∃ n, wr = w.drewN n) ∧ σ c = some dc ∧ dc.lv < g ∧ ∀ l, RFar σ c l → RFar σ x l)
  case atStart => exact ⟨x, d, rfl, ⟨0, rfl⟩, HH.out, by omega, fun _ hl => hl⟩
  case round =>
    clear HH
    obtain ⟨c, dc, rfl, ⟨n, rfl⟩, hc, hg, hl⟩ := hrel
    have HC := Lib.hid hc
    have HL := Lib.hid hl
    have s2 := HS.out.drewN n
    rcases Nat.eq_zero_or_pos dc.lv with h0 | h0
    · have CL := Lib.hid (leaf_yes SS.out s2 hc h0 (.pointer (some ⟨H.tb, 0, none⟩)))
      have HK := Lib.hid (SS.out.leaf c dc hc h0)
      clear hc hl h0 hg s2
      go_wp2_with fail
      refine CL.out.mono ?_
      rintro e w1 ⟨rfl, rfl⟩
      clear CL
      go_wp2_with fail
      go_ret
      exact ⟨c, rfl, HL.out c (.leaf HC.out HK.out), n, rfl⟩
    · have CL := Lib.hid (leaf_no SS.out s2 hc h0 (.pointer (some ⟨H.tb, 0, none⟩)))
      have hlen := SS.out.inner c dc hc h0
      have hes := HN.out c dc hc
      obtain ⟨ks, k, hk⟩ : ∃ ks k, dc.ks = ks ++ [k] := by
        rcases List.eq_nil_or_concat dc.ks with hh | ⟨ks, k, hh⟩
        · rw [hh] at hlen; simp at hlen
        · exact ⟨ks, k, by simpa using hh⟩
      obtain ⟨kd, hkd, _, hkl⟩ := SS.out.kid c dc k hc (by rw [hk]; simp)
      obtain ⟨gk, hgk, hgkc, _⟩ := s2.kid hc (j := dc.ks.length - 1) (k := k) (by rw [hk]; simp)
      have hc2 := (s2.cells hc).2.2.1
      rw [hgk] at hc2
      have ik3 : (1 : Int) ≤ (dc.ks.length : Int) := by omega
      have ik4 : 1 ≤ dc.ks.length := by omega
      have ik5 : (0 : Int) ≤ (dc.ks.length : Int) - 1 := by omega
      have ik6 : (dc.ks.length : Int) - 1 < (dc.ks.length : Int) := by omega
      have ik7 : ((dc.ks.length : Int) - 1).toNat = dc.ks.length - 1 := by omega
      have ik8 : IntKind.i64.wrap ((dc.ks.length : Int) - 1) = (dc.ks.length : Int) - 1 := IntWalk.i64_in _ (by omega)
      generalize dc.ks.length = nk0 at *
      have HK := Lib.hid hk
      have HKD := Lib.hid hkd
      have HG := Lib.hid hg
      have HKL := Lib.hid hkl
      have HW := Lib.hid (show ∃ m, w.drewN n = w.drewN m from ⟨n, rfl⟩)
      clear hc hl h0 hg hlen hk hkd hkl hgk hes s2
      generalize w.drewN n = w2 at *
      go_wp2_with fail
      refine CL.out.mono ?_
      rintro e w1 ⟨rfl, rfl⟩
      clear CL
      go_wp2_with fail
      go_quiet (fail)
      go_wp2_with fail
      go_roundg dc.lv
      case measure => exact HG.out
      case rel =>
        refine ⟨k, kd, rfl, ?_, HKD.out, by have h1 := HKL.out; omega, fun l t => HL.out l (.step HC.out HK.out t)⟩
        obtain ⟨m, rfl⟩ := HW.out
        exact ⟨_, World.drewN_drewN _ _ _⟩
end
end Go.Proofs.Ytgakapigpiaoiaa.Bt

namespace Go.Proofs.Ytgakapigpiaoiaa.Bt
theorem asc_uniq {o : Ord} {A B A' B' : KV} {u : Int × Int} (h : Asc o (A ++ u :: B)) (e : A ++ u :: B = A' ++ u :: B') : A = A' ∧ B = B' := by
  induction A generalizing A' with
  | nil =>
    cases A' with
    | nil => simp only [List.nil_append, List.cons.injEq, true_and] at e; exact ⟨rfl, e⟩
    | cons a A' =>
      simp only [List.nil_append, List.cons_append, List.cons.injEq] at e
      obtain ⟨rfl, rfl⟩ := e
      have := (List.pairwise_cons.1 h).1 u (by simp)
      omega
  | cons a A ih =>
    cases A' with
    | nil =>
      simp only [List.nil_append, List.cons_append, List.cons.injEq] at e
      obtain ⟨rfl, rfl⟩ := e
      have := (List.pairwise_cons.1 h).1 a (by simp)
      omega
    | cons a' A' =>
      simp only [List.cons_append, List.cons.injEq] at e
      obtain ⟨rfl, e⟩ := e
      obtain ⟨h1, h2⟩ := ih (List.pairwise_cons.1 h).2 e
      exact ⟨by rw [h1], h2⟩
section
variable {σ σ' : Store} {rt i l c n : Nat} {d dl : ND} {o : Ord} {e g : En} {ea : List En}
theorem del_leaf (S : Shp σ rt) (h : σ i = some d) (h0 : d.lv = 0) (ha : Asc o (nk σ rt)) (he : d.es[n]? = some e) (h1 : σ' i = some { d with es := d.es.eraseIdx n }) (ho : ∀ j, j ≠ i → σ' j = σ j) :
    Shp σ' rt ∧ nk σ' rt = del o e.k (nk σ rt) ∧ Asc o (nk σ' rt) ∧ Sits σ' i o (o.rk e.k) := by
  have T := set_es (es := d.es.eraseIdx n) S h (.inl h0) h1 ho
  obtain ⟨L, R, cx⟩ := Ctxt.ex S h
  have e1 := cx.now
  rw [nk_leaf S h h0, getElem?_split he] at e1
  have e2 := cx.then h T.2.1
  rw [T.2.2, S.leaf i d h h0, List.eraseIdx_eq_take_drop_succ] at e2
  simp only [rowKvs, List.map_append, List.map_cons] at e1 e2
  have e1' : nk σ rt = (L ++ (d.es.take n).map En.kv) ++ (e.k, e.v) :: ((d.es.drop (n + 1)).map En.kv ++ R) := by rw [e1]; simp [En.kv]
  have e2' : nk σ' rt = (L ++ (d.es.take n).map En.kv) ++ ((d.es.drop (n + 1)).map En.kv ++ R) := by rw [e2]; simp
  have ha' := ha
  rw [e1'] at ha'
  have ed : nk σ' rt = del o e.k (nk σ rt) := by rw [e1', e2', del_here (asc_mid.1 ha').2.2.1 rfl]
  refine ⟨T.1, ed, by rw [ed]; exact ha.del, ?_⟩
  have st := sits_of (u := e.kv) S ha h (by rw [nk_leaf S h h0]; exact List.mem_map.2 ⟨e, List.mem_of_getElem? he, rfl⟩)
  intro d' p q kL kR eL eR hd hp hq hk he' hl
  rw [h1] at hd; injection hd with hd; subst hd
  have hpi : p ≠ i := by
    rintro rfl
    obtain ⟨q0, hq0, _⟩ := S.up p d p h hp
    have := (S.kidLv h hp hq0).1
    rw [h] at hq0; injection hq0 with hq0; subst hq0
    omega
  rw [ho p hpi] at hq
  exact st d p q kL kR eL eR h hp hq hk he' hl
theorem del_inner (S : Shp σ rt) (h : σ i = some d) (ha : Asc o (nk σ rt)) (he : d.es[n]? = some e) (hc : d.ks[n]? = some c) (f : RFar σ c l) (hl : σ l = some dl) (hf : dl.es = ea ++ [g])
    (h1 : σ' i = some { d with es := d.es.set n g }) (h2 : σ' l = some { dl with es := ea }) (ho : ∀ j, j ≠ i → j ≠ l → σ' j = σ j) :
    dl.lv = 0 ∧ l ≠ i ∧ Shp σ' rt ∧ nk σ' rt = del o e.k (nk σ rt) ∧ Asc o (nk σ' rt) ∧ Sits σ' l o (o.rk g.k) ∧ nk σ' rt ≠ [] := by
  obtain ⟨cd, hcd, hcp, hcl⟩ := S.kid i d c h (List.mem_of_getElem? hc)
  have hd0 := S.inner i d h (by omega)
  have hn : n < d.es.length := (List.getElem?_eq_some_iff.1 he).1
  obtain ⟨L1, R1, cx⟩ := Ctxt.ex S h
  have cd1 := cx.down S h (getElem?_split hc) (List.take_append_drop n d.es).symm (by simp only [List.length_take]; omega)
  have hdr : d.es.drop n = e :: d.es.drop (n + 1) := by
    obtain ⟨h3, rfl⟩ := List.getElem?_eq_some_iff.1 he
    rw [List.getElem_cons_drop]
  rw [hdr] at cd1
  simp only [rowR, List.cons_append] at cd1
  obtain ⟨dl', L', hl', hlk, cl⟩ := f.ctxt S _ _ cd1
  rw [hl] at hl'; injection hl' with hl'; subst hl'
  obtain ⟨dl', hl', hlv, hpar⟩ := f.off S i d h (fun dx hdx => by rw [hcd] at hdx; injection hdx with hdx; subst hdx; omega)
  rw [hl] at hl'; injection hl' with hl'; subst hl'
  have hl0 := S.lv0 hl hlk
  have hli : l ≠ i := by
    rintro rfl
    rw [hl] at h; injection h with h; subst h; omega
  generalize hR2 : rowKvs (nk σ) (d.ks.drop (n + 1)) (d.es.drop (n + 1)) ++ R1 = R2 at cl
  obtain ⟨σa, hσa⟩ : ∃ σa, σa = upd σ l (some { dl with es := ea }) := ⟨_, rfl⟩
  have ha1 : σa l = some { dl with es := ea } := by rw [hσa]; exact upd_at _ _ _
  have hao : ∀ j, j ≠ l → σa j = σ j := fun j hj => by rw [hσa]; exact upd_ne _ _ hj
  have T := set_es (es := ea) S hl (.inl hl0) ha1 hao
  have e1 := cl.now
  rw [nk_leaf S hl hl0, hf] at e1
  have e2 := cl.then hl T.2.1
  rw [T.2.2, hlk] at e2
  simp only [rowKvs, List.map_append, List.map_cons, List.map_nil] at e1 e2
  have e1' : nk σ rt = (L' ++ ea.map En.kv ++ [g.kv]) ++ (e.k, e.v) :: R2 := by rw [e1]; simp [En.kv]
  have e2' : nk σa rt = (L' ++ ea.map En.kv) ++ e.kv :: R2 := by rw [e2]; simp
  have ha' := ha
  rw [e1'] at ha'
  have haa : Asc o (nk σa rt) := by
    rw [e2']
    rw [e1'] at ha
    refine ha.sublist ?_
    rw [List.append_assoc (L' ++ ea.map En.kv)]
    exact (List.Sublist.refl _).append (List.sublist_append_right _ _)
  have hai : σa i = some d := by rw [hao i hli.symm]; exact h
  have T2 := set_es (σ' := σ') (es := d.es.set n g) T.1 hai (.inr (by simp)) h1 (fun j hj => by
    by_cases hjl : j = l
    · subst hjl; rw [h2, ha1]
    · rw [ho j hj hjl, hao j hjl])
  obtain ⟨LA, RA, cxa⟩ := Ctxt.ex T.1 hai
  have e3 := cxa.now
  have e4 := cxa.then hai T2.2.1
  rw [nk_spot T.1 hai (getElem?_split he)] at e3
  have hset : d.es.set n g = d.es.take n ++ g :: d.es.drop (n + 1) := List.set_eq_take_append_cons_drop.trans (if_pos hn)
  have hcut : rowKvs (nk σa) d.ks (d.es.set n g) = rowKvs (nk σa) (d.ks.take (n + 1)) (d.es.take n) ++ g.kv :: rowKvs (nk σa) (d.ks.drop (n + 1)) (d.es.drop (n + 1)) := by
    rw [hset, ← rowKvs_cut]
    · rw [List.take_append_drop]
    · left
      simp only [List.length_take]; omega
  rw [T2.2.2, hcut] at e4
  have htl : (d.es.take n).length = n := by simp only [List.length_take]; omega
  rw [htl] at e3
  have e5 : nk σa rt = (LA ++ rowKvs (nk σa) (d.ks.take (n + 1)) (d.es.take n)) ++ e.kv :: (rowKvs (nk σa) (d.ks.drop (n + 1)) (d.es.drop (n + 1)) ++ RA) := by rw [e3]; simp
  have hu := asc_uniq (by rw [← e5]; exact haa) (e5.symm.trans e2')
  have e6 : nk σ' rt = (L' ++ ea.map En.kv ++ [g.kv]) ++ R2 := by
    rw [e4, ← hu.1, ← hu.2]; simp
  have ed : nk σ' rt = del o e.k (nk σ rt) := by rw [e1', e6, del_here (asc_mid.1 ha').2.2.1 rfl]
  refine ⟨hl0, hli, T2.1, ed, by rw [ed]; exact ha.del, ?_, by rw [e6]; simp⟩
  have st := sits_of (u := g.kv) S ha hl (by rw [nk_leaf S hl hl0, hf]; simp)
  intro d' p q kL kR eL eR hd hp hq hk he' hlen
  rw [h2] at hd; injection hd with hd; subst hd
  have hpl : p ≠ l := by
    rintro rfl
    obtain ⟨q0, hq0, _⟩ := S.up p dl p hl hp
    have := (S.kidLv hl hp hq0).1
    rw [hl] at hq0; injection hq0 with hq0; subst hq0
    omega
  by_cases hpi : p = i
  · subst hpi
    have hlc := hpar hp
    subst hlc
    rw [h1] at hq; injection hq with hq; subst hq
    simp only at hk he'
    have hkn : kL.length = n := by
      have nd := S.nd p d h
      have g1 : d.ks[kL.length]? = some l := by rw [hk, List.getElem?_append_right (by omega)]; simp
      obtain ⟨b1, b2⟩ := List.getElem?_eq_some_iff.1 g1
      obtain ⟨b3, b4⟩ := List.getElem?_eq_some_iff.1 hc
      exact (List.getElem_inj nd).1 (b2.trans b4.symm)
    have hol := st dl p d kL kR (d.es.take n) (d.es.drop n) hl hp h hk (List.take_append_drop n d.es).symm (by rw [htl]; exact hkn)
    have hsp := List.append_inj (hset.symm.trans he') (by rw [htl, ← hlen, hkn])
    rw [← hsp.1, ← hsp.2]
    refine ⟨hol.1, fun x hx => ?_⟩
    rcases List.mem_cons.1 hx with rfl | hx
    · exact Int.le_refl _
    · exact hol.2 x (by rw [hdr]; exact List.mem_cons_of_mem _ hx)
  · rw [ho p hpi hpl] at hq
    exact st dl p q kL kR eL eR hl hp hq hk he' hlen
theorem Fit0.fit (S : Shp σ rt) {m : Int} (hm : 3 ≤ m) (f : Fit0 σ m rt) (hne : ∀ r, σ rt = some r → r.es ≠ []) : Fit σ m rt := by
  intro j x hj
  obtain ⟨f1, f2, f3⟩ := f j x hj
  refine ⟨f1, f2, ?_⟩
  by_cases hjr : j = rt
  · subst hjr
    have := hne x hj
    cases hx : x.es with
    | nil => exact absurd hx this
    | cons a b => simp
  · have := f2 hjr; omega
theorem Fit0.fit' (S : Shp σ rt) {m : Int} (hm : 3 ≤ m) (f : Fit0 σ m rt) (hne : nk σ rt ≠ []) : Fit σ m rt := by
  refine f.fit S hm fun r hr h0 => hne ?_
  have := (f rt r hr).2.2
  rw [h0] at this
  simp only [List.length_nil] at this
  rw [nk_leaf S hr (by omega), h0]; rfl
theorem Fit.fit0 {m : Int} (f : Fit σ m rt) : Fit0 σ m rt := fun j x hj => ⟨(f j x hj).1, (f j x hj).2.1, fun _ => (f j x hj).2.2⟩
end
end Go.Proofs.Ytgakapigpiaoiaa.Bt

namespace Go.Proofs.Ytgakapigpiaoiaa.Bt
section
variable {σ : Store} {rt i c l n x p : Nat} {d q : ND} {o : Ord} {e f : En} {L R : KV}
theorem Ctxt.unique (ha : Asc o (nk σ rt)) {L1 R1 : KV} {u : Int × Int} (c1 : Ctxt σ rt x L R) (c2 : Ctxt σ rt x L1 R1) (hu : u ∈ nk σ x) : L1 = L ∧ R1 = R := by
  obtain ⟨A, Z, hA⟩ := List.append_of_mem hu
  have e1 := c1.now
  have e2 := c2.now
  rw [hA] at e1 e2
  have e1' : nk σ rt = (L ++ A) ++ u :: (Z ++ R) := by rw [e1]; simp
  have e2' : nk σ rt = (L1 ++ A) ++ u :: (Z ++ R1) := by rw [e2]; simp
  have h := asc_uniq (by rw [← e1']; exact ha) (e1'.symm.trans e2')
  exact ⟨(List.append_cancel_right h.1).symm, (List.append_cancel_left h.2).symm⟩
theorem mem_nk (S : Shp σ rt) (h : σ i = some d) (he : e ∈ d.es) : e.kv ∈ nk σ i := by
  rw [nk_row S h]
  exact mem_rowKvs he (S.fits h)
theorem rank_own (ha : AscE o d.es) (he : d.es[n]? = some e) : rank o (o.rk e.k) d.es = n := by
  refine rank_at (Nat.le_of_lt (List.getElem?_eq_some_iff.1 he).1) (fun j e' hj he' => ha.get hj he' he) (fun e' he' => ?_)
  rw [he] at he'; injection he' with he'; subst he'
  exact Int.le_refl _
theorem spot_at (S : Shp σ rt) (ha : Asc o (nk σ rt)) (s : Spot σ rt i e L R) : ∃ d n L0 R0, σ i = some d ∧ d.es[n]? = some e ∧ n < d.es.length ∧ Ctxt σ rt i L0 R0 ∧ L = L0 ++ rowKvs (nk σ) (d.ks.take (n + 1)) (d.es.take n) ∧ R = rowKvs (nk σ) (d.ks.drop (n + 1)) (d.es.drop (n + 1)) ++ R0 ∧ rank o (o.rk e.k) d.es = n := by
  obtain ⟨d, eL, eR, L0, R0, h, he, cx, rfl, rfl⟩ := s
  have hn : d.es[eL.length]? = some e := by rw [he]; simp
  refine ⟨d, eL.length, L0, R0, h, hn, (List.getElem?_eq_some_iff.1 hn).1, cx, by rw [he]; simp, by rw [he]; simp, rank_own (S.ascE h ha) hn⟩
theorem take_succ_get {es : List En} (he : es[n]? = some e) : es.take (n + 1) = es.take n ++ [e] := by rw [List.take_add_one, he]; rfl
theorem drop_get {β : Type} {es : List β} {a : β} (he : es[n]? = some a) : es.drop n = a :: es.drop (n + 1) := by
  obtain ⟨h3, rfl⟩ := List.getElem?_eq_some_iff.1 he
  rw [List.getElem_cons_drop]
theorem next_down (S : Shp σ rt) (h : σ i = some d) (he : d.es[n]? = some e) {L0 R0 : KV} (cx : Ctxt σ rt i L0 R0) (hc : d.ks[n + 1]? = some c) (ff : LFar σ c l) {dl : ND} (hl : σ l = some dl) (hf : dl.es[0]? = some f) :
    ∃ R', Spot σ rt l f (L0 ++ rowKvs (nk σ) (d.ks.take (n + 1)) (d.es.take n) ++ [e.kv]) R' := by
  have hn := (List.getElem?_eq_some_iff.1 he).1
  have hm := (List.getElem?_eq_some_iff.1 hc).1
  have cd := cx.down S h (getElem?_split hc) (List.take_append_drop (n + 1) d.es).symm (by simp only [List.length_take]; omega)
  rw [take_succ_get he, rowKvs_last _ _ _ _ (by simp only [List.length_take]; omega)] at cd
  obtain ⟨dl', R', hl', hlk, cl⟩ := ff.ctxt S _ _ cd
  rw [hl] at hl'; injection hl' with hl'; subst hl'
  have hes : dl.es = [] ++ f :: dl.es.drop 1 := by
    have := drop_get hf
    simpa using this
  have := cl.spot hl hes
  rw [hlk] at this
  simp only [List.length_nil, List.take_nil, rowKvs, List.map_nil, List.append_nil] at this
  exact ⟨_, by simpa using this⟩
theorem next_leaf (h : σ i = some d) (hk : d.ks = []) (he : d.es[n]? = some e) (hf : d.es[n + 1]? = some f) {L0 R0 : KV} (cx : Ctxt σ rt i L0 R0) :
    ∃ R', Spot σ rt i f (L0 ++ rowKvs (nk σ) (d.ks.take (n + 1)) (d.es.take n) ++ [e.kv]) R' := by
  have hn := (List.getElem?_eq_some_iff.1 hf).1
  have := cx.spot h (getElem?_split hf)
  rw [hk] at this ⊢
  simp only [List.take_nil, rowKvs, take_succ_get he, List.map_append, List.map_cons, List.map_nil, ← List.append_assoc] at this ⊢
  exact ⟨_, this⟩
def EndsAt (σ : Store) (rt x : Nat) (LE : KV) : Prop := ∀ L1 R1, Ctxt σ rt x L1 R1 → L1 ++ nk σ x = LE
def StartsAt (σ : Store) (rt x : Nat) (RE : KV) : Prop := ∀ L1 R1, Ctxt σ rt x L1 R1 → nk σ x ++ R1 = RE
theorem ends_leaf (S : Shp σ rt) (ha : Asc o (nk σ rt)) (h : σ i = some d) (hk : d.ks = []) (he : d.es[n]? = some e) (hn : n + 1 = d.es.length) {L0 R0 : KV} (cx : Ctxt σ rt i L0 R0) :
    EndsAt σ rt i (L0 ++ rowKvs (nk σ) (d.ks.take (n + 1)) (d.es.take n) ++ [e.kv]) := by
  intro L1 R1 c1
  obtain ⟨rfl, rfl⟩ := Ctxt.unique ha cx c1 (mem_nk S h (List.mem_of_getElem? he))
  rw [nk_row S h, hk]
  have hd : d.es = d.es.take n ++ [e] := by rw [← take_succ_get he, hn, List.take_length]
  simp only [List.take_nil, rowKvs]
  conv => lhs; rw [hd]
  simp
theorem EndsAt.top (S : Shp σ rt) {LE RE : KV} (t : EndsAt σ rt rt LE) (e : nk σ rt = LE ++ RE) : RE = [] := by
  have := t _ _ (Ctxt.root S)
  rw [List.nil_append] at this
  rw [this] at e
  simpa using e
theorem StartsAt.top (S : Shp σ rt) {LE RE : KV} (t : StartsAt σ rt rt RE) (e : nk σ rt = LE ++ RE) : LE = [] := by
  have := t _ _ (Ctxt.root S)
  rw [List.append_nil] at this
  rw [this] at e
  simpa using e
theorem up_rank (S : Shp σ rt) (ha : Asc o (nk σ rt)) (h : σ x = some d) (hp : d.par = some p) (hq : σ p = some q) {u : Int × Int} (hu : u ∈ nk σ x) : ∃ kL kR, q.ks = kL ++ x :: kR ∧ rank o (o.rk u.1) q.es = kL.length ∧ kL.length ≤ q.es.length ∧ 0 < q.lv := by
  obtain ⟨h1, hm⟩ := S.kidLv h hp hq
  obtain ⟨kL, kR, hk⟩ := List.append_of_mem hm
  have hi := S.inner p q hq (by omega)
  have hlen := hi
  rw [hk] at hlen
  simp only [List.length_append, List.length_cons] at hlen
  refine ⟨kL, kR, hk, (sits_of S ha h hu).rank h hp hq hk (List.take_append_drop kL.length q.es).symm (by simp only [List.length_take]; omega), by omega, by omega⟩
theorem mem_up (S : Shp σ rt) (hq : σ p = some q) {kL kR : List Nat} (hk : q.ks = kL ++ x :: kR) {u : Int × Int} (hu : u ∈ nk σ x) : u ∈ nk σ p := by
  have hlv : 0 < q.lv := by
    obtain ⟨_, _, _, h1⟩ := S.kid p q x hq (by rw [hk]; simp)
    omega
  have hi := S.inner p q hq hlv
  have hlen := hi
  rw [hk] at hlen
  simp only [List.length_append, List.length_cons] at hlen
  rw [nk_row S hq, hk]
  have := rowKvs_mid (nk σ) kL (q.es.take kL.length) x kR (q.es.drop kL.length) (by simp only [List.length_take]; omega)
  rw [List.take_append_drop] at this
  rw [this]
  simp [hu]
theorem EndsAt.up (S : Shp σ rt) {LE : KV} (t : EndsAt σ rt x LE) (hq : σ p = some q) {kL : List Nat} (hk : q.ks = kL ++ [x]) (hl : kL.length = q.es.length) : EndsAt σ rt p LE := by
  intro L1 R1 c1
  have cd := c1.down S hq (i := x) (kL := kL) (kR := []) (eL := q.es) (eR := []) hk (by simp) hl
  rw [← t _ _ cd, nk_row S hq, hk]
  have := rowKvs_mid (nk σ) kL q.es x [] [] hl
  simp only [List.append_nil, rowR] at this
  rw [this]; simp
theorem EndsAt.hit (S : Shp σ rt) {LE : KV} (t : EndsAt σ rt x LE) (hq : σ p = some q) {kL kR : List Nat} (hk : q.ks = kL ++ x :: kR) (hf : q.es[kL.length]? = some f) : ∃ R', Spot σ rt p f LE R' := by
  obtain ⟨L1, R1, c1⟩ := Ctxt.ex S hq
  have hj := (List.getElem?_eq_some_iff.1 hf).1
  have htl : (q.es.take kL.length).length = kL.length := by simp only [List.length_take]; omega
  have cd := c1.down S hq (i := x) (kL := kL) (kR := kR) hk (List.take_append_drop kL.length q.es).symm htl.symm
  have sp := c1.spot hq (getElem?_split hf)
  have e2 := t _ _ cd
  have hk2 : q.ks.take (kL.length + 1) = kL ++ [x] := by rw [hk, List.take_length_add_append]; rfl
  have := rowKvs_mid (nk σ) kL (q.es.take kL.length) x [] [] htl.symm
  simp only [List.append_nil, rowR] at this
  rw [htl, hk2, this, ← List.append_assoc, e2] at sp
  exact ⟨_, sp⟩
theorem StartsAt.up (S : Shp σ rt) {RE : KV} (t : StartsAt σ rt x RE) (hq : σ p = some q) {kR : List Nat} (hk : q.ks = x :: kR) : StartsAt σ rt p RE := by
  intro L1 R1 c1
  have cd := c1.down S hq (i := x) (kL := []) (kR := kR) (eL := []) (eR := q.es) hk rfl rfl
  rw [← t _ _ cd, nk_row S hq, hk]
  have := rowKvs_mid (nk σ) [] [] x kR q.es rfl
  simp only [List.nil_append] at this
  rw [this]; simp [rowKvs]
theorem StartsAt.hit (S : Shp σ rt) {RE : KV} (t : StartsAt σ rt x RE) (hq : σ p = some q) {kL kR : List Nat} (hk : q.ks = kL ++ x :: kR) {j : Nat} (hj : kL.length = j + 1) (hf : q.es[j]? = some f) (hlen : kL.length ≤ q.es.length) : ∃ L', Spot σ rt p f L' RE := by
  obtain ⟨L1, R1, c1⟩ := Ctxt.ex S hq
  have hjl := (List.getElem?_eq_some_iff.1 hf).1
  have htl : (q.es.take kL.length).length = kL.length := by simp only [List.length_take]; omega
  have cd := c1.down S hq (i := x) (kL := kL) (kR := kR) hk (List.take_append_drop kL.length q.es).symm htl.symm
  have sp := c1.spot hq (getElem?_split hf)
  have e2 := t _ _ cd
  have htj : (q.es.take j).length = j := by simp only [List.length_take]; omega
  have hk2 : q.ks.drop (j + 1) = x :: kR := by rw [hk, ← hj]; simp
  have := rowKvs_mid (nk σ) [] [] x kR (q.es.drop (j + 1)) rfl
  simp only [List.nil_append] at this
  rw [htj, hk2, this] at sp
  rw [hj, ← List.append_assoc] at e2
  simp only [rowKvs, List.map_nil, List.nil_append] at sp
  rw [e2] at sp
  exact ⟨_, sp⟩
theorem first_spot (S : Shp σ rt) (ff : LFar σ rt l) {dl : ND} (hl : σ l = some dl) (hf : dl.es[0]? = some f) : ∃ R', Spot σ rt l f [] R' := by
  obtain ⟨dl', R', hl', hlk, cl⟩ := ff.ctxt S _ _ (Ctxt.root S)
  rw [hl] at hl'; injection hl' with hl'; subst hl'
  have hes : dl.es = [] ++ f :: dl.es.drop 1 := by
    have := drop_get hf
    simpa using this
  have := cl.spot hl hes
  rw [hlk] at this
  simp only [List.length_nil, List.take_nil, rowKvs, List.map_nil, List.append_nil] at this
  exact ⟨_, this⟩
end
end Go.Proofs.Ytgakapigpiaoiaa.Bt
