/-
  Several texts as one (BtReb, BtDel, BtTree, BtAct, BtMake): each says its own in its remarks.
-/
import Derived.Test.YtgakapigpiaoiaaBtBorL
import Derived.Test.YtgakapigpiaoiaaBtBorR2
import Derived.Test.YtgakapigpiaoiaaBtRebs
import Derived.Test.YtgakapigpiaoiaaBtRebG
import Derived.Test.YtgakapigpiaoiaaBtWays
import Derived.Test.YtgakapigpiaoiaaBtDelT
import Derived.Test.YtgakapigpiaoiaaBtRunT
import Derived.Test.YtgakapigpiaoiaaPures
import Derived.OwnWalk
import Derived.Test.YtgakapigpiaoiaaBases
import Derived.Test.YtgakapigpiaoiaaRows0
namespace Go.Proofs.Ytgakapigpiaoiaa.Bt
open Go.RowKit Go.Proofs.Ytgakapigpiaoiaa
theorem cut_at {es : List En} {j : Nat} (h : j < es.length) : ∃ eL sep eR, es = eL ++ sep :: eR ∧ j = eL.length :=
  ⟨es.take j, es[j], es.drop (j + 1), by rw [List.getElem_cons_drop, List.take_append_drop], by simp; omega⟩
set_option maxHeartbeats 1000000 in
theorem reb_ok (n : Nat) : RebOk n := by
  induction n with
  | zero =>
    intro w B H o σ α x rt d k s ho hm hr S h hlv hf hmax hmin htop hasc hsit
    by_cases hl : (H.m + 1) / 2 - 1 ≤ (d.es.length : Int)
    · refine (reb_enough s hm h hl _).mono ?_
      rintro e w' ⟨rfl, c, rfl⟩
      exact ⟨rfl, σ, α, rt, by rw [H.eta hr]; exact s.drewN c, S, rfl, hf.fit h ⟨hmax, fun _ => hl, fun _ => by omega⟩, Below.drewN' (Below.refl _ _) c, fun c' ac => rebT_fine S h (by unfold mnOf; exact hl) ac⟩
    · obtain ⟨r, hrt, hrp⟩ := S.root
      have hxr : x = rt := by
        refine Classical.byContradiction fun hne => ?_
        have h1 := S.bd x d r h hrt
        cases hp : d.par with
        | none => exact hne (S.top x d h hp)
        | some p =>
          obtain ⟨q, hq, hmem⟩ := S.up x d p h hp
          have h2 := (S.kidLv h hp hq).1
          have h3 := S.bd p q r hq hrt
          have h4 := hlv r hrt
          omega
      subst hxr
      rw [h] at hrt; injection hrt with hrt; subst hrt
      refine (reb_top s hm h hrp hr (by omega) _).mono ?_
      rintro e w' ⟨rfl, c, rfl⟩
      exact ⟨rfl, σ, α, x, by rw [H.eta hr]; exact s.drewN c, S, rfl, hf.fit h ⟨hmax, fun hne => absurd rfl hne, htop rfl⟩, Below.drewN' (Below.refl _ _) c, fun c' ac => rebT_top S ac⟩
  | succ n IH =>
    intro w B H o σ α x rt d k s ho hm hr S h hlv hf hmax hmin htop hasc hsit
    by_cases hl : (H.m + 1) / 2 - 1 ≤ (d.es.length : Int)
    · refine (reb_enough s hm h hl _).mono ?_
      rintro e w' ⟨rfl, c, rfl⟩
      exact ⟨rfl, σ, α, rt, by rw [H.eta hr]; exact s.drewN c, S, rfl, hf.fit h ⟨hmax, fun _ => hl, fun _ => by omega⟩, Below.drewN' (Below.refl _ _) c, fun c' ac => rebT_fine S h (by unfold mnOf; exact hl) ac⟩
    by_cases hxr : x = rt
    · obtain ⟨r, hrt, hrp⟩ := S.root
      subst hxr
      rw [h] at hrt; injection hrt with hrt; subst hrt
      refine (reb_top s hm h hrp hr (by omega) _).mono ?_
      rintro e w' ⟨rfl, c, rfl⟩
      exact ⟨rfl, σ, α, x, by rw [H.eta hr]; exact s.drewN c, S, rfl, hf.fit h ⟨hmax, fun hne => absurd rfl hne, htop rfl⟩, Below.drewN' (Below.refl _ _) c, fun c' ac => rebT_top S ac⟩
    have hl2 : (d.es.length : Int) = (H.m + 1) / 2 - 2 := by have := hmin hxr; omega
    cases hp : d.par with
    | none => exact absurd (S.top x d h hp) hxr
    | some p =>
      obtain ⟨q, hq, hmem⟩ := S.up x d p h hp
      have hqlv := (S.kidLv h hp hq).1
      have hpx : p ≠ x := fun e => by rw [e, h] at hq; injection hq with hq; subst hq; omega
      have hqn := (hf p q hq hpx).2.2 (by omega)
      have hqk := S.inner p q hq (by omega)
      obtain ⟨kL, kR, hks⟩ := List.append_of_mem hmem
      have hlen := hqk
      rw [hks] at hlen
      simp only [List.length_append, List.length_cons] at hlen
      have hrk : rank o (o.rk k) q.es = kL.length := hsit.rank h hp hq hks (List.take_append_drop kL.length q.es).symm (by simp only [List.length_take]; omega)
      have KID : ∀ y, y ∈ q.ks → ∃ yd, σ y = some yd := fun y hy => by
        obtain ⟨yd, h1, _⟩ := S.kid p q y hq hy
        exact ⟨yd, h1⟩
      rcases List.eq_nil_or_concat kL with h0 | ⟨kA, a, h0⟩
      · subst h0
        cases kR with
        | nil => simp only [List.length_nil] at hlen; omega
        | cons b kR =>
          obtain ⟨db, hb⟩ := KID b (by rw [hks]; simp)
          obtain ⟨eL, sep, eR, hqe, hel⟩ := cut_at (es := q.es) (j := 0) (by omega)
          by_cases hbl : (H.m + 1) / 2 - 1 < (db.es.length : Int)
          · exact reb_borR s ho hm hr S h hp hq hf hl2 hasc hrk hks hqe hel hb hbl rfl
          · exact reb_mergeR n IH s ho hm hr S h hp hq hf hl2 hasc hlv hrk hks hqe hel hb (by omega) rfl
      · rw [List.concat_eq_append] at h0
        have hkl : kL.length = kA.length + 1 := by rw [h0]; simp
        obtain ⟨da, ha⟩ := KID a (by rw [hks, h0]; simp)
        by_cases hal : (H.m + 1) / 2 - 1 < (da.es.length : Int)
        · obtain ⟨eL, sep, eR, hqe, hel⟩ := cut_at (es := q.es) (j := kA.length) (by omega)
          exact reb_borL s ho hm hr S h hp hq hf hl2 hasc (kL := kA) (kR := kR) (by rw [hrk, hkl]) (by rw [hks, h0]; simp) hqe hel ha hal
        · cases kR with
          | nil =>
            obtain ⟨eL, sep, eR, hqe, hel⟩ := cut_at (es := q.es) (j := kA.length) (by omega)
            exact reb_mergeL n IH s ho hm hr S h hp hq hf hl2 hasc (kL := kA) (kR := []) hlv (by rw [hrk, hkl]) (by rw [hks, h0]; simp) hqe hel ha (by omega) rfl
          | cons b kR =>
            simp only [List.length_cons] at hlen
            obtain ⟨db, hb⟩ := KID b (by rw [hks]; simp)
            obtain ⟨eL, sep, eR, hqe, hel⟩ := cut_at (es := q.es) (j := kL.length) (by omega)
            by_cases hbl : (H.m + 1) / 2 - 1 < (db.es.length : Int)
            · exact reb_borR2 s ho hm hr S h hp hq hf hl2 hasc hrk hks hqe hel hb hbl h0 ha (by omega)
            · exact reb_mergeR2 n IH s ho hm hr S h hp hq hf hl2 hasc hlv hrk hks hqe hel hb (by omega) h0 ha (by omega)
end Go.Proofs.Ytgakapigpiaoiaa.Bt

namespace Go.Proofs.Ytgakapigpiaoiaa.Bt
open Go.RowKit Go.Proofs.Ytgakapigpiaoiaa
def Rooted (H : Hd) (σ : Store) (l : KV) : Prop := (H.root = none ∧ l = []) ∨ ∃ rt, H.root = some rt ∧ Shp σ rt ∧ nk σ rt = l ∧ Fit σ H.m rt
def DelPost (w : World) (B : Nat) (H : Hd) (o : Ord) (σ : Store) (rt x n lv : Nat) (l : KV) (e : Ending) (w' : World) : Prop := e = .returned (.tuple #[]) ∧ ∃ r σ' α', St w' B { H with root := r } o σ' α' ∧ Rooted { H with root := r } σ' l ∧ Below B w w' ∧ ∀ c N, lv ≤ N → APath σ rt x c → r.map (abs σ') = delT H.m n N c (abs σ x)
section
variable {w w' : World} {B x rt : Nat} {H : Hd} {o : Ord} {σ : Store} {α : Nat → Arr} {d : ND}
theorem St.clear (s : St w B H o σ α) : St w B H o (fun _ => none) α :=
  ⟨s.hd, s.hdB, s.ord, fun _ _ h => by (cases h), fun _ _ _ h => by (cases h), fun _ _ _ _ h => by (cases h), fun _ _ _ _ h => by (cases h)⟩
theorem St.root0 (s : St w B H o σ α) : St (w.setCell ⟨H.tb, 0, none⟩ (.pointer none)) B { H with root := none } o σ α ∧ Below B w (w.setCell ⟨H.tb, 0, none⟩ (.pointer none)) := by
  refine ⟨s.head (only_cell w H.tb 0 (.pointer none)) rfl rfl (by simpa [ptr] using s.hd.set_ 0 (.pointer none)), (Below.refl B w).setCell (p := ⟨H.tb, 0, none⟩) s.hdB _⟩
set_option maxHeartbeats 8000000 in
set_option maxRecDepth 100000 in
theorem delLeaf_walk (s : St w B H o σ α) (ho : o.fine) (hm : 3 ≤ H.m ∧ H.m ≤ 64) (hr : H.root = some rt) (S : Shp σ rt) (h : σ x = some d) (hf : Fit σ H.m rt) (ha : Asc o (nk σ rt)) {n : Nat} {en : En} (he : d.es[n]? = some en) (h0 : d.lv = 0) :
    Calls Try.prog 59 #[.pointer (some ⟨H.tb, 0, none⟩), .pointer (some ⟨x, 0, none⟩), .int .i64 n] w (DelPost w B H o σ rt x n d.lv (del o en.k (nk σ rt))) := by
  have CL := Lib.hid (leaf_yes S s h h0 (.pointer (some ⟨H.tb, 0, none⟩)))
  have hfx := hf x d h
  have hn : n < d.es.length := (List.getElem?_eq_some_iff.1 he).1
  obtain ⟨g, hg, hgc, _, hek, _⟩ := s.ent h he
  have h1 := (s.cells h).2.1
  rw [hg] at h1
  have CD := Lib.hid (delEntry_walk s h n hn (by have := hfx.1; omega) (.pointer (some ⟨H.tb, 0, none⟩)))
  have T := del_leaf (σ' := upd σ x (some { d with es := d.es.eraseIdx n })) S h h0 ha he (upd_at _ _ _) (fun j hj => upd_ne _ _ hj)
  have AB := Lib.hid (fun (c : List Fr) (N : Nat) (ac : APath σ rt x c) => delT_leaf (m := H.m) S h h0 n N ac)
  obtain ⟨r0, hr0, _⟩ := T.1.root
  have hel : (d.es.eraseIdx n).length = d.es.length - 1 := List.length_eraseIdx_of_lt hn
  have CR := Lib.hid (fun (wx : World) (sx : St wx B H o (upd σ x (some { d with es := d.es.eraseIdx n })) α) => reb_ok r0.lv wx B H o _ α x rt { d with es := d.es.eraseIdx n } en.k sx ho hm hr T.1 (upd_at _ _ _) (fun r hr' => by rw [hr0] at hr'; injection hr' with hr'; subst hr'; omega) (fun j e hj hjx => by rw [upd_ne _ _ hjx] at hj; exact hf.fit0 j e hj) (by simp only [hel]; have := hfx.1; omega) (fun hx => by simp only [hel]; have := hfx.2.1 hx; omega) (fun _ hlv => by simp only at hlv; omega) T.2.2.1 T.2.2.2)
  have HT := Lib.hid T.2.1
  have HM := Lib.hid hm
  have in0 : (0 : Int) ≤ (n : Int) := by omega
  have in1 : (n : Int) < (d.es.length : Int) := by omega
  have HB := Lib.hid s.hB
  clear s S h hf ha he h0 hfx hg hm ho hr T hr0 hel
  generalize d.es.length = nd at *
  go_enter Try.func59, Try.ntmps59
  go_wp2_with fail
  refine CL.out.mono ?_
  rintro e w1 ⟨rfl, rfl⟩
  clear CL
  go_wp2_with fail
  refine CD.out.mono ?_
  rintro e w2 ⟨rfl, s2, b2⟩
  have CR2 := Lib.hid (CR.out w2 s2)
  have HB2 := Lib.hid b2
  clear CD CR s2 b2 hgc hek h1
  go_wp2_with fail
  refine CR2.out.mono ?_
  rintro e w3 ⟨rfl, σ3, α3, rt3, s3, S3, k3, f3, b3, ab3⟩
  clear CR2
  rw [HT.out] at k3
  obtain ⟨r3, hr3, _⟩ := S3.root
  have hh0 := (s3.hcells).1
  have hh0f := s3.hd.frozen 0
  have hh1 := (s3.cells hr3).2.1
  simp only [ptr, Option.map_some] at hh0
  by_cases hz : r3.es = []
  · have hn0 : del o en.k (nk σ rt) = [] := by
      rw [← k3, nk_leaf S3 hr3 (by have := (f3 rt3 r3 hr3).2.2; rw [hz] at this; simp only [List.length_nil] at this; omega), hz]; rfl
    obtain ⟨s4, b4⟩ := s3.root0
    have FIN := Lib.hid (show DelPost w B H o σ rt x n d.lv (del o en.k (nk σ rt)) (.returned (.tuple #[])) (w3.setCell ⟨H.tb, 0, none⟩ (.pointer none)) from ⟨rfl, none, _, _, s4.clear, .inl ⟨rfl, hn0⟩, (HB2.out.trans b3).trans b4, fun c N _ ac => by
      rw [(AB.out c N ac).2, ← ab3 c (AB.out c N ac).1, abs_es S3 hr3, hz]; rfl⟩)
    rw [hz] at hh1
    simp only [List.length_nil] at hh1
    clear s3 S3 k3 f3 b3 hr3 hz hn0 s4 b4
    go_wp2_with fail
    (try simp only [Exit.inBlock, Exit.then])
    refine bodyPost_ret (results_none rfl _ _ _) rfl ?_
    exact FIN.out
  · have hl3 : 0 < r3.es.length := List.length_pos_iff.2 hz
    have hl4 : r3.es.length ≤ 64 := by have h1 := (f3 rt3 r3 hr3).1; have h2 := HM.out; omega
    have FIN := Lib.hid (show DelPost w B H o σ rt x n d.lv (del o en.k (nk σ rt)) (.returned (.tuple #[])) w3 from ⟨rfl, some rt3, _, _, s3, .inr ⟨rt3, rfl, S3, k3, f3.fit S3 HM.out.1 (fun r hr => by rw [hr3] at hr; injection hr with hr; subst hr; exact hz)⟩, HB2.out.trans b3, fun c N _ ac => by
      rw [(AB.out c N ac).2, ← ab3 c (AB.out c N ac).1, if_neg (by rw [abs_es S3 hr3]; simpa using hz)]; rfl⟩)
    clear s3 S3 k3 f3 b3 hr3 hz
    generalize r3.es.length = nr at *
    have hne : ((nr : Int) == 0) = false := by simp; omega
    go_wp2_with fail
    (try simp only [Exit.inBlock, Exit.then])
    refine bodyPost_ret (results_none rfl _ _ _) rfl ?_
    exact FIN.out
set_option maxHeartbeats 8000000 in
set_option maxRecDepth 100000 in
theorem delInner_walk (s : St w B H o σ α) (ho : o.fine) (hm : 3 ≤ H.m ∧ H.m ≤ 64) (hr : H.root = some rt) (hz : H.size ≠ 0) (S : Shp σ rt) (h : σ x = some d) (hf : Fit σ H.m rt) (ha : Asc o (nk σ rt)) {n : Nat} {en : En} (he : d.es[n]? = some en) (h0 : 0 < d.lv) :
    Calls Try.prog 59 #[.pointer (some ⟨H.tb, 0, none⟩), .pointer (some ⟨x, 0, none⟩), .int .i64 n] w (DelPost w B H o σ rt x n d.lv (del o en.k (nk σ rt))) := by
  have CL := Lib.hid (leaf_no S s h h0 (.pointer (some ⟨H.tb, 0, none⟩)))
  have hfx := hf x d h
  have hn : n < d.es.length := (List.getElem?_eq_some_iff.1 he).1
  have hkl := S.inner x d h h0
  obtain ⟨c, hc⟩ : ∃ c, d.ks[n]? = some c := ⟨_, List.getElem?_eq_getElem (by omega)⟩
  obtain ⟨cd, hcd, _, _⟩ := S.kid x d c h (List.mem_of_getElem? hc)
  obtain ⟨gk, hgk, hgkc, _⟩ := s.kid h hc
  have h2 := (s.cells h).2.2.1
  rw [hgk] at h2
  have CR := Lib.hid (right_walk s S hz (fun i di hi => by have := (hf i di hi).1; omega) hcd)
  have HS := Lib.hid s
  have HH := Lib.hid h
  have SS := Lib.hid S
  have HF := Lib.hid hf
  have HA := Lib.hid ha
  have HE := Lib.hid he
  have HC := Lib.hid hc
  have HM := Lib.hid hm
  have HO := Lib.hid ho
  have HR := Lib.hid hr
  have HN := Lib.hid hn
  have in0 : (0 : Int) ≤ (n : Int) := by omega
  have in1 : (n : Int) < (d.ks.length : Int) := by omega
  have in2 : (n : Int) < (d.es.length : Int) := by omega
  clear s S h hf ha he h0 hfx hm ho hr hc hcd hkl hgk hz hn
  generalize d.ks.length = nk0 at *
  go_enter Try.func59, Try.ntmps59
  go_wp2_with fail
  refine CL.out.mono ?_
  rintro e w1 ⟨rfl, rfl⟩
  clear CL
  go_wp2_with fail
  refine CR.out.mono ?_
  rintro e w2 ⟨l, rfl, fl, n2, rfl⟩
  clear CR h2 hgkc
  have FL := Lib.hid fl
  obtain ⟨L1, R1, cx0⟩ := Ctxt.ex SS.out HH.out
  have cx := cx0.down SS.out HH.out (getElem?_split HC.out) (List.take_append_drop n d.es).symm (by have := HN.out; have := (List.getElem?_eq_some_iff.1 HC.out).1; simp only [List.length_take]; omega)
  obtain ⟨dl, _, hl, _, _⟩ := fl.ctxt SS.out _ _ cx
  have hfl := HF.out l dl hl
  obtain ⟨ea, g, hla⟩ : ∃ ea g, dl.es = ea ++ [g] := by
    rcases List.eq_nil_or_concat dl.es with hh | ⟨ea, g, hh⟩
    · have := hfl.2.2; rw [hh] at this; simp at this
    · exact ⟨ea, g, by simpa using hh⟩
  have hln : dl.es.length = ea.length + 1 := by rw [hla]; simp
  have s2 := HS.out.drewN n2
  have hl1 := (s2.cells hl).2.1
  have HLL := Lib.hid hl
  have HLA := Lib.hid hla
  have HS2 := Lib.hid s2
  have HB2 := Lib.hid (Below.drewN' (Below.refl B w) n2)
  have hl6 : dl.es.length ≤ 64 := by have := hfl.1; have := HM.out; omega
  have il3 : (1 : Int) ≤ (dl.es.length : Int) := by omega
  have il8 : IntKind.i64.wrap ((dl.es.length : Int) - 1) = (dl.es.length : Int) - 1 := IntWalk.i64_in _ (by omega)
  clear fl cx0 cx hfl hl hla s2
  generalize w.drewN n2 = w2 at *
  obtain ⟨dl2, hl2, hlv2, _⟩ := FL.out.off SS.out x d HH.out (fun dx hdx => by
    obtain ⟨c2, hc2, _, hlc2⟩ := SS.out.kid x d c HH.out (List.mem_of_getElem? HC.out)
    rw [hdx] at hc2; injection hc2 with hc2; subst hc2; omega)
  have hlx : l ≠ x := fun e => by
    subst e
    rw [HH.out] at hl2; injection hl2 with hl2; subst hl2; omega
  generalize hq : ea.length = q at *
  have ha1 := (HS2.out.cells HH.out).2.1
  obtain ⟨gx, hgx, hgxc, hgxf, _⟩ := HS2.out.ent HH.out HE.out
  rw [hgx] at ha1
  have heq : dl.es[q]? = some g := by rw [HLA.out, ← hq]; simp
  obtain ⟨gl, hgl, hglc, _, _⟩ := HS2.out.ent HLL.out heq
  rw [hgl] at hl1
  have hgf := hgxf n
  have HQ := Lib.hid hq
  have HGX := Lib.hid hgx
  have HLN := Lib.hid hln
  have HGQ := Lib.hid heq
  have HLX := Lib.hid hlx
  rw [hln] at hl1 hl6 il3 il8
  have HL6 := Lib.hid hl6
  have iq0 : (0 : Int) ≤ (q : Int) := by omega
  have iq1 : (q : Int) < ((q + 1 : Nat) : Int) := by omega
  have iq2 : (q : Int) < (q : Int) + 1 := by omega
  clear hl2 hlv2 hlx hq hgx hgl hln heq hgxf
  generalize hnd : d.es.length = nd at *
  have HND := Lib.hid hnd
  clear hnd
  go_wp2_with fail
  go_still_tail 13, (by kernel_rfl)
  change wpList _ _ _ _ _ w2.drew
  have a1 : w2.drew.cell? ⟨x, 1, none⟩ = _ := ha1
  have a2 : w2.drew.cell? ⟨l, 1, none⟩ = _ := hl1
  have a3 : w2.drew.cell? ⟨gl, q, none⟩ = _ := hglc
  have a4 : w2.drew.frozen? ⟨gx, n, none⟩ = false := hgf
  have a5 : w2.drew.cell? ⟨gx, n, none⟩ = _ := hgxc
  have HS3 := Lib.hid HS2.out.drew
  have HB3 := Lib.hid (HB2.out.trans (below_of_drew (B := B) (w := w2) (w' := w2.drew) (Below.refl _ _)))
  clear ha1 hl1 hglc hgf hgxc HS2 HB2
  generalize w2.drew = w3 at *
  obtain ⟨s4, b4⟩ := HS3.out.setEn (j := n) HH.out HGX.out (HS3.out.en l dl g HLL.out (by rw [HLA.out]; simp))
  obtain ⟨σ4, hσ4⟩ : ∃ σ4, σ4 = upd σ x (some { d with es := d.es.set n g }) := ⟨_, rfl⟩
  rw [← hσ4] at s4
  have hl4 : σ4 l = some dl := by rw [hσ4, upd_ne _ _ HLX.out]; exact HLL.out
  have c1 := (s4.cells hl4).2.1
  obtain ⟨gl2, hgl2, c2, _, c3, _⟩ := s4.ent hl4 HGQ.out
  rw [hgl2, HLN.out] at c1
  have CD := delEntry_walk s4 hl4 q (by rw [HLN.out]; omega) (by rw [HLN.out]; omega) (.pointer (some ⟨H.tb, 0, none⟩))
  have heq : dl.es.eraseIdx q = ea := by rw [HLA.out, ← HQ.out]; exact erase_last ea g
  rw [heq] at CD
  have HB4 := Lib.hid (HB3.out.trans b4)
  have HS4 := Lib.hid hσ4
  have CDH := Lib.hid CD
  clear s4 b4 hσ4 hl4 hgl2 CD heq HB3 HS3
  go_wp2_with fail
  clear a1 a2 a3 a4 a5
  generalize w3.setCell ⟨gx, n, none⟩ (.pointer (some ⟨g.b, 0, none⟩)) = w4 at *
  refine CDH.out.mono ?_
  rintro e w5 ⟨rfl, s5, b5⟩
  clear CDH c1 c2 c3
  obtain ⟨σ5, hσ5⟩ : ∃ σ5, σ5 = upd σ4 l (some { dl with es := ea }) := ⟨_, rfl⟩
  rw [← hσ5] at s5
  have hl5 : σ5 l = some { dl with es := ea } := by rw [hσ5]; exact upd_at _ _ _
  have ho5 : ∀ j, j ≠ x → j ≠ l → σ5 j = σ j := fun j h1 h2 => by rw [hσ5, upd_ne _ _ h2, HS4.out, upd_ne _ _ h1]
  have T := del_inner (σ' := σ5) SS.out HH.out HA.out HE.out HC.out FL.out HLL.out HLA.out (by rw [hσ5, upd_ne _ _ HLX.out.symm, HS4.out]; exact upd_at _ _ _) hl5 ho5
  have HN3 := HN.out
  have AB := Lib.hid (fun (c' : List Fr) (N : Nat) (hN : d.lv ≤ N) (ac : APath σ rt x c') => delT_inner (m := H.m) SS.out HH.out HE.out HC.out FL.out HLL.out HLA.out HLX.out (by rw [hσ5, upd_ne _ _ HLX.out.symm, HS4.out]; exact upd_at _ _ _) hl5 ho5 hN ac)
  clear HN3
  obtain ⟨r0, hr0, _⟩ := T.2.2.1.root
  have hfl := HF.out l dl HLL.out
  have hfx := HF.out x d HH.out
  have CR := Lib.hid (reb_ok r0.lv w5 B H o σ5 α l rt { dl with es := ea } g.k s5 HO.out HM.out HR.out T.2.2.1 hl5 (fun r hr' => by rw [hr0] at hr'; injection hr' with hr'; subst hr'; omega) (fun j e hj hjx => by
      by_cases hjx2 : j = x
      · subst hjx2
        rw [hσ5, upd_ne _ _ hjx, HS4.out, upd_at] at hj
        injection hj with hj; subst hj
        exact ⟨by simp only [List.length_set]; exact hfx.1, fun hr => by simp only [List.length_set]; exact hfx.2.1 hr, fun _ => by simp only [List.length_set]; exact hfx.2.2⟩
      · rw [ho5 j hjx2 hjx] at hj; exact HF.out.fit0 j e hj) (by have h1 := hfl.1; have h2 := HLN.out; have h3 := HQ.out; simp only; omega) (fun hx => by have h1 := hfl.2.1 hx; have h2 := HLN.out; have h3 := HQ.out; simp only; omega) (fun _ hlv => by have := T.1; simp only at hlv; omega) T.2.2.2.2.1 T.2.2.2.2.2.1)
  have HT := Lib.hid T.2.2.2
  have HB5 := Lib.hid (HB4.out.trans b5)
  clear s5 b5 hσ5 hl5 ho5 T hr0 hfl hfx HB4 HS4
  go_wp2_with fail
  refine CR.out.mono ?_
  rintro e w6 ⟨rfl, σ6, α6, rt6, s6, S6, k6, f6, b6, ab6⟩
  clear CR
  have FIN := Lib.hid (show DelPost w B H o σ rt x n d.lv (del o en.k (nk σ rt)) (.returned (.tuple #[])) w6 from ⟨rfl, some rt6, _, _, s6, .inr ⟨rt6, rfl, S6, k6.trans HT.out.1, f6.fit' S6 HM.out.1 (by rw [k6]; exact HT.out.2.2.2)⟩, HB5.out.trans b6, fun c' N hN ac => by
    obtain ⟨c2, h1, h2⟩ := AB.out c' N hN ac
    rw [h2, ← ab6 c2 h1]; rfl⟩)
  clear s6 S6 k6 f6 b6
  go_wp2_with fail
  go_end0
  exact FIN.out
theorem delete_walk (s : St w B H o σ α) (ho : o.fine) (hm : 3 ≤ H.m ∧ H.m ≤ 64) (hr : H.root = some rt) (hz : H.size ≠ 0) (S : Shp σ rt) (h : σ x = some d) (hf : Fit σ H.m rt) (ha : Asc o (nk σ rt)) {n : Nat} {en : En} (he : d.es[n]? = some en) :
    Calls Try.prog 59 #[.pointer (some ⟨H.tb, 0, none⟩), .pointer (some ⟨x, 0, none⟩), .int .i64 n] w (DelPost w B H o σ rt x n d.lv (del o en.k (nk σ rt))) := by
  rcases Nat.eq_zero_or_pos d.lv with h0 | h0
  · exact delLeaf_walk s ho hm hr S h hf ha he h0
  · exact delInner_walk s ho hm hr hz S h hf ha he h0
end
end Go.Proofs.Ytgakapigpiaoiaa.Bt

namespace Go.Proofs.Ytgakapigpiaoiaa.Bt
open Go.RowKit Go.Proofs.Ytgakapigpiaoiaa
structure BtAt (m : Int) (o : Ord) (B : Nat) (w : World) (H : Hd) (σ : Store) (α : Nat → Arr) (l : KV) : Prop where
  st : St w B H o σ α
  rooted : Rooted H σ l
  size : H.size = l.length
  asc : Asc o l
  fine : o.fine
  hm : H.m = m
  m3 : 3 ≤ H.m ∧ H.m ≤ 64
def BtHas (m : Int) (o : Ord) (B : Nat) (w : World) (tb : Nat) (l : KV) : Prop := ∃ H σ α, BtAt m o B w H σ α l ∧ H.tb = tb
def BtHasT (m : Int) (o : Ord) (B : Nat) (w : World) (tb : Nat) (l : KV) (T : Option Tr) : Prop := ∃ H σ α, BtAt m o B w H σ α l ∧ H.tb = tb ∧ H.root.map (abs σ) = T
theorem BtHasT.has {m : Int} {o : Ord} {B : Nat} {w : World} {tb : Nat} {l : KV} {T : Option Tr} (h : BtHasT m o B w tb l T) : BtHas m o B w tb l := by
  obtain ⟨H, σ, α, h, e, _⟩ := h
  exact ⟨H, σ, α, h, e⟩
theorem BtHas.hasT {m : Int} {o : Ord} {B : Nat} {w : World} {tb : Nat} {l : KV} (h : BtHas m o B w tb l) : ∃ T, BtHasT m o B w tb l T := by
  obtain ⟨H, σ, α, h, e⟩ := h
  exact ⟨_, H, σ, α, h, e, rfl⟩
section
variable {m : Int} {o : Ord} {B tb x : Nat} {w w' : World} {H : Hd} {σ : Store} {α : Nat → Arr} {l : KV} {d : ND}
theorem BtAt.same (h : BtAt m o B w H σ α l) (on : Only [] w w') : BtAt m o B w' H σ α l := ⟨h.st.same on, h.rooted, h.size, h.asc, h.fine, h.hm, h.m3⟩
theorem BtAt.drewN (h : BtAt m o B w H σ α l) (n : Nat) : BtAt m o B (w.drewN n) H σ α l := ⟨h.st.drewN n, h.rooted, h.size, h.asc, h.fine, h.hm, h.m3⟩
theorem BtAt.below (h : BtAt m o B w H σ α l) (k : Below w.heap.size w w') : BtAt m o B w' H σ α l := ⟨h.st.below k, h.rooted, h.size, h.asc, h.fine, h.hm, h.m3⟩
theorem BtHas.below (h : BtHas m o B w tb l) (k : Below w.heap.size w w') : BtHas m o B w' tb l := by
  obtain ⟨H, σ, α, h, e⟩ := h
  exact ⟨H, σ, α, h.below k, e⟩
theorem BtHas.alloc (h : BtHas m o B w tb l) (x : Obj) : BtHas m o B (w.alloc x) tb l := h.below ((Below.refl _ _).alloc (Nat.le_refl _) x)
theorem BtHasT.alloc {T : Option Tr} (h : BtHasT m o B w tb l T) (x : Obj) : BtHasT m o B (w.alloc x) tb l T := by
  obtain ⟨H, σ, α, h, e, t⟩ := h
  exact ⟨H, σ, α, h.below ((Below.refl _ _).alloc (Nat.le_refl _) x), e, t⟩
theorem BtHas.size (h : BtHas m o B w tb l) : B ≤ w.heap.size := by
  obtain ⟨H, σ, α, h, e⟩ := h
  exact h.st.hB
theorem BtHas.asc (h : BtHas m o B w tb l) : Asc o l := by
  obtain ⟨H, σ, α, h, e⟩ := h
  exact h.asc
theorem BtAt.top (h : BtAt m o B w H σ α l) (hl : l ≠ []) : ∃ rt r, H.root = some rt ∧ Shp σ rt ∧ nk σ rt = l ∧ Fit σ H.m rt ∧ σ rt = some r ∧ H.size ≠ 0 := by
  rcases h.rooted with ⟨_, h2⟩ | ⟨rt, h1, S, h3, h4⟩
  · exact absurd h2 hl
  · obtain ⟨r, hr, _⟩ := S.root
    refine ⟨rt, r, h1, S, h3, h4, hr, ?_⟩
    rw [h.size]
    have := List.length_pos_iff.2 hl
    omega
theorem BtAt.none (h : BtAt m o B w H σ α []) : H.root = none := by
  rcases h.rooted with ⟨h1, _⟩ | ⟨rt, h1, S, h3, h4⟩
  · exact h1
  · exfalso
    obtain ⟨r, hr, _⟩ := S.root
    have h5 := (h4 rt r hr).2.2
    rw [nk_row S hr] at h3
    cases he : r.es with
    | nil => rw [he] at h5; simp at h5
    | cons a es =>
      have := mem_rowKvs (f := nk σ) (e := a) (es := r.es) (ks := r.ks) (by rw [he]; simp) (S.fits hr)
      rw [h3] at this
      simp at this
set_option maxHeartbeats 2000000 in
set_option maxRecDepth 100000 in
theorem srec_none (h : BtAt m o B w H σ α []) (k x : Value) :
    Calls Try.prog 58 #[.pointer (some ⟨H.tb, 0, none⟩), x, k] w fun e w' => e = .returned (.tuple #[.pointer none, .int .i64 (-1), .bool false]) ∧ w = w' := by
  have ce := empty_walk h.st
  rw [show (H.size == 0) = true from by rw [h.size]; rfl] at ce
  have CE := Lib.hid ce
  clear h ce
  go_enter Try.func58, Try.ntmps58
  go_wp2_with fail
  refine CE.out.mono ?_
  rintro e w1 ⟨rfl, rfl⟩
  go_wp2_with fail
  go_ret3
  exact ⟨rfl, rfl⟩
set_option maxHeartbeats 2000000 in
set_option maxRecDepth 100000 in
theorem srec_walkT (h : BtAt m o B w H σ α l) (hl : l ≠ []) (k : Int) :
    Calls Try.prog 58 #[.pointer (some ⟨H.tb, 0, none⟩), ptr H.root, .iface 3 (.int .i64 k)] w fun e w' =>
      ((∃ i n d en, e = .returned (.tuple #[.pointer (some ⟨i, 0, none⟩), .int .i64 (n : Nat), .bool true]) ∧ σ i = some d ∧ d.es[n]? = some en ∧ o.rk k = o.rk en.k ∧ look o k l = some en.kv ∧ ∀ rt r, H.root = some rt → σ rt = some r → ∃ c, APath σ rt i c ∧ ∀ m N, remT m o k N (r.lv + 1) [] (abs σ rt) = delT m n N c (abs σ i)) ∨
      (e = .returned (.tuple #[.pointer none, .int .i64 (-1), .bool false]) ∧ look o k l = none ∧ ∀ rt r, H.root = some rt → σ rt = some r → ∀ m N, remT m o k N (r.lv + 1) [] (abs σ rt) = some (abs σ rt))) ∧ ∃ n, w' = w.drewN n := by
  obtain ⟨rt, r, hr, S, hk, hf, hrt, hz⟩ := h.top hl
  have ce := empty_walk h.st
  rw [show (H.size == 0) = false from by simp [hz]] at ce
  have CE := Lib.hid ce
  have HH := Lib.hid h
  have SS := Lib.hid S
  have HK := Lib.hid hk
  have HF := Lib.hid hf
  have HR := Lib.hid hrt
  have HRE := Lib.hid hr
  have HRT := Lib.hid (show ∀ rt' r', H.root = some rt' → σ rt' = some r' → rt' = rt ∧ r' = r from fun rt' r' h1 h2 => by
    rw [hr] at h1; injection h1 with h1; subst h1
    rw [hrt] at h2; injection h2 with h2; exact ⟨rfl, h2.symm⟩)
  rw [hr]
  simp only [ptr, Option.map_some]
  clear h ce hl hr S hk hf hrt hz
  go_enter Try.func58, Try.ntmps58
  go_wp2_with fail
  refine CE.out.mono ?_
  rintro e w1 ⟨rfl, rfl⟩
  clear CE
  go_wp2_with fail
  go_loopg [6, 7, 8] (r.lv + 1) (fun g p _ _ wr => ∃ c dc, p = .pointer (some ⟨c, 0, none⟩) ∧ (∃ n, wr = w.drewN n) ∧ σ c = some dc ∧ dc.lv < g ∧ Here σ rt c o k ∧ SrcAt σ rt o k r.lv c)
  case atStart => exact ⟨rt, r, rfl, ⟨0, rfl⟩, HR.out, by omega, Here.root SS.out o k, SrcAt.top HR.out o k⟩
  case round =>
    clear HR
    obtain ⟨c, dc, rfl, ⟨n, rfl⟩, hc, hg, hh, hsrc⟩ := hrel
    have h2 := HH.out.drewN n
    have ha : Asc o (nk σ rt) := by rw [HK.out]; exact HH.out.asc
    have hfc := HF.out c dc hc
    have cs := search_walk h2.st h2.fine hc (SS.out.ascE hc ha) (by have := h2.m3; have := hfc.1; omega) k
    cases hit' : hit o k dc.es with
    | true =>
      obtain ⟨en, he, hke⟩ := hit_ex hit'
      rw [hit'] at cs
      have CS := Lib.hid cs
      obtain ⟨_, _, _, _, _, hlk⟩ := Here.hit SS.out ha hc he hke.symm
      rw [HK.out] at hlk
      have FIN := Lib.hid (show ∃ en, σ c = some dc ∧ dc.es[rank o (o.rk k) dc.es]? = some en ∧ o.rk k = o.rk en.k ∧ look o k l = some en.kv ∧ ∀ rt r, H.root = some rt → σ rt = some r → ∃ c', APath σ rt c c' ∧ ∀ m N, remT m o k N (r.lv + 1) [] (abs σ rt) = delT m (rank o (o.rk k) dc.es) N c' (abs σ c) from ⟨en, hc, he, hke.symm, hlk, fun rt' r' h1 h2 => by
        obtain ⟨rfl, rfl⟩ := HRT.out rt' r' h1 h2
        exact hsrc.found SS.out hc hit'⟩)
      clear hsrc hc hg hh h2 ha hfc cs hit' he hke hlk
      go_wp2_with fail
      refine CS.out.mono ?_
      rintro e w1 ⟨rfl, m, rfl⟩
      clear CS
      generalize rank o (o.rk k) dc.es = q at *
      go_wp2_with fail
      go_ret3
      obtain ⟨en', h2⟩ := FIN.out
      exact ⟨.inl ⟨c, q, dc, en', rfl, h2.1, h2.2.1, h2.2.2.1, h2.2.2.2.1, fun a b h3 h4 => h2.2.2.2.2 a b (HRE.out.trans h3) h4⟩, _, rfl⟩
    | false =>
      have hno := hit_no hit'
      rw [hit'] at cs
      have CS := Lib.hid cs
      rcases Nat.eq_zero_or_pos dc.lv with h0 | h0
      · have CL := Lib.hid (fun q => leaf_yes SS.out (h2.st.drewN q) hc h0 (.pointer (some ⟨H.tb, 0, none⟩)))
        obtain ⟨L, R, _, hA, hB, hN⟩ := hh.miss SS.out hc h0 ha hno
        have hlk : look o k l = none := by rw [← HK.out, hN, look_ahead hA, look_none_of_behind hB]
        have FIN := Lib.hid (show look o k l = none ∧ ∀ rt r, H.root = some rt → σ rt = some r → ∀ m N, remT m o k N (r.lv + 1) [] (abs σ rt) = some (abs σ rt) from ⟨hlk, fun rt' r' h1 h2 => by
          obtain ⟨rfl, rfl⟩ := HRT.out rt' r' h1 h2
          exact hsrc.lost SS.out hc h0 hit'⟩)
        clear hsrc hc hg hh h2 ha hfc cs hit' hno h0 hA hB hN hlk
        go_wp2_with fail
        refine CS.out.mono ?_
        rintro e w1 ⟨rfl, m, rfl⟩
        clear CS
        generalize rank o (o.rk k) dc.es = q at *
        have CL2 := Lib.hid (CL.out m)
        rw [World.drewN_drewN] at CL2
        clear CL
        go_wp2_with fail
        refine CL2.out.mono ?_
        rintro e w1 ⟨rfl, rfl⟩
        clear CL2
        go_wp2_with fail
        go_ret3
        exact ⟨.inr ⟨rfl, FIN.out.1, fun a b h3 h4 => FIN.out.2 a b (HRE.out.trans h3) h4⟩, _, rfl⟩
      · have CL := Lib.hid (fun q => leaf_no SS.out (h2.st.drewN q) hc h0 (.pointer (some ⟨H.tb, 0, none⟩)))
        have hlen := SS.out.inner c dc hc h0
        have hrl := rank_le o (o.rk k) dc.es
        obtain ⟨c2, hc2⟩ : ∃ c2, dc.ks[rank o (o.rk k) dc.es]? = some c2 := ⟨_, List.getElem?_eq_getElem (by omega)⟩
        obtain ⟨d2, hd2, _, hl2⟩ := SS.out.kid c dc c2 hc (List.mem_of_getElem? hc2)
        obtain ⟨gk, hgk, hgkc, _⟩ := h2.st.kid hc hc2
        have f2 := (h2.st.cells hc).2.2.1
        rw [hgk] at f2
        have FIN := Lib.hid (And.intro (hh.down SS.out ha hc hc2 hno) (hsrc.down SS.out hc hit' hc2))
        have i0 : (0 : Int) ≤ ((rank o (o.rk k) dc.es : Nat) : Int) := by omega
        have i1 : ((rank o (o.rk k) dc.es : Nat) : Int) < (dc.ks.length : Int) := by omega
        have HD2 := Lib.hid hd2
        have HLT := Lib.hid (show d2.lv < dc.lv by omega)
        have HG := Lib.hid hg
        clear hsrc hc hg hh h2 ha hfc cs hit' hno h0 hlen hrl hc2 hd2 hl2 hgk
        generalize rank o (o.rk k) dc.es = q at *
        generalize dc.ks.length = nk0 at *
        go_wp2_with fail
        refine CS.out.mono ?_
        rintro e w1 ⟨rfl, m, rfl⟩
        clear CS
        have CL2 := Lib.hid (CL.out m)
        have f2' : ((w.drewN n).drewN m).cell? ⟨c, 2, none⟩ = _ := f2
        have f3' : ((w.drewN n).drewN m).cell? ⟨gk, q, none⟩ = _ := hgkc
        have HW := Lib.hid (show ∃ j, (w.drewN n).drewN m = w.drewN j from ⟨_, World.drewN_drewN _ _ _⟩)
        clear CL f2 hgkc
        generalize (w.drewN n).drewN m = w2 at *
        go_wp2_with fail
        refine CL2.out.mono ?_
        rintro e w1 ⟨rfl, rfl⟩
        clear CL2
        go_wp2_with fail
        go_roundg dc.lv
        case measure => exact HG.out
        case rel => exact ⟨c2, d2, rfl, HW.out, HD2.out, HLT.out, FIN.out⟩
end
end Go.Proofs.Ytgakapigpiaoiaa.Bt

namespace Go.Proofs.Ytgakapigpiaoiaa.Bt
open Go.RowKit Go.Proofs.Ytgakapigpiaoiaa
section
variable {m : Int} {o : Ord} {B tb x : Nat} {w w' : World} {H : Hd} {σ : Store} {α : Nat → Arr} {l : KV} {d : ND}
theorem del_same {k k' : Int} (h : o.rk k = o.rk k') (l : KV) : del o k l = del o k' l := by
  induction l with
  | nil => rfl
  | cons a l ih => unfold del; simp only [h, ih]
theorem del_not {k : Int} (h : look o k l = none) : del o k l = l := by
  rw [del_plc]
  cases hk : hasK o k l with
  | false => simp
  | true =>
    exfalso
    obtain ⟨p, hp, _⟩ := hasK_some hk
    rw [look_plc, hk] at h
    simp only [if_true] at h
    rw [hp] at h; cases h
theorem St.setSize (s : St w B H o σ α) (n : Int) : St (w.setCell ⟨H.tb, 2, none⟩ (.int .i64 n)) B { H with size := n } o σ α ∧ Below B w (w.setCell ⟨H.tb, 2, none⟩ (.int .i64 n)) :=
  ⟨s.head (only_cell w H.tb 2 (.int .i64 n)) rfl rfl (by simpa using s.hd.set_ 2 (.int .i64 n)), (Below.refl B w).setCell (p := ⟨H.tb, 2, none⟩) s.hdB _⟩
theorem St.setRoot (s : St w B H o σ α) (r : Option Nat) : St (w.setCell ⟨H.tb, 0, none⟩ (ptr r)) B { H with root := r } o σ α ∧ Below B w (w.setCell ⟨H.tb, 0, none⟩ (ptr r)) :=
  ⟨s.head (only_cell w H.tb 0 (ptr r)) rfl rfl (by simpa using s.hd.set_ 0 (ptr r)), (Below.refl B w).setCell (p := ⟨H.tb, 0, none⟩) s.hdB _⟩
set_option maxHeartbeats 1000000 in
set_option maxRecDepth 100000 in
theorem btClear_hasT {T : Option Tr} (h : BtHasT m o B w tb l T) :
    Calls Try.prog 46 #[.pointer (some ⟨tb, 0, none⟩)] w fun e w' => e = .returned (.tuple #[]) ∧ BtHasT m o B w' tb [] none ∧ Below B w w' := by
  obtain ⟨H, σ, α, h, rfl, _⟩ := h
  obtain ⟨g0, _, g2, _⟩ := h.st.hcells
  have gf0 := h.st.hd.frozen 0
  have gf2 := h.st.hd.frozen 2
  obtain ⟨s1, b1⟩ := h.st.setRoot none
  obtain ⟨s2, b2⟩ := s1.setSize 0
  simp only [ptr, Option.map_none] at s1 s2 b1 b2
  have FIN := Lib.hid (show BtHasT m o B ((w.setCell ⟨H.tb, 0, none⟩ (.pointer none)).setCell ⟨H.tb, 2, none⟩ (.int .i64 0)) H.tb [] none ∧ Below B w ((w.setCell ⟨H.tb, 0, none⟩ (.pointer none)).setCell ⟨H.tb, 2, none⟩ (.int .i64 0)) from ⟨⟨_, _, _, ⟨s2.clear, .inl ⟨rfl, rfl⟩, rfl, Asc.nil o, h.fine, h.hm, h.m3⟩, rfl, rfl⟩, b1.trans b2⟩)
  clear h s1 s2 b1 b2
  go_enter Try.func46, Try.ntmps46
  go_wp2_with fail
  go_end0
  exact ⟨rfl, FIN.out⟩
set_option maxHeartbeats 2000000 in
set_option maxRecDepth 100000 in
theorem btRemove_hasT {T : Option Tr} (h : BtHasT m o B w tb l T) (k : Int) (hl : l.length ≤ 100000) :
    Calls Try.prog 50 #[.pointer (some ⟨tb, 0, none⟩), .iface 3 (.int .i64 k)] w fun e w' => e = .returned (.tuple #[]) ∧ BtHasT m o B w' tb (del o k l) (remS m o k T) ∧ Below B w w' := by
  obtain ⟨H, σ, α, h, rfl, hT⟩ := h
  obtain ⟨g0, _, g2, _⟩ := h.st.hcells
  by_cases hl0 : l = []
  · subst hl0
    rw [h.none] at g0
    simp only [ptr, Option.map_none] at g0
    have C := Lib.hid (srec_none h (.iface 3 (.int .i64 k)) (.pointer none))
    have FIN := Lib.hid (show BtHasT m o B w H.tb (del o k []) (remS m o k T) from ⟨_, _, _, h, rfl, by rw [← hT, h.none]; rfl⟩)
    clear h g2
    go_enter Try.func50, Try.ntmps50
    go_wp2_with fail
    refine C.out.mono ?_
    rintro e w1 ⟨rfl, rfl⟩
    go_wp2_with fail
    go_end0
    exact ⟨rfl, FIN.out, Below.refl _ _⟩
  · have C := Lib.hid (srec_walkT h hl0 k)
    obtain ⟨rt, r, hr, S, hk, hf, hrt, hz⟩ := h.top hl0
    have HH := Lib.hid h
    have SS := Lib.hid S
    have HK := Lib.hid hk
    have HF := Lib.hid hf
    have HR := Lib.hid hr
    have HZ := Lib.hid hz
    have HT := Lib.hid (show remS m o k T = remT m o k r.lv (r.lv + 1) [] (abs σ rt) from by
      rw [← hT, hr]
      simp only [Option.map_some, remS]
      rw [depT_abs S hrt])
    have HRR := Lib.hid hrt
    have HL := Lib.hid hl
    clear h hl0 hr S hk hf hrt hz hl
    have g0h := Lib.hid g0
    generalize hrv : ptr H.root = rv at *
    go_enter Try.func50, Try.ntmps50
    go_wp2_with fail
    refine C.out.mono ?_
    rintro e w1 ⟨hc, n, rfl⟩
    clear C
    rcases hc with ⟨i, q, d, en, rfl, hi, he, hke, hlk, hab⟩ | ⟨rfl, hlk, hab⟩
    · have h2 := HH.out.drewN n
      have CD := Lib.hid (delete_walk h2.st h2.fine h2.m3 HR.out HZ.out SS.out hi HF.out (by rw [HK.out]; exact h2.asc) he)
      have HLK := Lib.hid hlk
      have HLV := Lib.hid (show d.lv ≤ r.lv from SS.out.bd i d r hi HRR.out)
      have HAB := Lib.hid (hab rt r HR.out HRR.out)
      clear hab
      have HKE := Lib.hid hke
      have HBN := Lib.hid (Below.drewN' (Below.refl B w) n)
      clear h2 hi he hke hlk g0 g2 g0h
      generalize w.drewN n = w2 at *
      go_wp2_with fail
      refine CD.out.mono ?_
      rintro e w3 ⟨rfl, r3, σ3, α3, s3, R3, b3, ab3⟩
      rw [HK.out, ← del_same HKE.out] at R3
      obtain ⟨_, _, g2, _⟩ := s3.hcells
      have gf2 := s3.hd.frozen 2
      have hlen := del_length (o := o) (k := k) (l := l)
      rw [HLK.out] at hlen
      simp only [Option.isSome_some, if_true] at hlen
      have hpos : 0 < l.length := by
        cases l with
        | nil => have := HLK.out; simp [look] at this
        | cons a l => simp
      have hsz := HH.out.size
      have hw1 : IntKind.i64.wrap (H.size - 1) = H.size - 1 := IntWalk.i64_in _ (by have := HL.out; omega)
      obtain ⟨s4, b4⟩ := s3.setSize (H.size - 1)
      have FIN := Lib.hid (show BtHasT m o B (w3.setCell ⟨H.tb, 2, none⟩ (.int .i64 (H.size - 1))) H.tb (del o k l) (remS m o k T) ∧ Below B w (w3.setCell ⟨H.tb, 2, none⟩ (.int .i64 (H.size - 1))) from
        ⟨⟨_, _, _, ⟨s4, R3, by simp only; rw [hlen, hsz]; omega, HH.out.asc.del, HH.out.fine, HH.out.hm, HH.out.m3⟩, rfl, by
          obtain ⟨c, ac, e1⟩ := HAB.out
          have e2 := ab3 c r.lv HLV.out ac
          rw [HH.out.hm] at e2
          rw [HT.out, e1]; exact e2⟩, (HBN.out.trans b3).trans b4⟩)
      clear s3 R3 b3 s4 b4 hlen hpos hsz CD
      go_wp2_with fail
      go_end0
      exact ⟨rfl, FIN.out⟩
    · have FIN := Lib.hid (show BtHasT m o B (w.drewN n) H.tb (del o k l) (remS m o k T) from ⟨_, _, _, by rw [del_not hlk]; exact HH.out.drewN n, rfl, by rw [HT.out, hab rt r HR.out HRR.out, HR.out]; rfl⟩)
      have HBN := Lib.hid (Below.drewN' (Below.refl B w) n)
      clear hlk hab g0 g2 g0h
      go_wp2_with fail
      go_end0
      exact ⟨rfl, FIN.out, HBN.out⟩
theorem one_shp (i : Nat) (e : En) : Shp (upd (fun _ => none) i (some ⟨none, [e], [], 0⟩)) i := by
  have cs : ∀ j x, upd (fun _ => none) i (some ⟨none, [e], [], 0⟩) j = some x → j = i ∧ x = ⟨none, [e], [], 0⟩ := by
    intro j x hj
    by_cases h : j = i
    · subst h; rw [upd_at] at hj; injection hj with hj; exact ⟨rfl, hj.symm⟩
    · rw [upd_ne _ _ h] at hj; cases hj
  refine ⟨?_, ?_, ?_, ?_, ?_, ?_, ⟨_, upd_at _ _ _, rfl⟩, ?_⟩
  · intro j x hj _; obtain ⟨_, rfl⟩ := cs j x hj; rfl
  · intro j x hj h0; obtain ⟨_, rfl⟩ := cs j x hj; simp at h0
  · intro j x q hj hq; obtain ⟨_, rfl⟩ := cs j x hj; simp at hq
  · intro j x hj _; exact (cs j x hj).1
  · intro j x p hj hp; obtain ⟨_, rfl⟩ := cs j x hj; simp at hp
  · intro j x hj; obtain ⟨_, rfl⟩ := cs j x hj; exact List.nodup_nil
  · intro j x y hj hy; obtain ⟨_, rfl⟩ := cs j x hj; exact Nat.zero_le _
theorem one_fit {i : Nat} {e : En} {m : Int} (hm : 3 ≤ m) : Fit (upd (fun _ => none) i (some ⟨none, [e], [], 0⟩)) m i := by
  intro j x hj
  by_cases h : j = i
  · subst h
    rw [upd_at] at hj
    injection hj with hj
    subst hj
    exact ⟨by simp; omega, fun hh => absurd rfl hh, by simp⟩
  · rw [upd_ne _ _ h] at hj; cases hj
set_option maxHeartbeats 4000000 in
set_option maxRecDepth 100000 in
theorem btPut_hasT {T : Option Tr} (h : BtHasT m o B w tb l T) (k v : Int) (hl : l.length ≤ 100000) :
    Calls Try.prog 49 #[.pointer (some ⟨tb, 0, none⟩), .iface 3 (.int .i64 k), .iface 3 (.int .i64 v)] w fun e w' => e = .returned (.tuple #[]) ∧ BtHasT m o B w' tb (ins o k v l) (putS m o k v T) ∧ Below B w w' := by
  obtain ⟨H, σ, α, h, rfl, hT⟩ := h
  have hen : EnAt (w.alloc (.cells #[.iface 3 (.int .i64 k), .iface 3 (.int .i64 v)] 64)) B ⟨w.heap.size, k, v⟩ := ⟨Blk.new _ _ _, h.st.hB⟩
  have hb1 : Below B w (w.alloc (.cells #[.iface 3 (.int .i64 k), .iface 3 (.int .i64 v)] 64)) := (Below.refl _ _).alloc h.st.hB _
  have h1 := h.same ((Only.refl [] w).alloc (.cells #[.iface 3 (.int .i64 k), .iface 3 (.int .i64 v)] 64))
  by_cases hl0 : l = []
  · subst hl0
    have hr := h.none
    have on4 : Only [] (w.alloc (.cells #[.iface 3 (.int .i64 k), .iface 3 (.int .i64 v)] 64)) ((((w.alloc (.cells #[.iface 3 (.int .i64 k), .iface 3 (.int .i64 v)] 64)).alloc (.cells #[.pointer (some ⟨w.heap.size, 0, none⟩)] 62)).alloc (.cells #[] 45)).alloc (.cells #[.pointer none, .slice (some ⟨w.heap.size + 1, 0, none⟩) 1 1, .slice (some ⟨w.heap.size + 1 + 1, 0, none⟩) 0 0] 61)) := (((Only.refl [] _).alloc _).alloc _).alloc _
    have h4 := h1.same on4
    have hB := h.st.hB
    have n4 : NdRaw ((((w.alloc (.cells #[.iface 3 (.int .i64 k), .iface 3 (.int .i64 v)] 64)).alloc (.cells #[.pointer (some ⟨w.heap.size, 0, none⟩)] 62)).alloc (.cells #[] 45)).alloc (.cells #[.pointer none, .slice (some ⟨w.heap.size + 1, 0, none⟩) 1 1, .slice (some ⟨w.heap.size + 1 + 1, 0, none⟩) 0 0] 61)) B (w.heap.size + 1 + 1 + 1) none ⟨some ⟨w.heap.size + 1, 0, none⟩, 1, some ⟨w.heap.size + 1 + 1, 0, none⟩, 0⟩ 1 0 (enRow [⟨w.heap.size, k, v⟩]) (ndRow []) :=
      ⟨Blk.new' (by simp) _ _, list_own (L := [.pointer (some ⟨w.heap.size, 0, none⟩)]) (((Blk.new' (by simp) _ _).alloc _).alloc _) (by omega) (show 1 ≤ 1 from Nat.le_refl _) (show 1 ≤ maxLen by decide) rfl rfl, list_own (L := []) ((Blk.new' (by simp) _ _).alloc _) (by omega) (Nat.le_refl _) (Nat.zero_le _) rfl rfl, by show B ≤ (w.heap.size + 1 + 1 + 1); omega⟩
    have s4 := (h1.st.clear.add (i := (w.heap.size + 1 + 1 + 1)) (d' := ⟨none, [⟨w.heap.size, k, v⟩], [], 0⟩) (by simp) on4 n4 (fun x hx => by injection hx with hx; subst hx; simp) (fun x hx => by injection hx with hx; subst hx; simp) (fun e he => by simp only [List.mem_singleton] at he; subst he; exact ⟨hen.1.only on4 (by simp), hen.2⟩)).1
    obtain ⟨s5, b5⟩ := s4.setRoot (some (w.heap.size + 1 + 1 + 1))
    obtain ⟨s6, b6⟩ := s5.setSize 1
    simp only [ptr, Option.map_some] at s5 b5 s6 b6
    have g01 := h1.st.hcells.1
    have g0 := h4.st.hcells.1
    rw [hr] at g0 g01
    simp only [ptr, Option.map_none] at g0 g01
    have gf0 := h4.st.hd.frozen 0
    have g2 := s5.hcells.2.2.1
    have hs0 := h.size
    simp only [List.length_nil] at hs0
    simp only at g2
    rw [hs0] at g2
    have gf2 := s5.hd.frozen 2
    have S6 : Shp (upd (fun _ => none) (w.heap.size + 1 + 1 + 1) (some ⟨none, [⟨w.heap.size, k, v⟩], [], 0⟩)) (w.heap.size + 1 + 1 + 1) := one_shp _ _
    have FIN := Lib.hid (show BtHasT m o B ((((((w.alloc (.cells #[.iface 3 (.int .i64 k), .iface 3 (.int .i64 v)] 64)).alloc (.cells #[.pointer (some ⟨w.heap.size, 0, none⟩)] 62)).alloc (.cells #[] 45)).alloc (.cells #[.pointer none, .slice (some ⟨w.heap.size + 1, 0, none⟩) 1 1, .slice (some ⟨w.heap.size + 1 + 1, 0, none⟩) 0 0] 61)).setCell ⟨H.tb, 0, none⟩ (.pointer (some ⟨(w.heap.size + 1 + 1 + 1), 0, none⟩))).setCell ⟨H.tb, 2, none⟩ (.int .i64 1)) H.tb (ins o k v []) (putS m o k v T) ∧ Below B w ((((((w.alloc (.cells #[.iface 3 (.int .i64 k), .iface 3 (.int .i64 v)] 64)).alloc (.cells #[.pointer (some ⟨w.heap.size, 0, none⟩)] 62)).alloc (.cells #[] 45)).alloc (.cells #[.pointer none, .slice (some ⟨w.heap.size + 1, 0, none⟩) 1 1, .slice (some ⟨w.heap.size + 1 + 1, 0, none⟩) 0 0] 61)).setCell ⟨H.tb, 0, none⟩ (.pointer (some ⟨(w.heap.size + 1 + 1 + 1), 0, none⟩))).setCell ⟨H.tb, 2, none⟩ (.int .i64 1)) from
      ⟨⟨_, _, _, ⟨s6, .inr ⟨(w.heap.size + 1 + 1 + 1), rfl, S6, by rw [nk_leaf S6 (upd_at _ _ _) rfl]; rfl, one_fit h.m3.1⟩, rfl, (Asc.nil o).ins, h.fine, h.hm, h.m3⟩, rfl, by
        rw [← hT, hr]
        simp only [Option.map_some, Option.map_none, putS]
        rw [abs_row S6 (upd_at _ _ _)]; rfl⟩, ((hb1.trans (on4.below (by simp) h1.st.hB)).trans b5).trans b6⟩)
    clear hen hb1 h1 hr h on4 h4 n4 s4 s5 b5 s6 b6 S6 hs0 hB
    go_enter Try.func49, Try.ntmps49
    go_wp2_with fail
    (try simp only [Exit.inBlock, Exit.then])
    refine bodyPost_ret (results_none rfl _ _ _) rfl ?_
    exact ⟨rfl, FIN.out⟩
  · obtain ⟨rt, r, hr, S, hk, hf, hrt, hz⟩ := h1.top hl0
    have C := Lib.hid (insert_ok r.lv _ B rt rt H o σ α r ⟨w.heap.size, k, v⟩ h1.st h1.fine h1.m3 hr S hrt rfl hf (by rw [hk]; exact h1.asc) hen (Here.root S o k))
    have HEN := Lib.hid hen
    have HB1 := Lib.hid hb1
    have HH := Lib.hid h1
    have HK := Lib.hid hk
    have HL := Lib.hid hl
    have HT := Lib.hid (show putS m o k v T = some (insT m o k v (r.lv + 1) [] (abs σ rt)) from by
      rw [← hT, hr]
      simp only [Option.map_some, putS]
      rw [depT_abs S hrt])
    have g0 := h1.st.hcells.1
    rw [hr] at g0
    simp only [ptr, Option.map_some] at g0
    clear hen hb1 h1 hr S hk hf hrt hz hl0 h hl
    go_enter Try.func49, Try.ntmps49
    go_wp2_with fail
    refine C.out.mono ?_
    rintro e w3 ⟨rfl, σ3, α3, r3, s3, S3, k3, f3, b3, ab3⟩
    have AB3 := Lib.hid (show some (abs σ3 r3) = putS m o k v T from by
      have e2 := ab3 [] .root
      rw [HH.out.hm] at e2
      rw [HT.out, e2])
    clear ab3
    clear C g0
    rw [HK.out] at k3
    obtain ⟨_, _, g2, _⟩ := s3.hcells
    have gf2 := s3.hd.frozen 2
    have hlen := ins_length (k := k) (v := v) HH.out.asc
    have hsz := HH.out.size
    have hw1 : IntKind.i64.wrap (H.size + 1) = H.size + 1 := IntWalk.i64_in _ (by have := HL.out; omega)
    rw [HK.out]
    cases hlk : look o k l with
    | none =>
      rw [hlk] at hlen
      obtain ⟨s4, b4⟩ := s3.setSize (H.size + 1)
      have FIN := Lib.hid (show BtHasT m o B (w3.setCell ⟨H.tb, 2, none⟩ (.int .i64 (H.size + 1))) H.tb (ins o k v l) (putS m o k v T) ∧ Below B w (w3.setCell ⟨H.tb, 2, none⟩ (.int .i64 (H.size + 1))) from
        ⟨⟨_, _, _, ⟨s4, .inr ⟨r3, rfl, S3, k3, f3⟩, by simp only; rw [hlen, hsz]; simp, HH.out.asc.ins, HH.out.fine, HH.out.hm, HH.out.m3⟩, rfl, AB3.out⟩, (HB1.out.trans b3).trans b4⟩)
      clear s3 S3 k3 f3 b3 s4 b4 hlen hsz hlk
      simp only [Option.isNone_none]
      go_wp2_with fail
      go_end0
      exact ⟨rfl, FIN.out⟩
    | some p =>
      rw [hlk] at hlen
      have FIN := Lib.hid (show BtHasT m o B w3 H.tb (ins o k v l) (putS m o k v T) ∧ Below B w w3 from
        ⟨⟨_, _, _, ⟨s3, .inr ⟨r3, rfl, S3, k3, f3⟩, by simp only; rw [hlen, hsz]; simp, HH.out.asc.ins, HH.out.fine, HH.out.hm, HH.out.m3⟩, rfl, AB3.out⟩, HB1.out.trans b3⟩)
      clear s3 S3 k3 f3 b3 hlen hsz hlk hw1 g2 gf2
      simp only [Option.isNone_some]
      go_wp2_with fail
      go_end0
      exact ⟨rfl, FIN.out⟩
theorem btClear_has (h : BtHas m o B w tb l) :
    Calls Try.prog 46 #[.pointer (some ⟨tb, 0, none⟩)] w fun e w' => e = .returned (.tuple #[]) ∧ BtHas m o B w' tb [] ∧ Below B w w' := by
  obtain ⟨T, h⟩ := h.hasT
  exact (btClear_hasT h).mono fun _ _ k => ⟨k.1, k.2.1.has, k.2.2⟩
theorem btRemove_has (h : BtHas m o B w tb l) (k : Int) (hl : l.length ≤ 100000) :
    Calls Try.prog 50 #[.pointer (some ⟨tb, 0, none⟩), .iface 3 (.int .i64 k)] w fun e w' => e = .returned (.tuple #[]) ∧ BtHas m o B w' tb (del o k l) ∧ Below B w w' := by
  obtain ⟨T, h⟩ := h.hasT
  exact (btRemove_hasT h k hl).mono fun _ _ k => ⟨k.1, k.2.1.has, k.2.2⟩
theorem btPut_has (h : BtHas m o B w tb l) (k v : Int) (hl : l.length ≤ 100000) :
    Calls Try.prog 49 #[.pointer (some ⟨tb, 0, none⟩), .iface 3 (.int .i64 k), .iface 3 (.int .i64 v)] w fun e w' => e = .returned (.tuple #[]) ∧ BtHas m o B w' tb (ins o k v l) ∧ Below B w w' := by
  obtain ⟨T, h⟩ := h.hasT
  exact (btPut_hasT h k v hl).mono fun _ _ k => ⟨k.1, k.2.1.has, k.2.2⟩
end
end Go.Proofs.Ytgakapigpiaoiaa.Bt

namespace Go.Proofs.Ytgakapigpiaoiaa.Bt
open Go.RowKit Go.Proofs.Ytgakapigpiaoiaa
@[go_sem] theorem bt_method_Put (n : Nat) (a : Addr) (w : World) : (method (n + 1) 50 (.pointer (some a)) "Put").run Try.prog w = .ok (49, .pointer (some a)) w := by kernel_rfl
@[go_sem] theorem bt_method_Remove (n : Nat) (a : Addr) (w : World) : (method (n + 1) 50 (.pointer (some a)) "Remove").run Try.prog w = .ok (50, .pointer (some a)) w := by kernel_rfl
@[go_sem] theorem bt_method_Clear (n : Nat) (a : Addr) (w : World) : (method (n + 1) 50 (.pointer (some a)) "Clear").run Try.prog w = .ok (46, .pointer (some a)) w := by kernel_rfl
set_option maxRecDepth 100000 in
theorem btDone_walk (m : Int) (o : Ord) (B tb n cap : Nat) (A : Option Addr) (acts : List Do) (w : World) (hn : acts.length = n) (hn1 : n ≤ 1000) (ha : ActsAt w B A acts) (l0 : KV) (hl0 : l0.length ≤ 1000) (h0 : BtHas m o B w tb l0) :
    Calls Try.prog 24 #[.iface 50 (.pointer (some ⟨tb, 0, none⟩)), .slice A n cap] w fun e w' =>
      e = .returned (.tuple #[]) ∧ BtHas m o B w' tb (acts.foldl (step o) l0) ∧ Below B w w' := by
  go_enter Try.func24, Try.ntmps24
  go_wp2_with fail
  go_loopw [8] (fun i wr => ∃ k : Nat, k ≤ n ∧ i = .int .i64 k ∧ BtHas m o B wr tb ((acts.take k).foldl (step o) l0) ∧ Below B w wr) (fun i _ => n - (intOf i).toNat)
  case atStart => exact ⟨0, Nat.zero_le _, rfl, h0, Below.refl _ _⟩
  case round =>
    obtain ⟨k, hk, rfl, hh, hb⟩ := hrel
    by_cases hlt : k < n
    · obtain ⟨a, d, rfl, hab, hd, c0, c1, c2⟩ := ActsAt.at_ (ha.below hb) (i := k) (by omega)
      have hsz := hh.size
      have hlen := foldl_take_length o l0 h0.asc acts k
      have fin := fun (w2 : World) (h2 : BtHas m o B w2 tb (step o ((acts.take k).foldl (step o) l0) d)) (b2 : Below B (wr.alloc (.cells #[.int .i64 d.op, .int .i64 d.key, .int .i64 d.val] 55)) w2) =>
        show BtHas m o B w2 tb ((acts.take (k + 1)).foldl (step o) l0) ∧ Below B w w2 from
          ⟨by rw [foldl_take_succ o l0 acts k d hd]; exact h2, (hb.alloc hsz _).trans b2⟩
      generalize hL : (acts.take k).foldl (step o) l0 = L at *
      have Hh := Lib.hid (hh.alloc (.cells #[.int .i64 d.op, .int .i64 d.key, .int .i64 d.val] 55))
      have Hb := Lib.hid hb
      have Ha := Lib.hid ha
      have H0 := Lib.hid h0
      have HL := Lib.hid hL
      have Fin := Lib.hid fin
      have Hlen := Lib.hid hlen
      clear hh hb ha h0 hd hL fin hsz hlen
      by_cases h1 : d.op = 1
      · have e1 := Lib.hid (show step o L d = ins o d.key d.val L by unfold step; rw [if_pos h1])
        rw [h1] at c0 Hh Fin
        clear h1
        go_wp2_with fail
        refine (btPut_has Hh.out _ _ (by have := Hlen.out; omega)).mono ?_
        rintro e w2 ⟨rfl, h2, b2⟩
        rw [← e1.out] at h2
        have F := Lib.hid (Fin.out _ h2 b2)
        clear h2 b2
        go_wp2_with fail
        go_roundw
        case rel => exact ⟨k + 1, by omega, by go_num, F.out.1, F.out.2⟩
        case measure => simp [intOf]; omega
      · by_cases h2 : d.op = 2
        · have e1 := Lib.hid (show step o L d = del o d.key L by unfold step; rw [if_neg h1, if_pos h2])
          rw [h2] at c0 Hh Fin
          clear h1 h2
          go_wp2_with fail
          refine (btRemove_has Hh.out _ (by have := Hlen.out; omega)).mono ?_
          rintro e w2 ⟨rfl, h2, b2⟩
          rw [← e1.out] at h2
          have F := Lib.hid (Fin.out _ h2 b2)
          clear h2 b2
          go_wp2_with fail
          go_roundw
          case rel => exact ⟨k + 1, by omega, by go_num, F.out.1, F.out.2⟩
          case measure => simp [intOf]; omega
        · by_cases h3 : d.op = 3
          · have e1 := Lib.hid (show step o L d = [] by unfold step; rw [if_neg h1, if_neg h2, if_pos h3])
            rw [h3] at c0 Hh Fin
            clear h1 h2 h3
            go_wp2_with fail
            refine (btClear_has Hh.out).mono ?_
            rintro e w2 ⟨rfl, h2, b2⟩
            rw [← e1.out] at h2
            have F := Lib.hid (Fin.out _ h2 b2)
            clear h2 b2
            go_wp2_with fail
            go_roundw
            case rel => exact ⟨k + 1, by omega, by go_num, F.out.1, F.out.2⟩
            case measure => simp [intOf]; omega
          · have e1 : step o L d = L := by unfold step; rw [if_neg h1, if_neg h2, if_neg h3]
            have h2' := Hh.out
            rw [← e1] at h2'
            have F := Lib.hid (Fin.out _ h2' (Below.refl _ _))
            have g1 : (d.op == 1) = false := by simpa using h1
            have g2 : (d.op == 2) = false := by simpa using h2
            have g3 : (d.op == 3) = false := by simpa using h3
            clear e1 h2' h1 h2 h3
            go_wp2_with fail
            go_roundw
            case rel => exact ⟨k + 1, by omega, by go_num, F.out.1, F.out.2⟩
            case measure => simp [intOf]; omega
    · have hkn : k = n := by omega
      have F : BtHas m o B wr tb (acts.foldl (step o) l0) := by rw [← List.take_of_length_le (l := acts) (i := k) (by omega)]; exact hh
      have HF := Lib.hid F
      have Hb := Lib.hid hb
      clear hh hb ha h0 F hkn
      go_wp2_with fail
      go_end0
      exact ⟨rfl, HF.out, Hb.out⟩
theorem btNew_walk (m : Int) (hm : 3 ≤ m) (ob : Nat) (w : World) : Calls Try.prog 22 #[.int .i64 m, cmpv ob] w fun e w' =>
    e = .returned (.pointer (some ⟨w.heap.size, 0, none⟩)) ∧ w.alloc (.cells #[.pointer none, cmpv ob, .int .i64 0, .int .i64 m] 49) = w' := by
  have hd : decide (m < 3) = false := decide_eq_false (by omega)
  go_enter Try.func22, Try.ntmps22
  go_wp2_with fail
  go_ret
  exact ⟨rfl, rfl⟩
theorem bt_walk (m : Int) (hm : 3 ≤ m ∧ m ≤ 64) (o : Ord) (ho : o.fine) (n cap : Nat) (A : Option Addr) (acts : List Do) (w : World) (hn : acts.length = n) (hn1 : n ≤ 1000) (ha : ActsAt w w.heap.size A acts) :
    Calls Try.prog 17 #[.int .i64 m, .agg #[.int .i64 o.kind, .int .i64 o.m], .slice A n cap] w fun e w' =>
      ∃ tb, e = .returned (.pointer (some ⟨tb, 0, none⟩)) ∧ BtHas m o w.heap.size w' tb (run o acts) ∧ Below w.heap.size w w' := by
  have Ha := Lib.hid ha
  clear ha
  go_enter Try.func17, Try.ntmps17
  go_wp2_with fail
  refine (by_walk o _).mono ?_
  rintro e w1 ⟨rfl, rfl⟩
  go_wp2_with fail
  refine (btNew_walk m hm.1 _ _).mono ?_
  rintro e w1 ⟨rfl, rfl⟩
  have h0 : BtHas m o w.heap.size (((w.alloc (.cells #[.int .i64 o.kind, .int .i64 o.m] 23)).alloc (.cells #[.int .i64 o.kind, .int .i64 o.m] 23)).alloc (.cells #[.pointer none, cmpv (w.heap.size + 1), .int .i64 0, .int .i64 m] 49)) (w.heap.size + 1 + 1) [] := by
    refine ⟨⟨w.heap.size + 1 + 1, w.heap.size + 1, none, 0, m⟩, fun _ => none, fun _ => ⟨none, 0, none, 0⟩, ⟨⟨Blk.new' (by simp) _ _, by simp only; omega, (Blk.new' (by simp) _ _).alloc _, fun _ _ h => by (cases h), fun _ _ _ h => by (cases h), fun _ _ _ _ h => by (cases h), fun _ _ _ _ h => by (cases h)⟩, .inl ⟨rfl, rfl⟩, rfl, Asc.nil o, ho, rfl, hm⟩, rfl⟩
  have b0 : Below w.heap.size w (((w.alloc (.cells #[.int .i64 o.kind, .int .i64 o.m] 23)).alloc (.cells #[.int .i64 o.kind, .int .i64 o.m] 23)).alloc (.cells #[.pointer none, cmpv (w.heap.size + 1), .int .i64 0, .int .i64 m] 49)) :=
    (((Below.refl _ _).alloc (Nat.le_refl _) _).alloc (by simp) _).alloc (by simp; omega) _
  have H0 := Lib.hid h0
  have B0 := Lib.hid b0
  clear h0 b0
  go_wp2_with fail
  refine (btDone_walk m o w.heap.size _ n cap A acts _ hn hn1 (Ha.out.below B0.out) [] (by simp) H0.out).mono ?_
  rintro e w2 ⟨rfl, h2, b2⟩
  have H2 := Lib.hid h2
  have B2 := Lib.hid (B0.out.trans b2)
  clear h2 b2
  go_wp2_with fail
  go_ret
  exact ⟨_, rfl, H2.out, B2.out⟩
end Go.Proofs.Ytgakapigpiaoiaa.Bt
