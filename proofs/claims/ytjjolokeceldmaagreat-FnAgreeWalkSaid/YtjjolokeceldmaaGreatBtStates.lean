/-
  Several texts as one (BtIt, BtKeys, BtState, BtGrows, KeptBBt): each says its own in its remarks.
-/
import Derived.Test.YtjjolokeceldmaaGreatBtIterP
import Derived.Test.YtjjolokeceldmaaGreatBtTops
import Derived.Test.YtjjolokeceldmaaGreatSpecSame
import Derived.Test.YtjjolokeceldmaaGreatBases
import Derived.Test.YtjjolokeceldmaaGreatRows0
import Derived.Test.YtjjolokeceldmaaGreatKeptBase
namespace Go.Proofs.YtjjolokeceldmaaGreat.Bt
open Go.RowKit Lib Go.Proofs.YtjjolokeceldmaaGreat
structure BtItAt (m : Int) (o : Ord) (B : Nat) (w : World) (H : Hd) (σ : Store) (α : Nat → Arr) (l : KV) (itb p : Nat) : Prop where
 at_ : BtAt m o B w H σ α l
 it : (p = 0 ∧ Blk w itb 57 (itC H.tb none none 0)) ∨ (p = l.length + 1 ∧ Blk w itb 57 (itC H.tb none none 2)) ∨ ∃ rt i e L R, H.root = some rt ∧ p = L.length + 1 ∧ Spot σ rt i e L R ∧ Blk w itb 57 (itC H.tb (some i) (some e.b) 1)
 lo : B ≤ itb
section
variable {m : Int} {o : Ord} {B itb p g rt : Nat} {w w' : World} {H : Hd} {σ : Store} {α : Nat → Arr} {l : KV}
theorem BtItAt.blk (h : BtItAt m o B w H σ α l itb p) : ∃ n e q, Blk w itb 57 (itC H.tb n e q) := by
 rcases h.it with ⟨_, hb⟩ | ⟨_, hb⟩ | ⟨_, i, e, _, _, _, _, _, hb⟩
 ·exact ⟨_, _, _, hb⟩
 ·exact ⟨_, _, _, hb⟩
 ·exact ⟨_, _, _, hb⟩
theorem BtItAt.le (h : BtItAt m o B w H σ α l itb p) : p ≤ l.length + 1 := by
 rcases h.it with ⟨e, _⟩ | ⟨e, _⟩ | ⟨rt, i, e, L, R, hr, hp, sp, _⟩
 ·omega
 ·omega
 ·rcases h.at_.rooted with ⟨h1, _⟩ | ⟨rt', h1, S, h3, _⟩
  ·rw [hr] at h1; cases h1
  ·rw [hr] at h1; injection h1 with h1; subst h1
   have := sp.now S
   rw [h3] at this
   rw [this, hp]; simp
theorem BtItAt.far (h : BtItAt m o B w H σ α l itb p) (a : BtAt m o B w' H σ α l) {S : List Nat} (k : Only S w w') (hg : itb ∉ S) : BtItAt m o B w' H σ α l itb p := by
 refine ⟨a, ?_, h.lo⟩
 rcases h.it with ⟨e, hb⟩ | ⟨e, hb⟩ | ⟨rt, i, e, L, R, hr, hp, sp, hb⟩
 ·exact .inl ⟨e, hb.only k hg⟩
 ·exact .inr (.inl ⟨e, hb.only k hg⟩)
 ·exact .inr (.inr ⟨rt, i, e, L, R, hr, hp, sp, hb.only k hg⟩)
theorem BtItAt.drewN (h : BtItAt m o B w H σ α l itb p) (n : Nat) : BtItAt m o B (w.drewN n) H σ α l itb p :=
 h.far (h.at_.drewN n) (S := []) ⟨rfl, rfl, rfl, Nat.le_refl _, fun _ _ _ => rfl⟩ (by simp)
theorem HitL.at_ (h : BtAt m o B w H σ α l) (hr : H.root = some rt) (S : Shp σ rt) (hk : nk σ rt = l) {cs : Array Value} (hb : Blk w itb 57 cs) (hlo : B ≤ itb) {LE : KV} {e : Ending} (t : HitL w itb H.tb σ rt LE e w') :
 e = .returned (.bool true) ∧ LE.length < l.length ∧ BtItAt m o B w' H σ α l itb (LE.length + 1) ∧ Only [itb] w w' := by
 obtain ⟨rfl, i, f, R', sp, hb', on⟩ := t
 have e1 := sp.now S
 rw [hk] at e1
 exact ⟨rfl, by rw [e1]; simp, ⟨h.it hb on, .inr (.inr ⟨rt, i, f, LE, R', hr, rfl, sp, hb'⟩), hlo⟩, on⟩
theorem HitR.at_ (h : BtAt m o B w H σ α l) (hr : H.root = some rt) (S : Shp σ rt) (hk : nk σ rt = l) {cs : Array Value} (hb : Blk w itb 57 cs) (hlo : B ≤ itb) {RE : KV} {e : Ending} (t : HitR w itb H.tb σ rt RE e w') :
 e = .returned (.bool true) ∧ RE.length < l.length ∧ BtItAt m o B w' H σ α l itb (l.length - RE.length) ∧ Only [itb] w w' := by
 obtain ⟨rfl, i, f, L', sp, hb', on⟩ := t
 have e1 := sp.now S
 rw [hk] at e1
 have e2 : l.length = L'.length + (RE.length + 1) := by rw [e1]; simp
 exact ⟨rfl, by omega, ⟨h.it hb on, .inr (.inr ⟨rt, i, f, L', RE, hr, by omega, sp, hb'⟩), hlo⟩, on⟩
theorem Out.end_ (h : BtAt m o B w H σ α l) {cs : Array Value} (hb : Blk w itb 57 cs) (hlo : B ≤ itb) {e : Ending} (t : Out w itb H.tb 2 e w') :
 e = .returned (.bool false) ∧ BtItAt m o B w' H σ α l itb (l.length + 1) ∧ Only [itb] w w' := ⟨t.1, ⟨h.it hb t.2.2, .inr (.inl ⟨rfl, t.2.1⟩), hlo⟩, t.2.2⟩
theorem Out.begin_ (h : BtAt m o B w H σ α l) {cs : Array Value} (hb : Blk w itb 57 cs) (hlo : B ≤ itb) {e : Ending} (t : Out w itb H.tb 0 e w') :
 e = .returned (.bool false) ∧ BtItAt m o B w' H σ α l itb 0 ∧ Only [itb] w w' := ⟨t.1, ⟨h.it hb t.2.2, .inl ⟨rfl, t.2.1⟩, hlo⟩, t.2.2⟩
theorem btItNext_walk (h : BtItAt m o B w H σ α l itb p) :
 Calls Tryz.prog 113 #[.pointer (some ⟨itb, 0, none⟩)] w fun e w' => e = .returned (.bool (decide (p < l.length))) ∧ BtItAt m o B w' H σ α l itb (min (p + 1) (l.length + 1)) ∧ Only [itb] w w' := by
 have ha := h.at_
 have hlo := h.lo
 rcases h.it with ⟨rfl, hb⟩ | ⟨rfl, hb⟩ | ⟨rt, i, e, L, R, hr, rfl, sp, hb⟩
 ·by_cases hl : l = []
  ·subst hl
   refine (itNext_none ha hb).mono ?_
   intro e w' t
   obtain ⟨rfl, t1, t2⟩ := Out.end_ ha hb hlo t
   exact ⟨by simp, by simpa using t1, t2⟩
  ·obtain ⟨rt, r, hr, S, hk, hf, _, hz⟩ := ha.top hl
   refine (itNext_start ha hr S hz hf hb).mono ?_
   intro e w' t
   obtain ⟨rfl, t0, t1, t2⟩ := HitL.at_ ha hr S hk hb hlo t
   simp only [List.length_nil] at t0 t1
   exact ⟨by simp [t0], by rw [show min (0 + 1) (l.length + 1) = 0 + 1 by omega]; exact t1, t2⟩
 ·refine (itNext_over hb).mono ?_
  intro e w' t
  obtain ⟨rfl, t1, t2⟩ := Out.end_ ha hb hlo t
  exact ⟨by simp, by rw [show min (l.length + 1 + 1) (l.length + 1) = l.length + 1 by omega]; exact t1, t2⟩
 ·rcases ha.rooted with ⟨h1, _⟩ | ⟨rt', h1, S, hk, hf⟩
  ·rw [hr] at h1; cases h1
  rw [hr] at h1; injection h1 with h1; subst h1
  have hasc : Asc o (nk σ rt) := by rw [hk]; exact ha.asc
  have hnow := sp.now S
  obtain ⟨d, n, L0, R0, hi, he, hn, cx, hL, hR, _⟩ := spot_at S hasc sp
  have hlen : l.length = L.length + (R.length + 1) := by rw [← hk, hnow]; simp
  have fin : ∀ (e' : Ending) (w' : World), HitL w itb H.tb σ rt (L ++ [e.kv]) e' w' → e' = .returned (.bool (decide (L.length + 1 < l.length))) ∧ BtItAt m o B w' H σ α l itb (min (L.length + 1 + 1) (l.length + 1)) ∧ Only [itb] w w' := by
   intro e' w' t
   obtain ⟨rfl, t0, t1, t2⟩ := HitL.at_ ha hr S hk hb hlo t
   simp only [List.length_append, List.length_singleton] at t0 t1
   exact ⟨by simp [t0], by rw [show min (L.length + 1 + 1) (l.length + 1) = L.length + 1 + 1 by omega]; exact t1, t2⟩
  rcases Nat.eq_zero_or_pos d.lv with h0 | h0
  ·have hks := S.leaf i d hi h0
   by_cases hn1 : n + 1 < d.es.length
   ·have := itNext_leaf ha S hasc hf hi hks he (List.getElem?_eq_getElem hn1) cx hb
    rw [← hL] at this
    exact this.mono fin
   ·have hnow2 : nk σ rt = (L ++ [e.kv]) ++ R := by rw [hnow]; simp
    by_cases hre : R = []
    ·subst hre
     have := itNext_out ha S hasc hf hi hks he cx hb (by omega) (by rw [← hL]; exact hnow2)
     refine this.mono ?_
     intro e' w' t
     obtain ⟨rfl, t1, t2⟩ := Out.end_ ha hb hlo t
     simp only [List.length_nil] at hlen
     exact ⟨by simp [hlen], by rw [show min (L.length + 1 + 1) (l.length + 1) = l.length + 1 by omega]; exact t1, t2⟩
    ·have := itNext_up ha S hasc hf hi hks he cx hb (by omega) (by rw [← hL]; exact hnow2) hre
     rw [← hL] at this
     exact this.mono fin
  ·have hkl := S.inner i d hi h0
   have := itNext_down ha S hasc hf hi he (List.getElem?_eq_getElem (show n + 1 < d.ks.length by omega)) cx hb
   rw [← hL] at this
   exact this.mono fin
theorem btItPrev_walk (h : BtItAt m o B w H σ α l itb p) :
 Calls Tryz.prog 150 #[.pointer (some ⟨itb, 0, none⟩)] w fun e w' => e = .returned (.bool (decide (1 < p))) ∧ BtItAt m o B w' H σ α l itb (p - 1) ∧ Only [itb] w w' := by
 have ha := h.at_
 have hlo := h.lo
 rcases h.it with ⟨rfl, hb⟩ | ⟨rfl, hb⟩ | ⟨rt, i, e, L, R, hr, rfl, sp, hb⟩
 ·refine (itPrev_over hb).mono ?_
  intro e w' t
  obtain ⟨rfl, t1, t2⟩ := Out.begin_ ha hb hlo t
  exact ⟨by simp, t1, t2⟩
 ·by_cases hl : l = []
  ·subst hl
   refine (itPrev_none ha hb).mono ?_
   intro e w' t
   obtain ⟨rfl, t1, t2⟩ := Out.begin_ ha hb hlo t
   exact ⟨by simp, t1, t2⟩
  ·obtain ⟨rt, r, hr, S, hk, hf, _, hz⟩ := ha.top hl
   refine (itPrev_start ha hr S hz hf hb).mono ?_
   intro e w' t
   obtain ⟨rfl, t0, t1, t2⟩ := HitR.at_ ha hr S hk hb hlo t
   simp only [List.length_nil] at t0 t1
   exact ⟨by simp [t0], by rw [show l.length + 1 - 1 = l.length - 0 by omega]; exact t1, t2⟩
 ·rcases ha.rooted with ⟨h1, _⟩ | ⟨rt', h1, S, hk, hf⟩
  ·rw [hr] at h1; cases h1
  rw [hr] at h1; injection h1 with h1; subst h1
  have hasc : Asc o (nk σ rt) := by rw [hk]; exact ha.asc
  have hnow := sp.now S
  obtain ⟨d, n, L0, R0, hi, he, hn, cx, hL, hR, _⟩ := spot_at S hasc sp
  have hlen : l.length = L.length + (R.length + 1) := by rw [← hk, hnow]; simp
  have fin : ∀ (e' : Ending) (w' : World), HitR w itb H.tb σ rt (e.kv :: R) e' w' → e' = .returned (.bool (decide (1 < L.length + 1))) ∧ BtItAt m o B w' H σ α l itb (L.length + 1 - 1) ∧ Only [itb] w w' := by
   intro e' w' t
   obtain ⟨rfl, t0, t1, t2⟩ := HitR.at_ ha hr S hk hb hlo t
   simp only [List.length_cons] at t0 t1
   exact ⟨by have : 1 < L.length + 1 := by omega
             simp [this], by rw [show L.length + 1 - 1 = l.length - (R.length + 1) by omega]; exact t1, t2⟩
  rcases Nat.eq_zero_or_pos d.lv with h0 | h0
  ·have hks := S.leaf i d hi h0
   cases n with
   | succ n =>
     have := itPrev_leaf ha S hasc hf hi hks he (List.getElem?_eq_getElem (show n < d.es.length by omega)) cx hb
     rw [← hR] at this
     exact this.mono fin
   | zero =>
     by_cases hre : L = []
     ·subst hre
      have := itPrev_out ha S hasc hf hi hks he cx hb (by rw [← hR]; exact hnow)
      refine this.mono ?_
      intro e' w' t
      obtain ⟨rfl, t1, t2⟩ := Out.begin_ ha hb hlo t
      exact ⟨by simp, t1, t2⟩
     ·have := itPrev_up ha S hasc hf hi hks he cx hb (by rw [← hR]; exact hnow) hre
      rw [← hR] at this
      exact this.mono fin
  ·have hkl := S.inner i d hi h0
   have := itPrev_down ha S hasc hf hi he (List.getElem?_eq_getElem (show n < d.ks.length by omega)) cx hb
   rw [← hR] at this
   exact this.mono fin
theorem btItBegin_walk (h : BtItAt m o B w H σ α l itb p) :
 Calls Tryz.prog 146 #[.pointer (some ⟨itb, 0, none⟩)] w fun e w' => e = .returned (.tuple #[]) ∧ BtItAt m o B w' H σ α l itb 0 ∧ Only [itb] w w' := by
 obtain ⟨n, e, q, hb⟩ := h.blk
 refine (itBegin_walk hb).mono ?_
 rintro e w' ⟨rfl, hb', on⟩
 exact ⟨rfl, ⟨h.at_.it hb on, .inl ⟨rfl, hb'⟩, h.lo⟩, on⟩
theorem btItEnd_walk (h : BtItAt m o B w H σ α l itb p) :
 Calls Tryz.prog 121 #[.pointer (some ⟨itb, 0, none⟩)] w fun e w' => e = .returned (.tuple #[]) ∧ BtItAt m o B w' H σ α l itb (l.length + 1) ∧ Only [itb] w w' := by
 obtain ⟨n, e, q, hb⟩ := h.blk
 refine (itEnd_walk hb).mono ?_
 rintro e w' ⟨rfl, hb', on⟩
 exact ⟨rfl, ⟨h.at_.it hb on, .inr (.inl ⟨rfl, hb'⟩), h.lo⟩, on⟩
theorem BtItAt.on_ {q : Nat} {k v : Int} (h : BtItAt m o B w H σ α l itb (q + 1)) (hq : l[q]? = some (k, v)) : ∃ (i : Nat) (e : En), EnAt w B e ∧ e.k = k ∧ e.v = v ∧ Blk w itb 57 (itC H.tb (some i) (some e.b) 1) := by
 have hlt := (List.getElem?_eq_some_iff.1 hq).1
 rcases h.it with ⟨h0, hb⟩ | ⟨h0, hb⟩ | ⟨rt, i, e, L, R, hr, hp, sp, hb⟩
 ·omega
 ·omega
 ·rcases h.at_.rooted with ⟨h1, _⟩ | ⟨rt', h1, S, hk, hf⟩
  ·rw [hr] at h1; cases h1
  rw [hr] at h1; injection h1 with h1; subst h1
  have hnow := sp.now S
  obtain ⟨d, eL, eR, L0, R0, hi, he, _⟩ := sp
  have e1 : L.length = q := by omega
  rw [← hk, hnow, ← e1, List.getElem?_append_right (Nat.le_refl _)] at hq
  simp only [Nat.sub_self, List.getElem?_cons_zero, Option.some.injEq, En.kv, Prod.mk.injEq] at hq
  exact ⟨i, e, h.at_.st.en i d e hi (by rw [he]; simp), hq.1, hq.2, hb⟩
theorem btItKey_walk {q : Nat} {k v : Int} (h : BtItAt m o B w H σ α l itb (q + 1)) (hq : l[q]? = some (k, v)) :
 Calls Tryz.prog 114 #[.pointer (some ⟨itb, 0, none⟩)] w fun e w' => e = .returned (.iface 3 (.int .i64 k)) ∧ w' = w := by
 obtain ⟨i, e, he, rfl, rfl, hb⟩ := h.on_ hq
 exact itKey_walk he hb
theorem btItValue_walk {q : Nat} {k v : Int} (h : BtItAt m o B w H σ α l itb (q + 1)) (hq : l[q]? = some (k, v)) :
 Calls Tryz.prog 118 #[.pointer (some ⟨itb, 0, none⟩)] w fun e w' => e = .returned (.iface 3 (.int .i64 v)) ∧ w' = w := by
 obtain ⟨i, e, he, rfl, rfl, hb⟩ := h.on_ hq
 exact itValue_walk he hb
theorem btIterator_walk (w : World) (tb : Nat) : Calls Tryz.prog 17 #[.pointer (some ⟨tb, 0, none⟩)] w fun e w' =>
 e = .returned (.agg #[.pointer (some ⟨tb, 0, none⟩), .pointer none, .pointer none, .int .u8 0]) ∧ w' = w.alloc (.cells #[.pointer (some ⟨tb, 0, none⟩), .pointer none, .pointer none, .int .u8 0] 57) := by
 have FB := hid (show Blk (w.alloc (.cells (itC tb none none 0) 57)) w.heap.size 57 (itC tb none none 0) from Blk.new _ _ _)
 go_enter Tryz.func17, Tryz.ntmps17
 go_wp2_with fail
 refine bodyPost_ret (results_cell_row rfl _ _ w.heap.size _ _ (0, 0) _ rfl FB.out Tryz.underlying57 rfl it_size) rfl ?_
 exact ⟨rfl, rfl⟩
end
end Go.Proofs.YtjjolokeceldmaaGreat.Bt

namespace Go.Proofs.YtjjolokeceldmaaGreat.Bt
open Go.RowKit Go.Proofs.YtjjolokeceldmaaGreat
@[go_sem] theorem bt_method_Next (n : Nat) (a : Addr) (w : World) : (method (n + 1) 60 (.pointer (some a)) "Next").run Tryz.prog w = .ok (113, .pointer (some a)) w := by kernel_rfl
@[go_sem] theorem bt_method_Key (n : Nat) (a : Addr) (w : World) : (method (n + 1) 60 (.pointer (some a)) "Key").run Tryz.prog w = .ok (114, .pointer (some a)) w := by kernel_rfl
@[go_sem] theorem bt_method_Value (n : Nat) (a : Addr) (w : World) : (method (n + 1) 60 (.pointer (some a)) "Value").run Tryz.prog w = .ok (118, .pointer (some a)) w := by kernel_rfl
end Go.Proofs.YtjjolokeceldmaaGreat.Bt

namespace Go.Proofs.YtjjolokeceldmaaGreat.Bt
open Go.RowKit Go.Proofs.YtjjolokeceldmaaGreat
end Go.Proofs.YtjjolokeceldmaaGreat.Bt

namespace Go.Proofs.YtjjolokeceldmaaGreat.Bt
open Go.RowKit Go.Proofs.YtjjolokeceldmaaGreat
end Go.Proofs.YtjjolokeceldmaaGreat.Bt

namespace Go.Proofs.YtjjolokeceldmaaGreat.Bt
open Go.RowKit Go.Proofs.YtjjolokeceldmaaGreat
end Go.Proofs.YtjjolokeceldmaaGreat.Bt
