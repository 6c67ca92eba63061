/-
  Several texts as one (BtIt, BtKeys, BtState, BtGrows, KeptBBt): each says its own in its remarks.
-/
import Derived.Test.YtgakapigpiaoiaaBtIterP
import Derived.Test.YtgakapigpiaoiaaBtTops
import Derived.Test.YtgakapigpiaoiaaSpecSame
import Derived.Test.YtgakapigpiaoiaaBases
import Derived.Test.YtgakapigpiaoiaaRows0
import Derived.Test.YtgakapigpiaoiaaKeptBase
namespace Go.Proofs.Ytgakapigpiaoiaa.Bt
open Go.RowKit Go.Proofs.Ytgakapigpiaoiaa
structure BtItAt (m : Int) (o : Ord) (B : Nat) (w : World) (H : Hd) (σ : Store) (α : Nat → Arr) (l : KV) (itb p : Nat) : Prop where
  at_ : BtAt m o B w H σ α l
  it : (p = 0 ∧ Blk w itb 94 (itC H.tb none none 0)) ∨ (p = l.length + 1 ∧ Blk w itb 94 (itC H.tb none none 2)) ∨ ∃ rt i e L R, H.root = some rt ∧ p = L.length + 1 ∧ Spot σ rt i e L R ∧ Blk w itb 94 (itC H.tb (some i) (some e.b) 1)
  lo : B ≤ itb
section
variable {m : Int} {o : Ord} {B itb p g rt : Nat} {w w' : World} {H : Hd} {σ : Store} {α : Nat → Arr} {l : KV}
theorem BtItAt.le (h : BtItAt m o B w H σ α l itb p) : p ≤ l.length + 1 := by
  rcases h.it with ⟨e, _⟩ | ⟨e, _⟩ | ⟨rt, i, e, L, R, hr, hp, sp, _⟩
  · omega
  · omega
  · rcases h.at_.rooted with ⟨h1, _⟩ | ⟨rt', h1, S, h3, _⟩
    · rw [hr] at h1; cases h1
    · rw [hr] at h1; injection h1 with h1; subst h1
      have := sp.now S
      rw [h3] at this
      rw [this, hp]; simp
theorem BtItAt.far (h : BtItAt m o B w H σ α l itb p) (a : BtAt m o B w' H σ α l) {S : List Nat} (k : Only S w w') (hg : itb ∉ S) : BtItAt m o B w' H σ α l itb p := by
  refine ⟨a, ?_, h.lo⟩
  rcases h.it with ⟨e, hb⟩ | ⟨e, hb⟩ | ⟨rt, i, e, L, R, hr, hp, sp, hb⟩
  · exact .inl ⟨e, hb.only k hg⟩
  · exact .inr (.inl ⟨e, hb.only k hg⟩)
  · exact .inr (.inr ⟨rt, i, e, L, R, hr, hp, sp, hb.only k hg⟩)
theorem HitL.at_ (h : BtAt m o B w H σ α l) (hr : H.root = some rt) (S : Shp σ rt) (hk : nk σ rt = l) {cs : Array Value} (hb : Blk w itb 94 cs) (hlo : B ≤ itb) {LE : KV} {e : Ending} (t : HitL w itb H.tb σ rt LE e w') :
    e = .returned (.bool true) ∧ LE.length < l.length ∧ BtItAt m o B w' H σ α l itb (LE.length + 1) ∧ Only [itb] w w' := by
  obtain ⟨rfl, i, f, R', sp, hb', on⟩ := t
  have e1 := sp.now S
  rw [hk] at e1
  exact ⟨rfl, by rw [e1]; simp, ⟨h.it hb on, .inr (.inr ⟨rt, i, f, LE, R', hr, rfl, sp, hb'⟩), hlo⟩, on⟩
theorem HitR.at_ (h : BtAt m o B w H σ α l) (hr : H.root = some rt) (S : Shp σ rt) (hk : nk σ rt = l) {cs : Array Value} (hb : Blk w itb 94 cs) (hlo : B ≤ itb) {RE : KV} {e : Ending} (t : HitR w itb H.tb σ rt RE e w') :
    e = .returned (.bool true) ∧ RE.length < l.length ∧ BtItAt m o B w' H σ α l itb (l.length - RE.length) ∧ Only [itb] w w' := by
  obtain ⟨rfl, i, f, L', sp, hb', on⟩ := t
  have e1 := sp.now S
  rw [hk] at e1
  have e2 : l.length = L'.length + (RE.length + 1) := by rw [e1]; simp
  exact ⟨rfl, by omega, ⟨h.it hb on, .inr (.inr ⟨rt, i, f, L', RE, hr, by omega, sp, hb'⟩), hlo⟩, on⟩
theorem Out.end_ (h : BtAt m o B w H σ α l) {cs : Array Value} (hb : Blk w itb 94 cs) (hlo : B ≤ itb) {e : Ending} (t : Out w itb H.tb 2 e w') :
    e = .returned (.bool false) ∧ BtItAt m o B w' H σ α l itb (l.length + 1) ∧ Only [itb] w w' := ⟨t.1, ⟨h.it hb t.2.2, .inr (.inl ⟨rfl, t.2.1⟩), hlo⟩, t.2.2⟩
theorem btItNext_walk (h : BtItAt m o B w H σ α l itb p) :
    Calls Try.prog 55 #[.pointer (some ⟨itb, 0, none⟩)] w fun e w' => e = .returned (.bool (decide (p < l.length))) ∧ BtItAt m o B w' H σ α l itb (min (p + 1) (l.length + 1)) ∧ Only [itb] w w' := by
  have ha := h.at_
  have hlo := h.lo
  rcases h.it with ⟨rfl, hb⟩ | ⟨rfl, hb⟩ | ⟨rt, i, e, L, R, hr, rfl, sp, hb⟩
  · by_cases hl : l = []
    · subst hl
      refine (itNext_none ha hb).mono ?_
      intro e w' t
      obtain ⟨rfl, t1, t2⟩ := Out.end_ ha hb hlo t
      exact ⟨by simp, by simpa using t1, t2⟩
    · obtain ⟨rt, r, hr, S, hk, hf, _, hz⟩ := ha.top hl
      refine (itNext_start ha hr S hz hf hb).mono ?_
      intro e w' t
      obtain ⟨rfl, t0, t1, t2⟩ := HitL.at_ ha hr S hk hb hlo t
      simp only [List.length_nil] at t0 t1
      exact ⟨by simp [t0], by rw [show min (0 + 1) (l.length + 1) = 0 + 1 by omega]; exact t1, t2⟩
  · refine (itNext_over hb).mono ?_
    intro e w' t
    obtain ⟨rfl, t1, t2⟩ := Out.end_ ha hb hlo t
    exact ⟨by simp, by rw [show min (l.length + 1 + 1) (l.length + 1) = l.length + 1 by omega]; exact t1, t2⟩
  · rcases ha.rooted with ⟨h1, _⟩ | ⟨rt', h1, S, hk, hf⟩
    · rw [hr] at h1; cases h1
    rw [hr] at h1; injection h1 with h1; subst h1
    have hasc : Asc o (nk σ rt) := by rw [hk]; exact ha.asc
    have hnow := sp.now S
    obtain ⟨d, n, L0, R0, hi, he, hn, cx, hL, hR, _⟩ := spot_at S hasc sp
    have hlen : l.length = L.length + (R.length + 1) := by rw [← hk, hnow]; simp
    have fin : ∀ (e' : Ending) (w' : World), HitL w itb H.tb σ rt (L ++ [e.kv]) e' w' → e' = .returned (.bool (decide (L.length + 1 < l.length))) ∧ BtItAt m o B w' H σ α l itb (min (L.length + 1 + 1) (l.length + 1)) ∧ Only [itb] w w' := by
      intro e' w' t
      obtain ⟨rfl, t0, t1, t2⟩ := HitL.at_ ha hr S hk hb hlo t
      simp only [List.length_append, List.length_singleton] at t0 t1
      exact ⟨by simp [t0], by rw [show min (L.length + 1 + 1) (l.length + 1) = L.length + 1 + 1 by omega]; exact t1, t2⟩
    rcases Nat.eq_zero_or_pos d.lv with h0 | h0
    · have hks := S.leaf i d hi h0
      by_cases hn1 : n + 1 < d.es.length
      · have := itNext_leaf ha S hasc hf hi hks he (List.getElem?_eq_getElem hn1) cx hb
        rw [← hL] at this
        exact this.mono fin
      · have hnow2 : nk σ rt = (L ++ [e.kv]) ++ R := by rw [hnow]; simp
        by_cases hre : R = []
        · subst hre
          have := itNext_out ha S hasc hf hi hks he cx hb (by omega) (by rw [← hL]; exact hnow2)
          refine this.mono ?_
          intro e' w' t
          obtain ⟨rfl, t1, t2⟩ := Out.end_ ha hb hlo t
          simp only [List.length_nil] at hlen
          exact ⟨by simp [hlen], by rw [show min (L.length + 1 + 1) (l.length + 1) = l.length + 1 by omega]; exact t1, t2⟩
        · have := itNext_up ha S hasc hf hi hks he cx hb (by omega) (by rw [← hL]; exact hnow2) hre
          rw [← hL] at this
          exact this.mono fin
    · have hkl := S.inner i d hi h0
      have := itNext_down ha S hasc hf hi he (List.getElem?_eq_getElem (show n + 1 < d.ks.length by omega)) cx hb
      rw [← hL] at this
      exact this.mono fin
theorem BtItAt.on_ {q : Nat} {k v : Int} (h : BtItAt m o B w H σ α l itb (q + 1)) (hq : l[q]? = some (k, v)) : ∃ (i : Nat) (e : En), EnAt w B e ∧ e.k = k ∧ e.v = v ∧ Blk w itb 94 (itC H.tb (some i) (some e.b) 1) := by
  have hlt := (List.getElem?_eq_some_iff.1 hq).1
  rcases h.it with ⟨h0, hb⟩ | ⟨h0, hb⟩ | ⟨rt, i, e, L, R, hr, hp, sp, hb⟩
  · omega
  · omega
  · rcases h.at_.rooted with ⟨h1, _⟩ | ⟨rt', h1, S, hk, hf⟩
    · rw [hr] at h1; cases h1
    rw [hr] at h1; injection h1 with h1; subst h1
    have hnow := sp.now S
    obtain ⟨d, eL, eR, L0, R0, hi, he, _⟩ := sp
    have e1 : L.length = q := by omega
    rw [← hk, hnow, ← e1, List.getElem?_append_right (Nat.le_refl _)] at hq
    simp only [Nat.sub_self, List.getElem?_cons_zero, Option.some.injEq, En.kv, Prod.mk.injEq] at hq
    exact ⟨i, e, h.at_.st.en i d e hi (by rw [he]; simp), hq.1, hq.2, hb⟩
theorem btItKey_walk {q : Nat} {k v : Int} (h : BtItAt m o B w H σ α l itb (q + 1)) (hq : l[q]? = some (k, v)) :
    Calls Try.prog 56 #[.pointer (some ⟨itb, 0, none⟩)] w fun e w' => e = .returned (.iface 3 (.int .i64 k)) ∧ w' = w := by
  obtain ⟨i, e, he, rfl, rfl, hb⟩ := h.on_ hq
  exact itKey_walk he hb
theorem btItValue_walk {q : Nat} {k v : Int} (h : BtItAt m o B w H σ α l itb (q + 1)) (hq : l[q]? = some (k, v)) :
    Calls Try.prog 60 #[.pointer (some ⟨itb, 0, none⟩)] w fun e w' => e = .returned (.iface 3 (.int .i64 v)) ∧ w' = w := by
  obtain ⟨i, e, he, rfl, rfl, hb⟩ := h.on_ hq
  exact itValue_walk he hb
theorem btIterator_walk (w : World) (tb : Nat) : Calls Try.prog 54 #[.pointer (some ⟨tb, 0, none⟩)] w fun e w' =>
    e = .returned (.agg #[.pointer (some ⟨tb, 0, none⟩), .pointer none, .pointer none, .int .u8 0]) ∧ w' = w.alloc (.cells #[.pointer (some ⟨tb, 0, none⟩), .pointer none, .pointer none, .int .u8 0] 94) := by
  have FB := Lib.hid (show Blk (w.alloc (.cells (itC tb none none 0) 94)) w.heap.size 94 (itC tb none none 0) from Blk.new _ _ _)
  go_enter Try.func54, Try.ntmps54
  go_wp2_with fail
  refine bodyPost_ret (results_cell_row rfl _ _ w.heap.size _ _ (0, 0) _ rfl FB.out Try.underlying94 rfl it_size) rfl ?_
  exact ⟨rfl, rfl⟩
end
end Go.Proofs.Ytgakapigpiaoiaa.Bt

namespace Go.Proofs.Ytgakapigpiaoiaa.Bt
open Go.RowKit Go.Proofs.Ytgakapigpiaoiaa
@[go_sem] theorem bt_method_Next (n : Nat) (a : Addr) (w : World) : (method (n + 1) 101 (.pointer (some a)) "Next").run Try.prog w = .ok (55, .pointer (some a)) w := by kernel_rfl
@[go_sem] theorem bt_method_Key (n : Nat) (a : Addr) (w : World) : (method (n + 1) 101 (.pointer (some a)) "Key").run Try.prog w = .ok (56, .pointer (some a)) w := by kernel_rfl
@[go_sem] theorem bt_method_Value (n : Nat) (a : Addr) (w : World) : (method (n + 1) 101 (.pointer (some a)) "Value").run Try.prog w = .ok (60, .pointer (some a)) w := by kernel_rfl
set_option maxHeartbeats 1000000 in
set_option maxRecDepth 100000 in
theorem btKeys_walk {m : Int} {o : Ord} {B : Nat} {w : World} {H : Hd} {σ : Store} {α : Nat → Arr} {l : KV} (h : BtAt m o B w H σ α l) (hl : l.length ≤ 100000) :
    Calls Try.prog 48 #[.pointer (some ⟨H.tb, 0, none⟩)] w fun e w' =>
      e = .returned (.slice (some ⟨w.heap.size, 0, none⟩) l.length l.length) ∧ Blk w' w.heap.size 20 (rowI (l.map Prod.fst)).toArray ∧ Below w.heap.size w w' := by
  have hh2 := h.st.hcells.2.2.1
  rw [h.size] at hh2
  have hmk := fun w => makeI_run w l.length hl
  have hB := h.st.hB
  have HH := Lib.hid h
  clear h
  generalize hL : l.length = L at *
  have HL := Lib.hid hL
  go_enter Try.func48, Try.ntmps48
  go_wp2_with fail
  refine (btIterator_walk _ H.tb).mono ?_
  rintro e w1 ⟨rfl, rfl⟩
  have e0 := partI_zero (l.map Prod.fst)
  rw [List.length_map, hL] at e0
  rw [← e0]
  have hz : ((w.alloc (.cells (partI (l.map Prod.fst) 0).toArray 20)).alloc (.cells #[.pointer (some ⟨H.tb, 0, none⟩), .pointer none, .pointer none, .int .u8 0] 94)).heap.size = w.heap.size + 2 := by simp
  have b1 : Below w.heap.size w ((w.alloc (.cells (partI (l.map Prod.fst) 0).toArray 20)).alloc (.cells #[.pointer (some ⟨H.tb, 0, none⟩), .pointer none, .pointer none, .int .u8 0] 94)) := ((Below.refl _ _).alloc (Nat.le_refl _) _).alloc (by simp) _
  have at1 : BtAt m o B ((w.alloc (.cells (partI (l.map Prod.fst) 0).toArray 20)).alloc (.cells #[.pointer (some ⟨H.tb, 0, none⟩), .pointer none, .pointer none, .int .u8 0] 94)) H σ α l := HH.out.below b1
  have k1 : Blk ((w.alloc (.cells (partI (l.map Prod.fst) 0).toArray 20)).alloc (.cells #[.pointer (some ⟨H.tb, 0, none⟩), .pointer none, .pointer none, .int .u8 0] 94)) w.heap.size 20 (partI (l.map Prod.fst) 0).toArray := Blk.alloc (Blk.new _ _ _) _
  have HZ := Lib.hid hz
  have AT1 := Lib.hid at1
  have B1 := Lib.hid b1
  have K1 := Lib.hid k1
  clear hz at1 b1 k1 e0 hmk hL
  generalize ((w.alloc (.cells (partI (l.map Prod.fst) 0).toArray 20)).alloc (.cells #[.pointer (some ⟨H.tb, 0, none⟩), .pointer none, .pointer none, .int .u8 0] 94)) = w1 at *
  have H2 := Lib.hid (show BtItAt m o B (w1.alloc (.cells #[.pointer (some ⟨H.tb, 0, none⟩), .pointer none, .pointer none, .int .u8 0] 94)) H σ α l w1.heap.size 0 from ⟨AT1.out.below ((Below.refl _ _).alloc (Nat.le_refl _) _), .inl ⟨rfl, Blk.new _ _ _⟩, by have := HZ.out; omega⟩)
  have B2 := Lib.hid (B1.out.alloc (by have := HZ.out; omega) (.cells #[.pointer (some ⟨H.tb, 0, none⟩), .pointer none, .pointer none, .int .u8 0] 94))
  have K2 := Lib.hid (Blk.alloc K1.out (.cells #[.pointer (some ⟨H.tb, 0, none⟩), .pointer none, .pointer none, .int .u8 0] 94))
  clear AT1 B1 K1
  go_wp2_with fail
  go_loopw [5] (fun i wr => ∃ k : Nat, k ≤ L ∧ i = .int .i64 k ∧ BtItAt m o B wr H σ α l w1.heap.size k ∧ Blk wr w.heap.size 20 (partI (l.map Prod.fst) k).toArray ∧ Below w.heap.size w wr) (fun i _ => L - (intOf i).toNat)
  case atStart => exact ⟨0, Nat.zero_le _, rfl, H2.out, K2.out, B2.out⟩
  case round =>
    clear hh2
    obtain ⟨k, hk, rfl, hi, hb, hw⟩ := hrel
    have c1 := btItNext_walk hi
    rw [HL.out] at c1
    by_cases hlt : k < L
    · rw [decide_eq_true hlt] at c1
      have C1 := Lib.hid c1
      have Hb := Lib.hid hb
      have Hw := Lib.hid hw
      clear c1 hi hb hw
      go_wp2_with fail
      refine C1.out.mono ?_
      rintro e w3 ⟨rfl, h3, on3⟩
      have b3 := Hb.out.only on3 (by simp only [List.mem_singleton]; have := HZ.out; omega)
      have hw3 := Hw.out.trans (on3.below (fun b hb => by simp only [List.mem_singleton] at hb; have := HZ.out; omega) Hw.out.size)
      rw [show min (k + 1) (L + 1) = k + 1 by omega] at h3
      obtain ⟨p, hp⟩ : ∃ p, l[k]? = some p := ⟨_, List.getElem?_eq_getElem (by rw [HL.out]; exact hlt)⟩
      obtain ⟨pk, pv⟩ := p
      have c2 := btItKey_walk h3 hp
      have hf := b3.frozen k
      have hc := b3.cell k
      have hsz : (partI (l.map Prod.fst) k).toArray.size = L := by simp [partI_length, HL.out]
      have b4 := Blk.set_ b3 k (.iface 3 (.int .i64 (Prod.fst (pk, pv))))
      rw [partI_set (by rw [List.getElem?_map, hp]; rfl)] at b4
      simp only [] at b4
      have on4 : Only [w.heap.size] w3 (w3.setCell ⟨w.heap.size, k, none⟩ (.iface 3 (.int .i64 pk))) := (Only.refl _ _).setCell (.inl (by simp)) _
      have hw4 := hw3.trans (on4.below (fun b hb => by simp only [List.mem_singleton] at hb; omega) hw3.size)
      have h4 := h3.far (HH.out.below hw4) on4 (by simp only [List.mem_singleton]; have := HZ.out; omega)
      have F4 := Lib.hid (show BtItAt m o B _ H σ α l w1.heap.size (k + 1) ∧ Blk _ _ _ _ ∧ Below w.heap.size w _ from ⟨h4, b4, hw4⟩)
      clear h4 hw4 on4
      have C2 := Lib.hid c2
      have H3 := Lib.hid h3
      have B4 := Lib.hid b4
      have W3 := Lib.hid hw3
      clear C1 c2 h3 b4 hw3 on3 Hb Hw
      clear hp
      go_wp2_with fail
      refine C2.out.mono ?_
      rintro e w4 ⟨rfl, rfl⟩
      go_wp2_with fail
      go_roundw
      case rel => exact ⟨k + 1, by omega, by go_num, F4.out⟩
      case measure => simp [intOf]; omega
    · have hkn : k = L := by omega
      rw [decide_eq_false hlt] at c1
      have C1 := Lib.hid c1
      have Hb := Lib.hid hb
      have Hw := Lib.hid hw
      clear c1 hi hb hw
      go_wp2_with fail
      refine C1.out.mono ?_
      rintro e w3 ⟨rfl, h3, on3⟩
      have b3 := Hb.out.only on3 (by simp only [List.mem_singleton]; have := HZ.out; omega)
      have hw3 := Hw.out.trans (on3.below (fun b hb => by simp only [List.mem_singleton] at hb; have := HZ.out; omega) Hw.out.size)
      have e1 : k = (l.map Prod.fst).length := by rw [List.length_map, HL.out]; exact hkn
      rw [e1, partI_all] at b3
      have B3 := Lib.hid b3
      have W3 := Lib.hid hw3
      clear C1 b3 hw3 on3 Hb Hw h3 e1
      go_wp2_with fail
      go_ret
      exact ⟨rfl, B3.out, W3.out⟩
set_option maxHeartbeats 1000000 in
set_option maxRecDepth 100000 in
theorem btValues_walk {m : Int} {o : Ord} {B : Nat} {w : World} {H : Hd} {σ : Store} {α : Nat → Arr} {l : KV} (h : BtAt m o B w H σ α l) (hl : l.length ≤ 100000) :
    Calls Try.prog 53 #[.pointer (some ⟨H.tb, 0, none⟩)] w fun e w' =>
      e = .returned (.slice (some ⟨w.heap.size, 0, none⟩) l.length l.length) ∧ Blk w' w.heap.size 20 (rowI (l.map Prod.snd)).toArray ∧ Below w.heap.size w w' := by
  have hh2 := h.st.hcells.2.2.1
  rw [h.size] at hh2
  have hmk := fun w => makeI_run w l.length hl
  have hB := h.st.hB
  have HH := Lib.hid h
  clear h
  generalize hL : l.length = L at *
  have HL := Lib.hid hL
  go_enter Try.func53, Try.ntmps53
  go_wp2_with fail
  refine (btIterator_walk _ H.tb).mono ?_
  rintro e w1 ⟨rfl, rfl⟩
  have e0 := partI_zero (l.map Prod.snd)
  rw [List.length_map, hL] at e0
  rw [← e0]
  have hz : ((w.alloc (.cells (partI (l.map Prod.snd) 0).toArray 20)).alloc (.cells #[.pointer (some ⟨H.tb, 0, none⟩), .pointer none, .pointer none, .int .u8 0] 94)).heap.size = w.heap.size + 2 := by simp
  have b1 : Below w.heap.size w ((w.alloc (.cells (partI (l.map Prod.snd) 0).toArray 20)).alloc (.cells #[.pointer (some ⟨H.tb, 0, none⟩), .pointer none, .pointer none, .int .u8 0] 94)) := ((Below.refl _ _).alloc (Nat.le_refl _) _).alloc (by simp) _
  have at1 : BtAt m o B ((w.alloc (.cells (partI (l.map Prod.snd) 0).toArray 20)).alloc (.cells #[.pointer (some ⟨H.tb, 0, none⟩), .pointer none, .pointer none, .int .u8 0] 94)) H σ α l := HH.out.below b1
  have k1 : Blk ((w.alloc (.cells (partI (l.map Prod.snd) 0).toArray 20)).alloc (.cells #[.pointer (some ⟨H.tb, 0, none⟩), .pointer none, .pointer none, .int .u8 0] 94)) w.heap.size 20 (partI (l.map Prod.snd) 0).toArray := Blk.alloc (Blk.new _ _ _) _
  have HZ := Lib.hid hz
  have AT1 := Lib.hid at1
  have B1 := Lib.hid b1
  have K1 := Lib.hid k1
  clear hz at1 b1 k1 e0 hmk hL
  generalize ((w.alloc (.cells (partI (l.map Prod.snd) 0).toArray 20)).alloc (.cells #[.pointer (some ⟨H.tb, 0, none⟩), .pointer none, .pointer none, .int .u8 0] 94)) = w1 at *
  have H2 := Lib.hid (show BtItAt m o B (w1.alloc (.cells #[.pointer (some ⟨H.tb, 0, none⟩), .pointer none, .pointer none, .int .u8 0] 94)) H σ α l w1.heap.size 0 from ⟨AT1.out.below ((Below.refl _ _).alloc (Nat.le_refl _) _), .inl ⟨rfl, Blk.new _ _ _⟩, by have := HZ.out; omega⟩)
  have B2 := Lib.hid (B1.out.alloc (by have := HZ.out; omega) (.cells #[.pointer (some ⟨H.tb, 0, none⟩), .pointer none, .pointer none, .int .u8 0] 94))
  have K2 := Lib.hid (Blk.alloc K1.out (.cells #[.pointer (some ⟨H.tb, 0, none⟩), .pointer none, .pointer none, .int .u8 0] 94))
  clear AT1 B1 K1
  go_wp2_with fail
  go_loopw [5] (fun i wr => ∃ k : Nat, k ≤ L ∧ i = .int .i64 k ∧ BtItAt m o B wr H σ α l w1.heap.size k ∧ Blk wr w.heap.size 20 (partI (l.map Prod.snd) k).toArray ∧ Below w.heap.size w wr) (fun i _ => L - (intOf i).toNat)
  case atStart => exact ⟨0, Nat.zero_le _, rfl, H2.out, K2.out, B2.out⟩
  case round =>
    clear hh2
    obtain ⟨k, hk, rfl, hi, hb, hw⟩ := hrel
    have c1 := btItNext_walk hi
    rw [HL.out] at c1
    by_cases hlt : k < L
    · rw [decide_eq_true hlt] at c1
      have C1 := Lib.hid c1
      have Hb := Lib.hid hb
      have Hw := Lib.hid hw
      clear c1 hi hb hw
      go_wp2_with fail
      refine C1.out.mono ?_
      rintro e w3 ⟨rfl, h3, on3⟩
      have b3 := Hb.out.only on3 (by simp only [List.mem_singleton]; have := HZ.out; omega)
      have hw3 := Hw.out.trans (on3.below (fun b hb => by simp only [List.mem_singleton] at hb; have := HZ.out; omega) Hw.out.size)
      rw [show min (k + 1) (L + 1) = k + 1 by omega] at h3
      obtain ⟨p, hp⟩ : ∃ p, l[k]? = some p := ⟨_, List.getElem?_eq_getElem (by rw [HL.out]; exact hlt)⟩
      obtain ⟨pk, pv⟩ := p
      have c2 := btItValue_walk h3 hp
      have hf := b3.frozen k
      have hc := b3.cell k
      have hsz : (partI (l.map Prod.snd) k).toArray.size = L := by simp [partI_length, HL.out]
      have b4 := Blk.set_ b3 k (.iface 3 (.int .i64 (Prod.snd (pk, pv))))
      rw [partI_set (by rw [List.getElem?_map, hp]; rfl)] at b4
      simp only [] at b4
      have on4 : Only [w.heap.size] w3 (w3.setCell ⟨w.heap.size, k, none⟩ (.iface 3 (.int .i64 pv))) := (Only.refl _ _).setCell (.inl (by simp)) _
      have hw4 := hw3.trans (on4.below (fun b hb => by simp only [List.mem_singleton] at hb; omega) hw3.size)
      have h4 := h3.far (HH.out.below hw4) on4 (by simp only [List.mem_singleton]; have := HZ.out; omega)
      have F4 := Lib.hid (show BtItAt m o B _ H σ α l w1.heap.size (k + 1) ∧ Blk _ _ _ _ ∧ Below w.heap.size w _ from ⟨h4, b4, hw4⟩)
      clear h4 hw4 on4
      have C2 := Lib.hid c2
      have H3 := Lib.hid h3
      have B4 := Lib.hid b4
      have W3 := Lib.hid hw3
      clear C1 c2 h3 b4 hw3 on3 Hb Hw
      clear hp
      go_wp2_with fail
      refine C2.out.mono ?_
      rintro e w4 ⟨rfl, rfl⟩
      go_wp2_with fail
      go_roundw
      case rel => exact ⟨k + 1, by omega, by go_num, F4.out⟩
      case measure => simp [intOf]; omega
    · have hkn : k = L := by omega
      rw [decide_eq_false hlt] at c1
      have C1 := Lib.hid c1
      have Hb := Lib.hid hb
      have Hw := Lib.hid hw
      clear c1 hi hb hw
      go_wp2_with fail
      refine C1.out.mono ?_
      rintro e w3 ⟨rfl, h3, on3⟩
      have b3 := Hb.out.only on3 (by simp only [List.mem_singleton]; have := HZ.out; omega)
      have hw3 := Hw.out.trans (on3.below (fun b hb => by simp only [List.mem_singleton] at hb; have := HZ.out; omega) Hw.out.size)
      have e1 : k = (l.map Prod.snd).length := by rw [List.length_map, HL.out]; exact hkn
      rw [e1, partI_all] at b3
      have B3 := Lib.hid b3
      have W3 := Lib.hid hw3
      clear C1 b3 hw3 on3 Hb Hw h3 e1
      go_wp2_with fail
      go_ret
      exact ⟨rfl, B3.out, W3.out⟩
end Go.Proofs.Ytgakapigpiaoiaa.Bt

namespace Go.Proofs.Ytgakapigpiaoiaa.Bt
open Go.RowKit Go.Proofs.Ytgakapigpiaoiaa
@[go_sem] theorem bt_method_Keys (n : Nat) (a : Addr) (w : World) : (method (n + 1) 50 (.pointer (some a)) "Keys").run Try.prog w = .ok (48, .pointer (some a)) w := by kernel_rfl
@[go_sem] theorem bt_method_Values (n : Nat) (a : Addr) (w : World) : (method (n + 1) 50 (.pointer (some a)) "Values").run Try.prog w = .ok (53, .pointer (some a)) w := by kernel_rfl
@[go_sem] theorem bt_method_Size (n : Nat) (a : Addr) (w : World) : (method (n + 1) 50 (.pointer (some a)) "Size").run Try.prog w = .ok (51, .pointer (some a)) w := by kernel_rfl
@[go_sem] theorem bt_method_Empty (n : Nat) (a : Addr) (w : World) : (method (n + 1) 50 (.pointer (some a)) "Empty").run Try.prog w = .ok (47, .pointer (some a)) w := by kernel_rfl
section
variable {m : Int} {o : Ord} {B n0 : Nat} {w : World} {H : Hd} {σ : Store} {α : Nat → Arr} {l : KV}
theorem btKeys_n (h : BtAt m o B w H σ α l) (hlen : l.length = n0) (hl : n0 ≤ 100000) :
    Calls Try.prog 48 #[.pointer (some ⟨H.tb, 0, none⟩)] w fun e w' =>
      e = .returned (.slice (some ⟨w.heap.size, 0, none⟩) n0 n0) ∧ Blk w' w.heap.size 20 (rowI (l.map Prod.fst)).toArray ∧ Below w.heap.size w w' := by subst hlen; exact btKeys_walk h hl
theorem btValues_n (h : BtAt m o B w H σ α l) (hlen : l.length = n0) (hl : n0 ≤ 100000) :
    Calls Try.prog 53 #[.pointer (some ⟨H.tb, 0, none⟩)] w fun e w' =>
      e = .returned (.slice (some ⟨w.heap.size, 0, none⟩) n0 n0) ∧ Blk w' w.heap.size 20 (rowI (l.map Prod.snd)).toArray ∧ Below w.heap.size w w' := by subst hlen; exact btValues_walk h hl
theorem btSize_n (h : BtAt m o B w H σ α l) (hlen : l.length = n0) : Calls Try.prog 51 #[.pointer (some ⟨H.tb, 0, none⟩)] w fun e w' => e = .returned (.int .i64 n0) ∧ w = w' := by
  have := size_walk h.st
  rw [h.size, hlen] at this
  exact this
theorem btEmpty_n (h : BtAt m o B w H σ α l) (hlen : l.length = n0) : Calls Try.prog 47 #[.pointer (some ⟨H.tb, 0, none⟩)] w fun e w' => e = .returned (.bool (((n0 : Nat) : Int) == 0)) ∧ w = w' := by
  have := empty_walk h.st
  rw [h.size, hlen] at this
  exact this
set_option maxRecDepth 100000 in
theorem btStateOf_walk (h : BtAt m o B w H σ α l) (hlen : l.length = n0) (hl : n0 ≤ 100000) :
    Calls Try.prog 19 #[.iface 50 (.pointer (some ⟨H.tb, 0, none⟩))] w fun e w' => ∃ v, e = .returned v ∧ StateOwn w' w.heap.size v l ∧ Below w.heap.size w w' := by
  have b0 : Below w.heap.size w (w.alloc (.cells #[.slice none 0 0, .slice none 0 0, .int .i64 0, .bool false] 30)) := (Below.refl _ _).alloc (Nat.le_refl _) _
  have cb : Blk (w.alloc (.cells #[.slice none 0 0, .slice none 0 0, .int .i64 0, .bool false] 30)) w.heap.size 30 #[.slice none 0 0, .slice none 0 0, .int .i64 0, .bool false] := Blk.new _ _ _
  have h0 := h.below b0
  have B0 := Lib.hid b0
  have CB := Lib.hid cb
  have H0 := Lib.hid h0
  clear h b0 cb h0
  go_enter Try.func19, Try.ntmps19
  go_wp2_with fail
  generalize w.alloc (.cells #[.slice none 0 0, .slice none 0 0, .int .i64 0, .bool false] 30) = w0 at *
  refine (btKeys_n H0.out hlen hl).mono ?_
  rintro e w1 ⟨rfl, hb1, b1⟩
  have C1 := Lib.hid (numbers_walk w1 _ (l.map Prod.fst) n0 (by rw [List.length_map, hlen]) hl hb1)
  have cb1 := Lib.hid (CB.out.below b1 CB.out.lt)
  have H1 := Lib.hid (H0.out.below b1)
  have B1 := Lib.hid (B0.out.trans (b1.mono B0.out.size))
  clear hb1 b1 CB H0 B0
  go_wp2_with fail
  refine C1.out.mono ?_
  rintro e w2 ⟨A1, c1, rfl, own1, b2⟩
  have r1 := Lib.hid own1
  have hs1 := Lib.hid (show w.heap.size < w1.heap.size from Nat.lt_of_lt_of_le cb1.out.lt (Nat.le_refl _))
  have cb2 := Lib.hid (cb1.out.below b2 cb1.out.lt)
  have H2 := Lib.hid (H1.out.below b2)
  have B2 := Lib.hid (B1.out.trans (b2.mono B1.out.size))
  clear own1 b2 cb1 H1 B1 C1
  go_wp2_with fail
  refine (btValues_n H2.out hlen hl).mono ?_
  rintro e w3 ⟨rfl, hb3, b3⟩
  have C3 := Lib.hid (numbers_walk w3 _ (l.map Prod.snd) n0 (by rw [List.length_map, hlen]) hl hb3)
  have cb3 := Lib.hid (cb2.out.below b3 cb2.out.lt)
  have H3 := Lib.hid (H2.out.below b3)
  have r3 := Lib.hid (own_below r1.out b3)
  have hs3 := Lib.hid (show w.heap.size < w3.heap.size from cb3.out.lt)
  have B3 := Lib.hid (B2.out.trans (b3.mono B2.out.size))
  clear hb3 b3 cb2 H2 B2 r1
  go_wp2_with fail
  refine C3.out.mono ?_
  rintro e w4 ⟨A2, c2, rfl, own4, b4⟩
  have s4 := Lib.hid own4
  have cb4 := Lib.hid (cb3.out.below b4 cb3.out.lt)
  have H4 := Lib.hid (H3.out.below b4)
  have r4 := Lib.hid (own_below r3.out b4)
  have B4 := Lib.hid (B3.out.trans (b4.mono B3.out.size))
  clear own4 b4 cb3 H3 B3 r3 C3
  go_wp2_with fail
  refine (btSize_n H4.out hlen).mono ?_
  rintro e w5 ⟨rfl, rfl⟩
  go_wp2_with fail
  refine (btEmpty_n H4.out hlen).mono ?_
  rintro e w5 ⟨rfl, rfl⟩
  have hc0 := cb4.out.cell 0
  have hc1 := cb4.out.cell 1
  have hc2 := cb4.out.cell 2
  have hc3 := cb4.out.cell 3
  have hf := cb4.out.frozen
  go_wp2_with fail
  have fb := Blk.set_ (Blk.set_ (Blk.set_ (Blk.set_ cb4.out 0 (.slice A1 n0 c1)) 1 (.slice A2 n0 c2)) 2 (.int .i64 n0)) 3 (.bool ((n0 : Int) == 0))
  have Fin : StateOwn (set4 w4 w.heap.size (.slice A1 n0 c1) (.slice A2 n0 c2) (.int .i64 n0) (.bool ((n0 : Int) == 0))) w.heap.size (.agg #[.slice A1 n0 c1, .slice A2 n0 c2, .int .i64 n0, .bool ((n0 : Int) == 0)]) l ∧ Below w.heap.size w (set4 w4 w.heap.size (.slice A1 n0 c1) (.slice A2 n0 c2) (.int .i64 n0) (.bool ((n0 : Int) == 0))) := by
    have h0 : StateOwn w4 (w.heap.size + 1) (.agg #[.slice A1 n0 c1, .slice A2 n0 c2, .int .i64 n0, .bool ((n0 : Int) == 0)]) l :=
      ⟨A1, c1, A2, c2, by rw [hlen], by rw [hlen]; exact own_base r4.out hs1.out, by rw [hlen]; exact own_base s4.out hs3.out⟩
    refine ⟨StateOwn.less ((((h0.far (p := ⟨w.heap.size, 0, none⟩) (Nat.lt_succ_self _) _).far (p := ⟨w.heap.size, 1, none⟩) (Nat.lt_succ_self _) _).far (p := ⟨w.heap.size, 2, none⟩) (Nat.lt_succ_self _) _).far (p := ⟨w.heap.size, 3, none⟩) (Nat.lt_succ_self _) _) (Nat.le_succ _), ?_⟩
    exact (((B4.out.setCell (p := ⟨w.heap.size, 0, none⟩) (Nat.le_refl _) _).setCell (p := ⟨w.heap.size, 1, none⟩) (Nat.le_refl _) _).setCell (p := ⟨w.heap.size, 2, none⟩) (Nat.le_refl _) _).setCell (p := ⟨w.heap.size, 3, none⟩) (Nat.le_refl _) _
  refine bodyPost_ret (results_cell_row rfl _ _ w.heap.size _ _ (0, 0) _ rfl fb Try.underlying30 rfl state_size) rfl ?_
  exact ⟨_, rfl, Fin.1, Fin.2⟩
end
set_option maxHeartbeats 2000000 in
set_option maxRecDepth 100000 in
theorem implBTreeState_walk (m : Int) (hm : 3 ≤ m ∧ m ≤ 64) (o : Ord) (ho : o.fine) (n cap : Nat) (A : Option Addr) (acts : List Do) (w : World) (hn : acts.length = n) (hn1 : n ≤ 1000) (ha : ActsAt w w.heap.size A acts) :
    Calls Try.prog 12 #[.int .i64 m, .agg #[.int .i64 o.kind, .int .i64 o.m], .slice A n cap] w fun e w' => ∃ v, e = .returned v ∧ StateOwn w' w.heap.size v (run o acts) ∧ Below w.heap.size w w' := by
  have hr := run_length_le o acts
  have Hr := Lib.hid hr
  have Ha := Lib.hid ha
  clear ha hr
  have b0 : Below w.heap.size w ((w.alloc (.cells #[.int .i64 o.kind, .int .i64 o.m] 23)).alloc (.cells #[.slice none 0 0, .slice none 0 0, .int .i64 0, .bool false] 30)) := ((Below.refl _ _).alloc (Nat.le_refl _) _).alloc (by simp) _
  have s0 : ((w.alloc (.cells #[.int .i64 o.kind, .int .i64 o.m] 23)).alloc (.cells #[.slice none 0 0, .slice none 0 0, .int .i64 0, .bool false] 30)).heap.size = w.heap.size + 1 + 1 := by simp
  have cb : Blk ((w.alloc (.cells #[.int .i64 o.kind, .int .i64 o.m] 23)).alloc (.cells #[.slice none 0 0, .slice none 0 0, .int .i64 0, .bool false] 30)) (w.heap.size + 1) 30 #[.slice none 0 0, .slice none 0 0, .int .i64 0, .bool false] := Blk.new' (by simp) _ _
  have c0 : Blk ((w.alloc (.cells #[.int .i64 o.kind, .int .i64 o.m] 23)).alloc (.cells #[.slice none 0 0, .slice none 0 0, .int .i64 0, .bool false] 30)) w.heap.size 23 #[.int .i64 o.kind, .int .i64 o.m] := Blk.alloc (Blk.new _ _ _) _
  have hd0 := c0.cell 0
  have hd1 := c0.cell 1
  have B0 := Lib.hid b0
  have S0 := Lib.hid s0
  have CB := Lib.hid cb
  clear b0 s0 cb c0
  go_enter Try.func12, Try.ntmps12
  go_wp2_with fail
  generalize ((w.alloc (.cells #[.int .i64 o.kind, .int .i64 o.m] 23)).alloc (.cells #[.slice none 0 0, .slice none 0 0, .int .i64 0, .bool false] 30)) = w0 at *
  refine (bt_walk m hm o ho n cap A acts w0 hn hn1 ((Ha.out.below B0.out).more (by rw [S0.out]; omega))).mono ?_
  rintro e w1 ⟨tb, rfl, ⟨H, σ, α, ht, rfl⟩, b1⟩
  have hs := btStateOf_walk ht rfl (by have := Hr.out; omega)
  have C1 := Lib.hid hs
  have lt1 := Lib.hid (show w.heap.size + 1 < w1.heap.size by have := b1.size; have := S0.out; omega)
  have cb1 := Lib.hid (CB.out.below b1 CB.out.lt)
  have B1 := Lib.hid (B0.out.trans (b1.mono B0.out.size))
  clear hs b1 B0 CB ht Ha hd0 hd1
  go_wp2_with fail
  refine C1.out.mono ?_
  rintro e w2 ⟨v, rfl, hst, b2⟩
  obtain ⟨A1, c1, A2, c2, rfl, own1, own2⟩ := hst
  have cb2 := Lib.hid (cb1.out.below b2 cb1.out.lt)
  have B2 := Lib.hid (B1.out.trans (b2.mono B1.out.size))
  have lt2 := cb2.out.lt
  have hc0 := cb2.out.cell 0
  have hc1 := cb2.out.cell 1
  have hc2 := cb2.out.cell 2
  have hc3 := cb2.out.cell 3
  have hf := cb2.out.frozen
  generalize hl : run o acts = l at *
  have HL := Lib.hid hl
  clear hl
  have fb := Blk.set_ (Blk.set_ (Blk.set_ (Blk.set_ cb2.out 0 (.slice A1 l.length c1)) 1 (.slice A2 l.length c2)) 2 (.int .i64 l.length)) 3 (.bool ((l.length : Int) == 0))
  have fin : StateOwn (set4 w2 (w.heap.size + 1) (.slice A1 l.length c1) (.slice A2 l.length c2) (.int .i64 l.length) (.bool ((l.length : Int) == 0))) w.heap.size (.agg #[.slice A1 l.length c1, .slice A2 l.length c2, .int .i64 l.length, .bool ((l.length : Int) == 0)]) l ∧ Below w.heap.size w (set4 w2 (w.heap.size + 1) (.slice A1 l.length c1) (.slice A2 l.length c2) (.int .i64 l.length) (.bool ((l.length : Int) == 0))) := by
    have h0 : StateOwn w2 w1.heap.size (.agg #[.slice A1 l.length c1, .slice A2 l.length c2, .int .i64 l.length, .bool ((l.length : Int) == 0)]) l :=
      ⟨A1, c1, A2, c2, rfl, own1, own2⟩
    refine ⟨StateOwn.less ((((h0.far (p := ⟨w.heap.size + 1, 0, none⟩) lt1.out _).far (p := ⟨w.heap.size + 1, 1, none⟩) lt1.out _).far (p := ⟨w.heap.size + 1, 2, none⟩) lt1.out _).far (p := ⟨w.heap.size + 1, 3, none⟩) lt1.out _) (by have := lt1.out; omega), ?_⟩
    exact (((B2.out.setCell (p := ⟨w.heap.size + 1, 0, none⟩) (Nat.le_succ _) _).setCell (p := ⟨w.heap.size + 1, 1, none⟩) (Nat.le_succ _) _).setCell (p := ⟨w.heap.size + 1, 2, none⟩) (Nat.le_succ _) _).setCell (p := ⟨w.heap.size + 1, 3, none⟩) (Nat.le_succ _) _
  have FB := Lib.hid fb
  have Fin := Lib.hid fin
  clear fb fin own1 own2
  generalize hn' : (l.length : Int) = n' at *
  clear b2 cb1 B1 C1
  go_wp2_with fail
  refine bodyPost_ret (results_cell_row rfl _ _ (w.heap.size + 1) _ _ (0, 0) _ rfl FB.out Try.underlying30 rfl state_size) rfl ?_
  exact ⟨_, rfl, by rw [HL.out]; exact Fin.out.1, Fin.out.2⟩
end Go.Proofs.Ytgakapigpiaoiaa.Bt

namespace Go.Proofs.Ytgakapigpiaoiaa.Bt
open Go.RowKit Go.Proofs.Ytgakapigpiaoiaa
set_option maxHeartbeats 2000000 in
set_option maxRecDepth 100000 in
theorem growsBTree_walk (w : World) : Calls Try.prog 11 #[] w fun e w' => e = .returned (.bool true) ∧ Below w.heap.size w w' := by
  have hr : run ⟨0, 0⟩ [⟨1, 5, 6⟩] = [(5, 6)] := by simp [run, step, ins]
  have c1 := fun (w : World) (A : Option Addr) (ha : ActsAt w w.heap.size A [⟨1, 5, 6⟩]) => implBTreeState_walk 3 (by omega) ⟨0, 0⟩ (.inl rfl) 1 1 A [⟨1, 5, 6⟩] w rfl (by omega) ha
  rw [hr] at c1
  have C1 := Lib.hid c1
  clear c1 hr
  go_enter Try.func11, Try.ntmps11
  go_wp2_with fail
  have b0 : Below w.heap.size w (w.alloc (.cells #[.int .i64 1, .int .i64 5, .int .i64 6] 55)) := (Below.refl _ _).alloc (Nat.le_refl _) _
  have a0 : ActsAt (w.alloc (.cells #[.int .i64 1, .int .i64 5, .int .i64 6] 55)) (w.alloc (.cells #[.int .i64 1, .int .i64 5, .int .i64 6] 55)).heap.size (some ⟨w.heap.size, 0, none⟩) [⟨1, 5, 6⟩] := by
    have hb : Blk (w.alloc (.cells #[.int .i64 1, .int .i64 5, .int .i64 6] 55)) w.heap.size 55 #[.int .i64 1, .int .i64 5, .int .i64 6] := Blk.new _ _ _
    intro i d hd
    cases i with
    | zero =>
      simp only [List.getElem?_cons_zero, Option.some.injEq] at hd
      subst hd
      exact ⟨_, rfl, hb.lt, hb.cell 0, hb.cell 1, hb.cell 2⟩
    | succ i => simp at hd
  have A0 := Lib.hid a0
  have B0 := Lib.hid b0
  clear a0 b0
  refine (C1.out _ _ A0.out).mono ?_
  rintro e w1 ⟨v, rfl, hst, b1⟩
  have b1' := B0.out.trans (b1.mono B0.out.size)
  obtain ⟨A1, c1, A2, c2, rfl, own1, own2⟩ := hst
  have h1 := RowAt.of_own own1
  obtain ⟨a1, rfl, hlt, hc⟩ := h1.get (show (intRow ([((5 : Int), (6 : Int))].map Prod.fst))[0]? = some (.int .i64 5) from rfl)
  have hc0 : w1.cell? a1 = some (.int .i64 5) := by simpa [Addr.add] using hc
  have B1 := Lib.hid b1'
  have fin : Below w.heap.size w (w1.alloc (.cells #[.slice (some a1) 1 c1, .slice A2 1 c2, .int .i64 1, .bool false] 30)) := b1'.alloc b1'.size _
  have Fin := Lib.hid fin
  clear own1 own2 b1 b1' h1 C1 A0 B0 hc fin B1
  simp only [List.length_cons, List.length_nil]
  go_wp2_with fail
  go_ret
  exact ⟨rfl, Fin.out⟩
end Go.Proofs.Ytgakapigpiaoiaa.Bt

namespace Go.Proofs.Ytgakapigpiaoiaa.Bt
open Go.RowKit Go.Proofs.Ytgakapigpiaoiaa
section
variable {w0 w w' : World} {g B C : Nat} {o : Ord} {rows : List (Option Addr × List Value)} {sts : List (Value × KV)}
theorem keptGrows (h : Kept w0 g o rows sts B w) : Calls Try.prog 11 #[] w fun e w' => e = .returned (.bool true) ∧ Kept w0 g o rows sts w'.heap.size w' := by
  refine (growsBTree_walk w).mono ?_
  rintro e w' ⟨rfl, b⟩
  exact ⟨rfl, h.on b⟩
end
end Go.Proofs.Ytgakapigpiaoiaa.Bt
