/-
  The red-black tree's iterator at a place of the pairs in order.
-/
import Derived.Test.YtmhkknobgcdkkaaRbIter
namespace Go.Proofs.Ytmhkknobgcdkkaa.Rb
open Go.RowKit Go.Proofs.Ytmhkknobgcdkkaa

/-- An iterator over a tree, at a place. -/
structure RbItAt (o : Ord) (ob B : Nat) (w : World) (tb itb : Nat) (t : BT) (p : Nat) : Prop where
  at_ : RbAt o ob B w tb t
  it : Blk w itb 76 (itCells tb t.ord p)
  le : p ≤ t.count + 1
  lo : B ≤ itb
def RbIt (o : Ord) (B : Nat) (w : World) (tb itb : Nat) (l : KV) (p : Nat) : Prop := ∃ ob t, RbItAt o ob B w tb itb t p ∧ t.kvs = l

section
variable {o : Ord} {ob B tb itb p : Nat} {w w' : World} {t : BT}
theorem RbItAt.move {p' : Nat} (h : RbItAt o ob B w tb itb t p) (k : Only [itb] w w') (hb : Blk w' itb 76 (itCells tb t.ord p')) (hp : p' ≤ t.count + 1) : RbItAt o ob B w' tb itb t p' := by
  have ho := h.at_.st.off h.it (by decide) (by decide)
  have hob : itb ≠ ob := Blk.ne_ h.it h.at_.ord (by decide)
  refine ⟨h.at_.same fun b hb' => k.block b (h.at_.lt b hb') fun hm => (?_ : False), hb, hp, h.lo⟩
  simp only [List.mem_singleton] at hm
  subst hm
  rcases List.mem_cons.1 hb' with e | e
  · exact hob e
  · exact ho e
theorem RbItAt.only {S : List Nat} (h : RbItAt o ob B w tb itb t p) (k : Only S w w') (hs : ∀ b ∈ S, b ∉ ob :: tb :: itb :: t.ids) : RbItAt o ob B w' tb itb t p := by
  have hsz := h.at_.lt
  refine ⟨h.at_.same fun b hb => k.block b (hsz b hb) fun hm => ?_, h.it.same (k.block _ h.it.lt fun hm => hs _ hm (by simp)), h.le, h.lo⟩
  refine hs b hm ?_
  simp only [List.mem_cons] at hb ⊢
  rcases hb with e | e | e
  · exact .inl e
  · exact .inr (.inl e)
  · exact .inr (.inr (.inr e))
theorem RbItAt.fits (h : RbItAt o ob B w tb itb t p) : (p = 0 ∧ itCells tb t.ord p = #[.pointer (some ⟨tb, 0, none⟩), .pointer none, .int .u8 0]) ∨ (p = t.count + 1 ∧ itCells tb t.ord p = #[.pointer (some ⟨tb, 0, none⟩), .pointer none, .int .u8 2]) ∨
    ∃ q, p = q + 1 ∧ q < t.count ∧ ∃ c i l k v b r, St rbL w ⟨tb, cmpv ob, t.count⟩ c (.node i l k v b r) ∧ t.ord[q]? = some i ∧ t.kvs[q]? = some (k, v) ∧ nextId c r = t.ord[q + 1]? ∧ (prevId c l = if q = 0 then none else t.ord[q - 1]?) ∧ itCells tb t.ord p = #[.pointer (some ⟨tb, 0, none⟩), .pointer (some ⟨i, 0, none⟩), .int .u8 1] := by
  by_cases h0 : p = 0
  · subst h0; exact .inl ⟨rfl, itCells_zero _ _⟩
  · by_cases h1 : p = t.count + 1
    · refine .inr (.inl ⟨h1, ?_⟩)
      rw [h1, ← BT.ord_length]; exact itCells_end _ _
    · have hle := h.le
      obtain ⟨q, rfl⟩ : ∃ q, p = q + 1 := ⟨p - 1, by omega⟩
      obtain ⟨c, i, l, k, v, b, r, h2, h3, h4, h5, h6⟩ := h.at_.st.at_place (p := q) (by omega)
      exact .inr (.inr ⟨q, rfl, by omega, c, i, l, k, v, b, r, h2, h3, h4, h5, h6, itCells_at _ _ h3⟩)

theorem rbItNext_walk (h : RbItAt o ob B w tb itb t p) :
    Calls Try.prog 92 #[.pointer (some ⟨itb, 0, none⟩)] w fun e w' => e = .returned (.bool (decide (p < t.count))) ∧ RbItAt o ob B w' tb itb t (min (p + 1) (t.count + 1)) ∧ Only [itb] w w' := by
  have hit := h.it
  have hn := BT.ord_length t
  rcases h.fits with ⟨rfl, e⟩ | ⟨rfl, e⟩ | ⟨q, rfl, hq, c, i, l, k, v, b, r, hst, h1, h2, h3, h4, e⟩
  · rw [e] at hit
    refine (itNext_start w itb ⟨tb, cmpv ob, t.count⟩ t h.at_.st hit).mono ?_
    rintro e w' ⟨rfl, hb, on⟩
    have hlo := lo_at t
    by_cases h0 : t.count = 0
    · have e1 : t.lo = none := by rw [hlo, List.getElem?_eq_none (by omega)]
      rw [e1] at hb
      refine ⟨by rw [e1]; simp [h0], h.move on ?_ (by omega), on⟩
      rw [h0, show min (0 + 1) (0 + 1) = t.ord.length + 1 by omega, itCells_end]
      exact hb
    · obtain ⟨j, hj⟩ : ∃ j, t.ord[0]? = some j := ⟨_, List.getElem?_eq_getElem (by omega)⟩
      rw [hlo, hj] at hb
      refine ⟨by rw [hlo, hj]; simp; omega, h.move on ?_ (by omega), on⟩
      rw [show min (0 + 1) (t.count + 1) = 0 + 1 by omega, itCells_at _ _ hj]
      exact hb
  · rw [e] at hit
    refine (itNext_end w itb ⟨tb, cmpv ob, t.count⟩ hit).mono ?_
    rintro e w' ⟨rfl, hb, on⟩
    refine ⟨by simp, h.move on ?_ (by omega), on⟩
    rw [show min (t.count + 1 + 1) (t.count + 1) = t.ord.length + 1 by omega, itCells_end]
    exact hb
  · rw [e] at hit
    refine (itNext_on w itb ⟨tb, cmpv ob, t.count⟩ c i l k v b r hst hit).mono ?_
    rintro e w' ⟨rfl, hb, on⟩
    rw [h3] at hb ⊢
    by_cases h0 : q + 1 < t.count
    · obtain ⟨j, hj⟩ : ∃ j, t.ord[q + 1]? = some j := ⟨_, List.getElem?_eq_getElem (by omega)⟩
      rw [hj] at hb ⊢
      refine ⟨by simp [h0], h.move on ?_ (by omega), on⟩
      rw [show min (q + 1 + 1) (t.count + 1) = q + 1 + 1 by omega, itCells_at _ _ hj]
      exact hb
    · have e1 : t.ord[q + 1]? = none := List.getElem?_eq_none (by omega)
      rw [e1] at hb ⊢
      refine ⟨by simp [h0], h.move on ?_ (by omega), on⟩
      rw [show min (q + 1 + 1) (t.count + 1) = t.ord.length + 1 by omega, itCells_end]
      exact hb
theorem rbItPrev_walk (h : RbItAt o ob B w tb itb t p) :
    Calls Try.prog 121 #[.pointer (some ⟨itb, 0, none⟩)] w fun e w' => e = .returned (.bool (decide (1 < p))) ∧ RbItAt o ob B w' tb itb t (p - 1) ∧ Only [itb] w w' := by
  have hit := h.it
  have hn := BT.ord_length t
  rcases h.fits with ⟨rfl, e⟩ | ⟨rfl, e⟩ | ⟨q, rfl, hq, c, i, l, k, v, b, r, hst, h1, h2, h3, h4, e⟩
  · rw [e] at hit
    refine (itPrev_end w itb ⟨tb, cmpv ob, t.count⟩ hit).mono ?_
    rintro e w' ⟨rfl, hb, on⟩
    exact ⟨by simp, h.move on hb (by omega), on⟩
  · rw [e] at hit
    refine (itPrev_start w itb ⟨tb, cmpv ob, t.count⟩ t h.at_.st hit).mono ?_
    rintro e w' ⟨rfl, hb, on⟩
    have hlo := hi_at t
    by_cases h0 : t.count = 0
    · have e1 : t.hi = none := by rw [hlo, List.getElem?_eq_none (by omega)]
      rw [e1] at hb
      refine ⟨by rw [e1]; simp [h0], h.move on ?_ (by omega), on⟩
      rw [h0, show 0 + 1 - 1 = 0 by omega, itCells_zero]
      exact hb
    · obtain ⟨j, hj⟩ : ∃ j, t.ord[t.ord.length - 1]? = some j := ⟨_, List.getElem?_eq_getElem (by omega)⟩
      rw [hlo, hj] at hb
      refine ⟨by rw [hlo, hj]; simp; omega, h.move on ?_ (by omega), on⟩
      rw [show t.count + 1 - 1 = (t.ord.length - 1) + 1 by omega, itCells_at _ _ hj]
      exact hb
  · rw [e] at hit
    refine (itPrev_on w itb ⟨tb, cmpv ob, t.count⟩ c i l k v b r hst hit).mono ?_
    rintro e w' ⟨rfl, hb, on⟩
    rw [h4] at hb ⊢
    by_cases h0 : q = 0
    · rw [if_pos h0] at hb ⊢
      subst h0
      exact ⟨by simp, h.move on hb (by omega), on⟩
    · rw [if_neg h0] at hb ⊢
      obtain ⟨j, hj⟩ : ∃ j, t.ord[q - 1]? = some j := ⟨_, List.getElem?_eq_getElem (by omega)⟩
      rw [hj] at hb ⊢
      refine ⟨by simp; omega, h.move on ?_ (by omega), on⟩
      rw [show q + 1 - 1 = q - 1 + 1 by omega, itCells_at _ _ hj]
      exact hb
theorem rbItBegin_walk (h : RbItAt o ob B w tb itb t p) :
    Calls Try.prog 116 #[.pointer (some ⟨itb, 0, none⟩)] w fun e w' => e = .returned (.tuple #[]) ∧ RbItAt o ob B w' tb itb t 0 ∧ Only [itb] w w' := by
  refine (itBegin_walk w itb tb _ _ h.it).mono ?_
  rintro e w' ⟨rfl, hb, on⟩
  exact ⟨rfl, h.move on hb (by omega), on⟩
theorem rbItEnd_walk (h : RbItAt o ob B w tb itb t p) :
    Calls Try.prog 117 #[.pointer (some ⟨itb, 0, none⟩)] w fun e w' => e = .returned (.tuple #[]) ∧ RbItAt o ob B w' tb itb t (t.count + 1) ∧ Only [itb] w w' := by
  refine (itEnd_walk w itb tb _ _ h.it).mono ?_
  rintro e w' ⟨rfl, hb, on⟩
  refine ⟨rfl, h.move on ?_ (by omega), on⟩
  rw [← BT.ord_length, itCells_end]
  exact hb
theorem rbItKey_walk {q : Nat} {k v : Int} (h : RbItAt o ob B w tb itb t (q + 1)) (hq : t.kvs[q]? = some (k, v)) :
    Calls Try.prog 93 #[.pointer (some ⟨itb, 0, none⟩)] w fun e w' => e = .returned (.iface 3 (.int .i64 k)) ∧ w' = w := by
  have hlt : q < t.count := by
    rcases Nat.lt_or_ge q t.count with h' | h'
    · exact h'
    · rw [List.getElem?_eq_none (by rw [BT.kvs_length]; exact h')] at hq; cases hq
  have hit := h.it
  rcases h.fits with ⟨e0, e⟩ | ⟨e0, e⟩ | ⟨q', e0, hq', c, i, l, k', v', b, r, hst, h1, h2, h3, h4, e⟩
  · omega
  · omega
  · obtain rfl : q = q' := by omega
    rw [hq] at h2
    obtain ⟨rfl, rfl⟩ : k = k' ∧ v = v' := by simpa using h2
    rw [e] at hit
    exact itKey_walk w itb tb ⟨tb, cmpv ob, t.count⟩ c i l k v b r hst hit
theorem rbItValue_walk {q : Nat} {k v : Int} (h : RbItAt o ob B w tb itb t (q + 1)) (hq : t.kvs[q]? = some (k, v)) :
    Calls Try.prog 100 #[.pointer (some ⟨itb, 0, none⟩)] w fun e w' => e = .returned (.iface 3 (.int .i64 v)) ∧ w' = w := by
  have hlt : q < t.count := by
    rcases Nat.lt_or_ge q t.count with h' | h'
    · exact h'
    · rw [List.getElem?_eq_none (by rw [BT.kvs_length]; exact h')] at hq; cases hq
  have hit := h.it
  rcases h.fits with ⟨e0, e⟩ | ⟨e0, e⟩ | ⟨q', e0, hq', c, i, l, k', v', b, r, hst, h1, h2, h3, h4, e⟩
  · omega
  · omega
  · obtain rfl : q = q' := by omega
    rw [hq] at h2
    obtain ⟨rfl, rfl⟩ : k = k' ∧ v = v' := by simpa using h2
    rw [e] at hit
    exact itValue_walk w itb tb ⟨tb, cmpv ob, t.count⟩ c i l k v b r hst hit
end

theorem rbIterator_walk (w : World) (tb : Nat) : Calls Try.prog 34 #[.pointer (some ⟨tb, 0, none⟩)] w fun e w' =>
    e = .returned (.agg #[.pointer (some ⟨tb, 0, none⟩), .pointer none, .int .u8 0]) ∧ w' = w.alloc (.cells #[.pointer (some ⟨tb, 0, none⟩), .pointer none, .int .u8 0] 76) := by
  have fb : Blk (w.alloc (.cells #[.pointer (some ⟨tb, 0, none⟩), .pointer none, .int .u8 0] 76)) w.heap.size 76 #[.pointer (some ⟨tb, 0, none⟩), .pointer none, .int .u8 0] := Blk.new _ _ _
  have FB := Lib.hid fb
  clear fb
  go_enter Try.func34, Try.ntmps34
  go_wp2_with fail
  refine bodyPost_ret (results_cell_row rfl _ _ w.heap.size _ _ (0, 0) _ rfl FB.out Try.underlying76 rfl it_size) rfl ?_
  exact ⟨rfl, rfl⟩

end Go.Proofs.Ytmhkknobgcdkkaa.Rb
