import Derived.Test.YtgakapigpiaoiaaBtBkRow
namespace Go.Proofs.Ytgakapigpiaoiaa.Bt
open Go.RowKit Go.Proofs.Ytgakapigpiaoiaa
structure ReadB (w : World) (C : Nat) (ad : Addr) (x : BK) (K1 : Option Addr) (c1 : Nat) (K2 : Option Addr) (c2 : Nat) (K3 : Option Addr) (c3 : Nat) : Prop where
  lt : ad.block < C
  cell : ∀ q z, (bkVals x K1 c1 K2 c2 K3 c3)[q]? = some z → w.cell? (ad.add q) = some z
  r1 : RowAt w C K1 (intRow x.keys)
  r2 : RowAt w C K2 (intRow x.vals)
  r3 : RowAt w C K3 (intRow x.kids)
  n1 : K1 = none → x.keys.length = 0 ∧ c1 = 0
  n2 : K2 = none → x.vals.length = 0 ∧ c2 = 0
  n3 : K3 = none → x.kids.length = 0 ∧ c3 = 0
def ListAt (w : World) (C : Nat) (A : Option Addr) (L : List BK) : Prop :=
  ∀ j x, L[j]? = some x → ∃ ad K1 c1 K2 c2 K3 c3, A = some ad ∧ ReadB w C (ad.add (j * 5)) x K1 c1 K2 c2 K3 c3
section
variable {w w' : World} {C D B : Nat} {ad : Addr} {x : BK} {K1 K2 K3 A : Option Addr} {c1 c2 c3 : Nat} {L : List BK}
theorem ReadB.below (h : ReadB w C ad x K1 c1 K2 c2 K3 c3) (b : Below C w w') : ReadB w' C ad x K1 c1 K2 c2 K3 c3 :=
  ⟨h.lt, fun q z hz => (b.cell (by rw [block_of_add]; exact h.lt)).trans (h.cell q z hz), h.r1.below b, h.r2.below b, h.r3.below b, h.n1, h.n2, h.n3⟩
theorem ReadB.more (h : ReadB w C ad x K1 c1 K2 c2 K3 c3) (hD : C ≤ D) : ReadB w D ad x K1 c1 K2 c2 K3 c3 :=
  ⟨Nat.lt_of_lt_of_le h.lt hD, h.cell, h.r1.more hD, h.r2.more hD, h.r3.more hD, h.n1, h.n2, h.n3⟩
theorem ListAt.below (h : ListAt w C A L) (b : Below C w w') : ListAt w' C A L := fun j x hx => by
  obtain ⟨ad, K1, c1, K2, c2, K3, c3, e, r⟩ := h j x hx
  exact ⟨ad, K1, c1, K2, c2, K3, c3, e, r.below b⟩
theorem ListAt.more (h : ListAt w C A L) (hD : C ≤ D) : ListAt w D A L := fun j x hx => by
  obtain ⟨ad, K1, c1, K2, c2, K3, c3, e, r⟩ := h j x hx
  exact ⟨ad, K1, c1, K2, c2, K3, c3, e, r.more hD⟩
theorem own_none {e : TypeId} {size n n' cap : Nat} {xs : List Value} (h : w.ownsRow B e size (.slice A n cap) n' xs) : A = none → n = 0 ∧ cap = 0 := by
  intro hA
  subst hA
  rcases h.2 with ⟨e, _⟩ | ⟨g, cap', cur, e, _⟩
  · injection e with _ e1 e2; exact ⟨e1, e2⟩
  · injection e with e0; cases e0
theorem intRow_at {xs : List Int} {k : Nat} {y : Int} (h : xs[k]? = some y) : (intRow xs)[k]? = some (.int .i64 y) := by simp [intRow, h]
theorem rowAt_src {cs : List Value} {n cap size : Nat} (h : RowAt w B A cs) (hn : cs.length = n * size) (hA : A = none → n = 0 ∧ cap = 0) : Src w size A n cap cs := by
  refine ⟨hn, hA, fun a ha j u hu => ?_⟩
  obtain ⟨a', ha', _, h0⟩ := h j u hu
  obtain rfl : a = a' := by rw [ha] at ha'; injection ha'
  exact h0
theorem ListAt.of_own {n cap : Nat} {cs : List Value} {F : Nat → Prop} (h : w.ownsRow B 39 5 (.slice A n cap) n cs) (k : BksAt w D F cs L) : ListAt w w.heap.size A L := fun j x hx => by
  obtain ⟨vs, ⟨K1, c1, K2, c2, K3, c3, rfl, r, _⟩, hq⟩ := k.get hx
  have R := RowAt.of_own h
  have h0 : cs[j * 5]? = some (.int .i64 x.up) := by have := hq 0 (by omega); simpa [bkVals] using this
  obtain ⟨ad, hA, hlt, _⟩ := R _ _ h0
  refine ⟨ad, K1, c1, K2, c2, K3, c3, hA, by rw [block_of_add]; exact hlt, fun q z hz => ?_, RowAt.of_own r.o1, RowAt.of_own r.o2, RowAt.of_own r.o3, own_none r.o1, own_none r.o2, own_none r.o3⟩
  have hq5 : q < 5 := by have := (List.getElem?_eq_some_iff.1 hz).1; simpa [bkVals] using this
  obtain ⟨ad', hA', _, hc⟩ := R _ _ ((hq q hq5).trans hz)
  rw [hA] at hA'
  injection hA' with hA'
  subst hA'
  rw [add_of_add]; exact hc
theorem ReadB.cells {m : Nat} (h : ReadB w C (ad.add m) x K1 c1 K2 c2 K3 c3) :
    w.cell? (ad.add m) = some (.int .i64 x.up) ∧ w.cell? ⟨(ad.add m).block, (ad.add m).off + 1, none⟩ = some (.slice K1 x.keys.length c1) ∧ w.cell? ⟨(ad.add m).block, (ad.add m).off + 2, none⟩ = some (.slice K2 x.vals.length c2) ∧
      w.cell? ⟨(ad.add m).block, (ad.add m).off + 3, none⟩ = some (.slice K3 x.kids.length c3) ∧ w.cell? ⟨(ad.add m).block, (ad.add m).off + 4, none⟩ = some (.int .i64 x.size) := by
  have e : ∀ q, q ≠ 0 → (ad.add m).add q = ⟨(ad.add m).block, (ad.add m).off + q, none⟩ := fun q hq => by rw [add_of_add]; exact add_succ _ _ _ hq
  have h0 := h.cell 0 _ rfl
  rw [add_of_add, Nat.add_zero] at h0
  refine ⟨h0, ?_, ?_, ?_, ?_⟩
  · rw [← e 1 (by omega)]; exact h.cell 1 _ rfl
  · rw [← e 2 (by omega)]; exact h.cell 2 _ rfl
  · rw [← e 3 (by omega)]; exact h.cell 3 _ rfl
  · rw [← e 4 (by omega)]; exact h.cell 4 _ rfl
end
end Go.Proofs.Ytgakapigpiaoiaa.Bt
