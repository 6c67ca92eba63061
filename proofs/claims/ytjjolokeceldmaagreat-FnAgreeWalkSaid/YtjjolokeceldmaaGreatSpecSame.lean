import Derived.Test.YtjjolokeceldmaaGreatRows0
namespace Go.Proofs.YtjjolokeceldmaaGreat
open Go.RowKit
abbrev set4 (w : World) (g : Nat) (x0 x1 x2 x3 : Value) : World := (((w.setCell ⟨g, 0, none⟩ x0).setCell ⟨g, 1, none⟩ x1).setCell ⟨g, 2, none⟩ x2).setCell ⟨g, 3, none⟩ x3
theorem state_size : (Tryz.prog.info? 63).map (·.size) = some 4 := by kernel_rfl
def StateAt (w : World) (B : Nat) (v : Value) (l : KV) : Prop := ∃ (A1 : Option Addr) (c1 : Nat) (A2 : Option Addr) (c2 : Nat),
 v = .agg #[.slice A1 l.length c1, .slice A2 l.length c2, .int .i64 (l.length : Int), .bool ((l.length : Int) == 0)] ∧ RowAt w B A1 (intRow (l.map Prod.fst)) ∧ RowAt w B A2 (intRow (l.map Prod.snd))
theorem StateAt.below {w w' : World} {B : Nat} {v : Value} {l : KV} (h : StateAt w B v l) (k : Below B w w') : StateAt w' B v l := by
 obtain ⟨A1, c1, A2, c2, e, h1, h2⟩ := h
 exact ⟨A1, c1, A2, c2, e, h1.below k, h2.below k⟩
theorem StateAt.more {w : World} {B C : Nat} {v : Value} {l : KV} (h : StateAt w B v l) (k : B ≤ C) : StateAt w C v l := by
 obtain ⟨A1, c1, A2, c2, e, h1, h2⟩ := h
 exact ⟨A1, c1, A2, c2, e, h1.more k, h2.more k⟩
def StateOwn (w : World) (base : Nat) (v : Value) (l : KV) : Prop := ∃ (A1 : Option Addr) (c1 : Nat) (A2 : Option Addr) (c2 : Nat),
 v = .agg #[.slice A1 l.length c1, .slice A2 l.length c2, .int .i64 (l.length : Int), .bool ((l.length : Int) == 0)] ∧ w.ownsRow base 3 1 (.slice A1 l.length c1) l.length (intRow (l.map Prod.fst)) ∧ w.ownsRow base 3 1 (.slice A2 l.length c2) l.length (intRow (l.map Prod.snd))
section
variable {w w' : World} {base base' : Nat} {v : Value} {l : KV}
theorem StateOwn.keep (h : StateOwn w base v l) (k : ∀ g, base ≤ g → g < w.heap.size → w'.heap[g]? = w.heap[g]?) : StateOwn w' base v l := by
 obtain ⟨A1, c1, A2, c2, e, h1, h2⟩ := h
 exact ⟨A1, c1, A2, c2, e, own_keep h1 k, own_keep h2 k⟩
theorem StateOwn.far (h : StateOwn w base v l) {p : Addr} (hp : p.block < base) (x : Value) : StateOwn (w.setCell p x) base v l := by
 obtain ⟨A1, c1, A2, c2, e, h1, h2⟩ := h
 exact ⟨A1, c1, A2, c2, e, own_far h1 hp x, own_far h2 hp x⟩
theorem StateOwn.below (h : StateOwn w base v l) (k : Below w.heap.size w w') : StateOwn w' base v l := h.keep fun g _ hg => k.block g hg
theorem own_base {w : World} {base base' : Nat} {e : TypeId} {size : Nat} {v : Value} {n : Nat} {xs : List Value} (h : w.ownsRow base e size v n xs) (hb : base' ≤ base) : w.ownsRow base' e size v n xs := by
 refine ⟨h.1, ?_⟩
 rcases h.2 with h0 | ⟨g, cap', cur, hv, hg, h2⟩
 ·exact .inl h0
 ·exact .inr ⟨g, cap', cur, hv, by omega, h2⟩
theorem StateOwn.less (h : StateOwn w base v l) (hb : base' ≤ base) : StateOwn w base' v l := by
 obtain ⟨A1, c1, A2, c2, e, h1, h2⟩ := h
 exact ⟨A1, c1, A2, c2, e, own_base h1 hb, own_base h2 hb⟩
theorem StateOwn.at_ (h : StateOwn w base v l) : StateAt w w.heap.size v l := by
 obtain ⟨A1, c1, A2, c2, e, h1, h2⟩ := h
 exact ⟨A1, c1, A2, c2, e, RowAt.of_own h1, RowAt.of_own h2⟩
end
end Go.Proofs.YtjjolokeceldmaaGreat
