/-
  The reference's comparisons: Same, SameState, of what is the same.
-/
import Derived.Test.YtgakapigpiaoiaaRows0
namespace Go.Proofs.Ytgakapigpiaoiaa
open Go.RowKit

set_option maxRecDepth 100000 in
theorem same_yes (xs : List Int) (w : World) (n c1 c2 : Nat) (A1 A2 : Option Addr) (B1 B2 : Nat) (hn : xs.length = n) (hn1 : n ≤ 100000) (h1 : RowAt w B1 A1 (intRow xs)) (h2 : RowAt w B2 A2 (intRow xs)) :
    Calls Try.prog 13 #[.slice A1 n c1, .slice A2 n c2] w fun e w' => e = .returned (.bool true) ∧ ∃ m, w' = w.drewN m := by
  have H1 := Lib.hid h1
  have H2 := Lib.hid h2
  clear h1 h2
  go_enter Try.func13, Try.ntmps13
  go_wp2_with fail
  go_loopw [13] (fun i wr => ∃ (k : Nat), k ≤ n ∧ i = .int .i64 k ∧ ∃ m, wr = w.drewN m) (fun i _ => n - (intOf i).toNat)
  case atStart => exact ⟨0, Nat.zero_le _, rfl, 0, rfl⟩
  case round =>
    obtain ⟨k, hk, rfl, hm⟩ := hrel
    have HM := Lib.hid hm
    by_cases hlt : k < n
    · obtain ⟨x, hx⟩ : ∃ x, xs[k]? = some x := ⟨_, List.getElem?_eq_getElem (by omega)⟩
      obtain ⟨a1, rfl, _, hc1⟩ := H1.out.get (intRow_get hx)
      obtain ⟨a2, rfl, _, hc2⟩ := H2.out.get (intRow_get hx)
      have hd1 : wr.cell? (a1.add k) = some (.int .i64 x) := by obtain ⟨m, rfl⟩ := hm; exact hc1
      have hd2 : wr.cell? (a2.add k) = some (.int .i64 x) := by obtain ⟨m, rfl⟩ := hm; exact hc2
      clear hc1 hc2 hm hx
      go_wp2_with fail
      go_region
      go_wp2_with fail
      go_roundw
      case rel =>
        obtain ⟨m, hm⟩ := HM.out
        exact ⟨k + 1, by omega, by go_num, m + 1, by rw [hm]; rfl⟩
      case measure => simp [intOf]; omega
    · clear hm
      go_wp2_with fail
      go_ret
      exact ⟨rfl, HM.out⟩

abbrev set4 (w : World) (g : Nat) (x0 x1 x2 x3 : Value) : World := (((w.setCell ⟨g, 0, none⟩ x0).setCell ⟨g, 1, none⟩ x1).setCell ⟨g, 2, none⟩ x2).setCell ⟨g, 3, none⟩ x3
theorem state_size : (Try.prog.info? 30).map (·.size) = some 4 := by kernel_rfl

/-- What a state holds. -/
def StateAt (w : World) (B : Nat) (v : Value) (l : KV) : Prop := ∃ (A1 : Option Addr) (c1 : Nat) (A2 : Option Addr) (c2 : Nat),
  v = .agg #[.slice A1 l.length c1, .slice A2 l.length c2, .int .i64 (l.length : Int), .bool ((l.length : Int) == 0)] ∧ RowAt w B A1 (intRow (l.map Prod.fst)) ∧ RowAt w B A2 (intRow (l.map Prod.snd))
theorem StateAt.below {w w' : World} {B : Nat} {v : Value} {l : KV} (h : StateAt w B v l) (k : Below B w w') : StateAt w' B v l := by
  obtain ⟨A1, c1, A2, c2, e, h1, h2⟩ := h
  exact ⟨A1, c1, A2, c2, e, h1.below k, h2.below k⟩
theorem StateAt.more {w : World} {B C : Nat} {v : Value} {l : KV} (h : StateAt w B v l) (k : B ≤ C) : StateAt w C v l := by
  obtain ⟨A1, c1, A2, c2, e, h1, h2⟩ := h
  exact ⟨A1, c1, A2, c2, e, h1.more k, h2.more k⟩

/-- The same, in rows of the call's own. -/
def StateOwn (w : World) (base : Nat) (v : Value) (l : KV) : Prop := ∃ (A1 : Option Addr) (c1 : Nat) (A2 : Option Addr) (c2 : Nat),
  v = .agg #[.slice A1 l.length c1, .slice A2 l.length c2, .int .i64 (l.length : Int), .bool ((l.length : Int) == 0)] ∧ w.ownsRow base 3 1 (.slice A1 l.length c1) l.length (intRow (l.map Prod.fst)) ∧ w.ownsRow base 3 1 (.slice A2 l.length c2) l.length (intRow (l.map Prod.snd))
section
variable {w w' : World} {base base' : Nat} {v : Value} {l : KV}
theorem StateOwn.keep (h : StateOwn w base v l) (k : ∀ g, base ≤ g → g < w.heap.size → w'.heap[g]? = w.heap[g]?) : StateOwn w' base v l := by
  obtain ⟨A1, c1, A2, c2, e, h1, h2⟩ := h
  exact ⟨A1, c1, A2, c2, e, own_keep h1 k, own_keep h2 k⟩
theorem StateOwn.far (h : StateOwn w base v l) {p : Addr} (hp : p.block < base) (x : Value) : StateOwn (w.setCell p x) base v l := by
  obtain ⟨A1, c1, A2, c2, e, h1, h2⟩ := h
  exact ⟨A1, c1, A2, c2, e, own_far h1 hp x, own_far h2 hp x⟩
theorem StateOwn.below (h : StateOwn w base v l) (k : Below w.heap.size w w') : StateOwn w' base v l := h.keep fun g _ hg => k.block g hg
theorem own_base {w : World} {base base' : Nat} {e : TypeId} {size : Nat} {v : Value} {n : Nat} {xs : List Value} (h : w.ownsRow base e size v n xs) (hb : base' ≤ base) : w.ownsRow base' e size v n xs := by
  refine ⟨h.1, ?_⟩
  rcases h.2 with h0 | ⟨g, cap', cur, hv, hg, h2⟩
  · exact .inl h0
  · exact .inr ⟨g, cap', cur, hv, by omega, h2⟩
theorem StateOwn.less (h : StateOwn w base v l) (hb : base' ≤ base) : StateOwn w base' v l := by
  obtain ⟨A1, c1, A2, c2, e, h1, h2⟩ := h
  exact ⟨A1, c1, A2, c2, e, own_base h1 hb, own_base h2 hb⟩
theorem StateOwn.at_ (h : StateOwn w base v l) : StateAt w w.heap.size v l := by
  obtain ⟨A1, c1, A2, c2, e, h1, h2⟩ := h
  exact ⟨A1, c1, A2, c2, e, RowAt.of_own h1, RowAt.of_own h2⟩
end

end Go.Proofs.Ytgakapigpiaoiaa
