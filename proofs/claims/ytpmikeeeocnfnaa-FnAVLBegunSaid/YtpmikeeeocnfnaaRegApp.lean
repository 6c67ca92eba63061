/-
  append onto a row of the call's own as one step of a region that draws its order; slices of rows; two rows side by side.
-/
import Derived.Test.YtpmikeeeocnfnaaSpecCmp
namespace Go.Proofs.Ytpmikeeeocnfnaa
open Go.RowKit

theorem step_app {P : Program} {ops : Array Oper} {o : Oper} {a : Act} {w : World} {K : Act → World → Prop} {Q : Exit → Act → World → Prop} {E : Prop} {t e : TypeId} {z : Value} {size bytes : Nat}
    (ht : P.underlying t = some (.slice e)) (info : (P.info? e).map (fun i => (i.zero, i.size, i.bytes)) = some (some z, size, bytes)) (hzs : z.cells.size = size) (hsz : 0 < size)
    (hg : o.guard = none) (s x : Operand) (ho : o.op = .call { callee := .builtin .append, args := #[s, x], argTypes := #[t, t] })
    (base : Nat) (v : Value) (n : Nat) (xs : List Value) (hs : a.eval s = v) (hown : w.ownsRow base e size v n xs)
    (A : Option Addr) (m c : Nat) (news : List Value) (hx : a.eval x = .slice A m c) (hsrc : Src w size A m c news) (h1 : ∀ u ∈ news, u.oneCell' = true)
    (h63 : n + m ≤ 1000000) (hbytes : (n + m) * bytes ≤ 140737488355328) (hbase : base ≤ w.heap.size)
    (hK : ∀ v' w', w'.ownsRow base e size v' (n + m) (xs ++ news) → w.grownBy w' v.ownBlock → (v'.ownBlock = v.ownBlock ∨ v'.ownBlock = some w.heap.size) → K (a.put o.dst v') w') :
    if Region.wanted o (yielded ops a.tmps) = true then Oper.wp P o a w K Q else E := by
  have hw : Region.wanted o (yielded ops a.tmps) = true := by simp [Region.wanted, hg]
  rw [if_pos hw]
  obtain ⟨i0, hi, hz0, hz1, hz2⟩ := info_parts info
  obtain ⟨hl, hA, hc⟩ := hsrc
  cases A with
  | none =>
    obtain ⟨rfl, rfl⟩ := hA rfl
    have hn : news = [] := List.eq_nil_of_length_eq_zero (by simpa using hl)
    subst hn
    have hrun := run_append_owned_none (P := P) (w := w) base t o.type e i0 size ht hi v n xs hown
    unfold Oper.wp
    simp [execOp, ho, resolve, invoke, builtin, hs, hx, hrun, Result.andThen]
    exact hK v w (by simpa using hown) (World.grownBy.refl w _) (.inl rfl)
  | some ad =>
    obtain ⟨v', w', hr, h2, h3, _, h5⟩ := run_append_own_at (P := P) w base t o.type e i0 z size bytes ht hi hz0 hz1 hz2 hzs hsz v n xs hown ad m c news hl (fun j u hu => hc ad rfl j u hu) h1 (by unfold maxLen; omega) hbytes hbase
    unfold Oper.wp
    simp [execOp, ho, resolve, invoke, builtin, hs, hx, hr, Result.andThen]
    exact hK v' w' h2 h3 h5

/-- Another row is as it was. -/
theorem own_grown {w w' : World} {base : Nat} {e : TypeId} {size : Nat} {v : Value} {n : Nat} {xs : List Value} {row : Option Nat} (h : w.ownsRow base e size v n xs) (gr : w.grownBy w' row) (hne : ∀ g, v.ownBlock = some g → row ≠ some g) :
    w'.ownsRow base e size v n xs := by
  refine ⟨h.1, ?_⟩
  rcases h.2 with ⟨rfl, h0⟩ | ⟨g, cap', cur, rfl, hb, hg, h2⟩
  · exact .inl ⟨rfl, h0⟩
  · exact .inr ⟨g, cap', cur, rfl, hb, grown_keep gr hg (hne g rfl), h2⟩

theorem Blk.newAt {w : World} {n : Nat} (h : n = w.heap.size) (t : TypeId) (cs : Array Value) : Blk (w.alloc (.cells cs t)) n t cs := by subst h; exact Blk.new w t cs

/-- An empty row of the call's own, in whatever world. -/
theorem own_empty' {w : World} {base g : Nat} {e : TypeId} {size : Nat} (hg : Blk w g e #[]) (hb : base ≤ g) : w.ownsRow base e size (.slice (some ⟨g, 0, none⟩) 0 0) 0 [] := own_empty hg hb
theorem RowAt.step {w w' : World} {A : Option Addr} {cs : List Value} (h : RowAt w w.heap.size A cs) (b : Below w.heap.size w w') : RowAt w' w.heap.size A cs := h.below b

/-! Parts of rows -/

theorem RowAt.take {w : World} {B : Nat} {A : Option Addr} {cs : List Value} (h : RowAt w B A cs) (k : Nat) : RowAt w B A (cs.take k) := fun j u hu => h j u (by
  have hj := (List.getElem?_eq_some_iff.1 hu).1
  rw [List.length_take] at hj
  rwa [List.getElem?_take_of_lt (by omega)] at hu)
theorem RowAt.drop {w : World} {B : Nat} {a : Addr} {cs : List Value} (h : RowAt w B (some a) cs) (k : Nat) : RowAt w B (some (a.add k)) (cs.drop k) := fun j u hu => by
  rw [List.getElem?_drop] at hu
  obtain ⟨a', ha, hb, hc⟩ := h _ _ hu
  injection ha with ha
  subst ha
  exact ⟨_, rfl, by rw [block_of_add]; exact hb, by rw [add_of_add]; exact hc⟩
theorem take_len {α : Type} {l : List α} {k n : Nat} (h : k ≤ n) (hn : l.length = n) : (l.take k).length = k := by rw [List.length_take]; omega
/-- The tail of a row of pairs as a source; where there is none the address does not matter. -/
theorem src_tail {w : World} {B : Nat} {a a' : Addr} {L : KV} {j m c : Nat} (h : RowAt w B (some a) (prCells L)) (hm : m = L.length - j) (ha : a' = a.add (j * 2) ∨ L.length ≤ j) : Src w 2 (some a') m c (prCells (L.drop j)) := by
  refine ⟨by rw [prCells_length, List.length_drop, hm], (fun h => by cases h), fun b hb i u hu => ?_⟩
  injection hb with hb
  subst hb
  rcases ha with rfl | ha
  · rw [prCells_drop] at hu
    obtain ⟨b, hb, _, hc⟩ := h.drop (j * 2) i u hu
    injection hb with hb
    subst hb
    exact hc
  · rw [List.drop_of_length_le ha] at hu
    simp [prCells] at hu
theorem src_head {w : World} {B : Nat} {a : Addr} {L : KV} {j c : Nat} (h : RowAt w B (some a) (prCells L)) (hj : j ≤ L.length) : Src w 2 (some a) j c (prCells (L.take j)) := by
  rw [prCells_take]
  exact RowAt.src (h.take _) (by rw [List.length_take, prCells_length]; omega) (by simp)
theorem add_at (g n : Nat) : (⟨g, 0, none⟩ : Addr).add n = ⟨g, n, none⟩ := by unfold Addr.add; split <;> simp_all
theorem pr_info : (Try.prog.info? 48).map (fun i => (i.zero, i.size, i.bytes)) = some (some (.agg #[.int .i64 0, .int .i64 0]), 2, 16) := by kernel_rfl

end Go.Proofs.Ytpmikeeeocnfnaa
