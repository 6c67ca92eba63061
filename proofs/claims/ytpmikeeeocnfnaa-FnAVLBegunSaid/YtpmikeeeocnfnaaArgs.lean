/-
  The arguments of a statement, read off memory: an order, an act, a list of acts or moves; and append onto a slice of the call's own from whatever source.
-/
import Derived.Test.YtpmikeeeocnfnaaCommon
import Derived.ProofKit
import Derived.OpenShut
import Derived.Deep.Slices
import Derived.Deep.Fields
import Derived.Lib.SmallJoins
import Derived.Maps.AppendAt
import Derived.Laws.AppendOwnNone
namespace Go.Proofs.Ytpmikeeeocnfnaa
open Go.ChangeShapes Go.WideShapes Go.ChangeAt Go.RowKit Go.Deep Go.Joins

theorem list_choose {α : Type} {n : Nat} {Q : Nat → α → Prop} (h : ∀ i, i < n → ∃ x, Q i x) : ∃ l : List α, l.length = n ∧ ∀ i x, l[i]? = some x → Q i x := by
  induction n with
  | zero => exact ⟨[], rfl, fun i x hx => by simp at hx⟩
  | succ n ih =>
    obtain ⟨l, hl, hq⟩ := ih (fun i hi => h i (by omega))
    obtain ⟨x, hx⟩ := h n (by omega)
    refine ⟨l ++ [x], by simp [hl], fun i y hy => ?_⟩
    by_cases hi : i < n
    · rw [List.getElem?_append_left (by omega)] at hy; exact hq i y hy
    · have hi2 : i = n := by
        have := (List.getElem?_eq_some_iff.1 hy).1
        simp at this; omega
      subst hi2
      rw [List.getElem?_append_right (by omega)] at hy
      simp [hl] at hy; exact hy ▸ hx

section
variable {H : Type} {enc : TypeId × Value → H} {P : Program} {w : World} {base : Nat} {spare : Nat → Bool} {held : Bool}

theorem trod_ints {e : TypeId} {fs : Array Field} {fuel : Nat} {cs : List Value} {x : DataW H × List MemPlace} (he : P.underlying e = some (.struct fs)) (hone : oneCellFields P fs = true) (hC : P.cellsOf e = fs.size)
    (hint : ∀ (i : Nat) (f : Field), fs[i]? = some f → P.underlying f.type = some (.int .i64)) (h : DataW.trod enc P w base spare held fuel e cs = some x) :
    cs.length = fs.size ∧ ∀ i, i < fs.size → ∃ k, cs[i]? = some (.int .i64 k) := by
  obtain ⟨ys, n, _, _, hlen, hyl, hf⟩ := DataW.trod_struct he h
  refine ⟨hlen.trans hC, fun i hi => ?_⟩
  have hfi : fs[i]? = some fs[i] := Array.getElem?_eq_getElem hi
  obtain ⟨ho, hk⟩ := hone_of hone i _ hfi
  have h1 := hf i _ hfi
  rw [ho, hk] at h1
  have hlt : i < cs.length := by rw [hlen, hC]; exact hi
  have hd : (cs.drop i).take 1 = [cs[i]] := by rw [List.drop_eq_getElem_cons hlt]; rfl
  rw [hd, List.getElem?_eq_getElem (by omega)] at h1
  obtain ⟨k, hk, _⟩ := DataW.trod_int (hint i _ hfi) h1
  simp only [List.cons.injEq, and_true] at hk
  exact ⟨k, by rw [List.getElem?_eq_getElem hlt, hk]⟩

theorem open_acts {t e : TypeId} {fs : Array Field} {A : Option Addr} {n cap : Nat} {d : DataW H} {p : List MemPlace} (ht : P.underlying t = some (.slice e)) (he : P.underlying e = some (.struct fs)) (hone : oneCellFields P fs = true) (hC : P.cellsOf e = fs.size)
    (h3 : fs.size = 3) (hint : ∀ (i : Nat) (f : Field), fs[i]? = some f → P.underlying f.type = some (.int .i64)) (h : DataW.Trod enc P w base spare held t (.slice A n cap) d p) :
    ∃ acts : List Do, acts.length = n ∧ (A = none → n = 0 ∧ cap = 0) ∧ ActsAt w w.heap.size A acts := by
  obtain ⟨fuel, hf⟩ := h
  rcases open_slice ht hf with ⟨hcs, _⟩ | ⟨a, len, cap', m, n', D, Pl, hcs, hb, hl, hm, hmm, hx, hi⟩
  · simp only [Value.cells] at hcs
    simp at hcs
    obtain ⟨rfl, rfl, rfl⟩ := hcs
    exact ⟨[], rfl, fun _ => ⟨rfl, rfl⟩, fun i d hd => by simp at hd⟩
  · simp only [Value.cells] at hcs
    simp at hcs
    obtain ⟨rfl, rfl, rfl⟩ := hcs
    have hnm : n ≤ m := by rw [hmm]; split <;> omega
    obtain ⟨acts, hl2, hq⟩ := list_choose (n := n) (Q := fun i (d : Do) => w.cell? (a.add (i * 3)) = some (.int .i64 d.op) ∧ w.cell? (a.add (i * 3 + 1)) = some (.int .i64 d.key) ∧ w.cell? (a.add (i * 3 + 2)) = some (.int .i64 d.val)) (fun i hin => by
      obtain ⟨cs', hc, ht'⟩ := hi i (by omega)
      obtain ⟨_, hcl, hat⟩ := World.cells?_some hc
      obtain ⟨hlen, hk⟩ := trod_ints he hone hC hint ht'
      obtain ⟨k0, e0⟩ := hk 0 (by omega)
      obtain ⟨k1, e1⟩ := hk 1 (by omega)
      obtain ⟨k2, e2⟩ := hk 2 (by omega)
      rw [hC, h3] at hat
      have a0 := hat 0 (by omega)
      have a1 := hat 1 (by omega)
      have a2 := hat 2 (by omega)
      rw [add_of_add] at a0 a1 a2
      exact ⟨⟨k0, k1, k2⟩, a0.trans e0, a1.trans e1, a2.trans e2⟩)
    refine ⟨acts, hl2, (fun h => by cases h), fun i d hd => ?_⟩
    obtain ⟨h0, h1, h2⟩ := hq i d hd
    refine ⟨a, rfl, ?_, h0, h1, h2⟩
    have := World.block_lt_of_cell? _ _ h0
    rwa [block_of_add] at this
end

/-- What a source that may be nil holds. -/
def Src (w : World) (size : Nat) (A : Option Addr) (n cap : Nat) (xs : List Value) : Prop :=
  xs.length = n * size ∧ (A = none → n = 0 ∧ cap = 0) ∧ ∀ a, A = some a → ∀ j u, xs[j]? = some u → w.cell? (a.add j) = some u

/-- append onto a slice of the call's own, from whatever source. -/
theorem wpList_app {P : Program} {w : World} {ops : Array Oper} {rest : List Oper} {o : Oper} {a : Act} {Q : Exit → Act → World → Prop} (hgd : o.guard = none) (s x : Operand) (t : TypeId)
    (ho : o.op = .call { callee := .builtin .append, args := #[s, x], argTypes := #[t, t] })
    (base : Nat) (e : TypeId) (i : TypeInfo) (z : Value) (size bytes : Nat) (ht : P.underlying t = some (.slice e)) (hi : P.info? e = some i) (hz : i.zero = some z)
    (hsize : i.size = size) (hby : i.bytes = bytes) (hzs : z.cells.size = size) (hsz : 0 < size)
    (v : Value) (n : Nat) (xs : List Value) (hs : a.eval s = v) (hown : w.ownsRow base e size v n xs)
    (A : Option Addr) (m c : Nat) (news : List Value) (hx : a.eval x = .slice A m c) (hsrc : Src w size A m c news) (h1 : ∀ u ∈ news, u.oneCell' = true)
    (h63 : n + m ≤ maxLen) (hbytes : (n + m) * bytes ≤ 140737488355328) (hbase : base ≤ w.heap.size)
    (h : ∀ v' w', w'.ownsRow base e size v' (n + m) (xs ++ news) → w.grownBy w' v.ownBlock → (v'.ownBlock = v.ownBlock ∨ v'.ownBlock = some w.heap.size) → wpList P ops Q rest (a.put o.dst v') w') :
    wpList P ops Q (o :: rest) a w := by
  obtain ⟨hl, hA, hc⟩ := hsrc
  cases A with
  | none =>
    obtain ⟨rfl, rfl⟩ := hA rfl
    have hn : news = [] := List.eq_nil_of_length_eq_zero (by simpa using hl)
    subst hn
    refine wpList_append_own_none hgd s x t ho base e i size ht hi v n xs hs hown hx ?_
    exact h v w (by simpa using hown) (World.grownBy.refl w _) (.inl rfl)
  | some ad =>
    refine wpList_append_own_at w hgd s x t ho base e i z size bytes ht hi hz hsize hby hzs hsz v n xs hs hown ad m c news hx hl (fun j u hu => hc ad rfl j u hu) h1 h63 hbytes hbase ?_
    exact fun v' w' h2 h3 _ h5 => h v' w' h2 h3 h5

/-- The cells of a list of acts. -/
def actCells (acts : List Do) : List Value := acts.flatMap fun d => [.int .i64 d.op, .int .i64 d.key, .int .i64 d.val]
theorem actCells_length (acts : List Do) : (actCells acts).length = acts.length * 3 := by
  induction acts with
  | nil => rfl
  | cons d l ih => simp only [actCells, List.flatMap_cons, List.length_append] at ih ⊢; rw [ih]; simp; omega
theorem actCells_append (l r : List Do) : actCells (l ++ r) = actCells l ++ actCells r := by simp [actCells]
theorem actCells_one (acts : List Do) : ∀ u ∈ actCells acts, u.oneCell' = true := by
  intro u hu
  simp only [actCells, List.mem_flatMap] at hu
  obtain ⟨d, _, hd⟩ := hu
  simp at hd
  rcases hd with rfl | rfl | rfl <;> rfl
theorem actCells_get {acts : List Do} {i : Nat} {d : Do} (h : acts[i]? = some d) : (actCells acts)[i * 3]? = some (.int .i64 d.op) ∧ (actCells acts)[i * 3 + 1]? = some (.int .i64 d.key) ∧ (actCells acts)[i * 3 + 2]? = some (.int .i64 d.val) := by
  induction acts generalizing i with
  | nil => simp at h
  | cons x l ih =>
    cases i with
    | zero => simp at h; subst h; simp [actCells]
    | succ i =>
      simp at h
      have := ih h
      have e : ∀ j, (actCells (x :: l))[(i + 1) * 3 + j]? = (actCells l)[i * 3 + j]? := fun j => by
        have : (i + 1) * 3 + j = (i * 3 + j) + 3 := by omega
        rw [this]
        simp [actCells]
      exact ⟨(e 0).trans this.1, (e 1).trans this.2.1, (e 2).trans this.2.2⟩
theorem actCells_inv {acts : List Do} {j : Nat} {u : Value} (h : (actCells acts)[j]? = some u) : ∃ i d, acts[i]? = some d ∧ (j = i * 3 ∧ u = .int .i64 d.op ∨ j = i * 3 + 1 ∧ u = .int .i64 d.key ∨ j = i * 3 + 2 ∧ u = .int .i64 d.val) := by
  have hj := (List.getElem?_eq_some_iff.1 h).1
  rw [actCells_length] at hj
  have hi : j / 3 < acts.length := by omega
  refine ⟨j / 3, acts[j / 3], List.getElem?_eq_getElem hi, ?_⟩
  obtain ⟨g0, g1, g2⟩ := actCells_get (List.getElem?_eq_getElem hi)
  have hm : j % 3 = 0 ∨ j % 3 = 1 ∨ j % 3 = 2 := by omega
  rcases hm with hm | hm | hm
  · left
    have e : j = j / 3 * 3 := by omega
    rw [← e] at g0; rw [g0] at h
    exact ⟨e, by injection h with h; exact h.symm⟩
  · right; left
    have e : j = j / 3 * 3 + 1 := by omega
    rw [← e] at g1; rw [g1] at h
    exact ⟨e, by injection h with h; exact h.symm⟩
  · right; right
    have e : j = j / 3 * 3 + 2 := by omega
    rw [← e] at g2; rw [g2] at h
    exact ⟨e, by injection h with h; exact h.symm⟩
theorem ActsAt.src {w : World} {B : Nat} {A : Option Addr} {n cap : Nat} {acts : List Do} (h : ActsAt w B A acts) (hn : acts.length = n) (hA : A = none → n = 0 ∧ cap = 0) : Src w 3 A n cap (actCells acts) := by
  refine ⟨by rw [actCells_length, hn], hA, fun a ha j u hu => ?_⟩
  obtain ⟨i, d, hd, hc⟩ := actCells_inv hu
  obtain ⟨a', ha', _, h0, h1, h2⟩ := h i d hd
  obtain rfl : a = a' := by rw [ha] at ha'; injection ha'
  rcases hc with ⟨rfl, rfl⟩ | ⟨rfl, rfl⟩ | ⟨rfl, rfl⟩
  · exact h0
  · exact h1
  · exact h2
/-- A row of acts of the call's own reads as acts. -/
theorem ActsAt.of_own {w : World} {base : Nat} {e : TypeId} {A : Option Addr} {n cap : Nat} {acts : List Do} (h : w.ownsRow base e 3 (.slice A n cap) acts.length (actCells acts)) : ActsAt w w.heap.size A acts := by
  intro i d hd
  obtain ⟨hlen, h⟩ := h
  have hi := (List.getElem?_eq_some_iff.1 hd).1
  rcases h with ⟨_, h0⟩ | ⟨g, cap', cur, hv, hb, hg, hnc, hcm, hcs, htk⟩
  · omega
  · injection hv with h1 h2 h3
    refine ⟨⟨g, 0, none⟩, h1, ?_, ?_⟩
    · rcases Nat.lt_or_ge g w.heap.size with hlt | hge
      · exact hlt
      · rw [Array.getElem?_eq_none hge] at hg; cases hg
    · obtain ⟨g0, g1, g2⟩ := actCells_get hd
      have hcell : ∀ j, j < acts.length * 3 → w.cell? ((⟨g, 0, none⟩ : Addr).add j) = (actCells acts)[j]? := fun j hj => by
        have e1 : (⟨g, 0, none⟩ : Addr).add j = ⟨g, j, none⟩ := by unfold Addr.add; split <;> simp_all
        rw [e1]
        simp only [World.cell?, hg]
        rw [← htk, List.getElem?_take_of_lt hj]
        simp
      exact ⟨(hcell _ (by omega)).trans g0, (hcell _ (by omega)).trans g1, (hcell _ (by omega)).trans g2⟩

end Go.Proofs.Ytpmikeeeocnfnaa
