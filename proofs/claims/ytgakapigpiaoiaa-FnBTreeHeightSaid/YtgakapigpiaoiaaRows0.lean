/-
  Several texts as one (Common, Args, SpecOrd, RowAt, RegBase): each says its own in its remarks.
-/
import Derived.Test.YtgakapigpiaoiaaCmp
import Derived.ProofKit
import Derived.OpenShut
import Derived.Deep.Slices
import Derived.Deep.Fields
import Derived.Lib.SmallJoins
import Derived.Maps.AppendAt
import Derived.Laws.AppendOwnNone
import Derived.Test.YtgakapigpiaoiaaPures
namespace Go.Proofs.Ytgakapigpiaoiaa
open Go.RowKit
def ActsAt (w : World) (B : Nat) (A : Option Addr) (acts : List Do) : Prop :=
  ∀ (i : Nat) (d : Do), acts[i]? = some d → ∃ a, A = some a ∧ a.block < B ∧ w.cell? (a.add (i * 3)) = some (.int .i64 d.op) ∧ w.cell? (a.add (i * 3 + 1)) = some (.int .i64 d.key) ∧ w.cell? (a.add (i * 3 + 2)) = some (.int .i64 d.val)
theorem block_of_add (a : Addr) (n : Nat) : (a.add n).block = a.block := by unfold Addr.add; split <;> rfl
theorem add_of_add (a : Addr) (i j : Nat) : (a.add i).add j = a.add (i + j) := by
  unfold Addr.add
  by_cases hi : i = 0 <;> by_cases hj : j = 0 <;> simp [hi, hj, Nat.add_assoc]
theorem add_succ (a : Addr) (m j : Nat) (hj : j ≠ 0) : a.add (m + j) = ⟨(a.add m).block, (a.add m).off + j, none⟩ := by
  rw [← add_of_add]; unfold Addr.add; rw [if_neg hj]
theorem ActsAt.at_ {w : World} {B : Nat} {A : Option Addr} {acts : List Do} (h : ActsAt w B A acts) {i : Nat} (hi : i < acts.length) : ∃ a d, A = some a ∧ a.block < B ∧ acts[i]? = some d ∧ w.cell? (a.add (i * 3)) = some (.int .i64 d.op) ∧
    w.cell? ⟨(a.add (i * 3)).block, (a.add (i * 3)).off + 1, none⟩ = some (.int .i64 d.key) ∧ w.cell? ⟨(a.add (i * 3)).block, (a.add (i * 3)).off + 2, none⟩ = some (.int .i64 d.val) := by
  obtain ⟨a, e, hb, h0, h1, h2⟩ := h i acts[i] (List.getElem?_eq_getElem hi)
  exact ⟨a, acts[i], e, hb, List.getElem?_eq_getElem hi, h0, by rw [← add_succ _ _ _ (by omega)]; exact h1, by rw [← add_succ _ _ _ (by omega)]; exact h2⟩
theorem ActsAt.keep {w w' : World} {B : Nat} {A : Option Addr} {acts : List Do} (h : ActsAt w B A acts) (k : ∀ p : Addr, p.block < B → w'.cell? p = w.cell? p) : ActsAt w' B A acts := fun i d hd => by
  obtain ⟨a, e, hb, h0, h1, h2⟩ := h i d hd
  exact ⟨a, e, hb, (k _ (by rw [block_of_add]; exact hb)).trans h0, (k _ (by rw [block_of_add]; exact hb)).trans h1, (k _ (by rw [block_of_add]; exact hb)).trans h2⟩
theorem ActsAt.below {w w' : World} {B : Nat} {A : Option Addr} {acts : List Do} (h : ActsAt w B A acts) (k : Below B w w') : ActsAt w' B A acts := h.keep fun _ hp => k.cell hp
theorem ActsAt.more {w : World} {B C : Nat} {A : Option Addr} {acts : List Do} (h : ActsAt w B A acts) (hC : B ≤ C) : ActsAt w C A acts := fun i d hd => by
  obtain ⟨a, e, hb, h0, h1, h2⟩ := h i d hd
  exact ⟨a, e, by omega, h0, h1, h2⟩
end Go.Proofs.Ytgakapigpiaoiaa

namespace Go.Proofs.Ytgakapigpiaoiaa
open Go.ChangeShapes Go.WideShapes Go.ChangeAt Go.RowKit Go.Deep Go.Joins
theorem list_choose {α : Type} {n : Nat} {Q : Nat → α → Prop} (h : ∀ i, i < n → ∃ x, Q i x) : ∃ l : List α, l.length = n ∧ ∀ i x, l[i]? = some x → Q i x := by
  induction n with
  | zero => exact ⟨[], rfl, fun i x hx => by simp at hx⟩
  | succ n ih =>
    obtain ⟨l, hl, hq⟩ := ih (fun i hi => h i (by omega))
    obtain ⟨x, hx⟩ := h n (by omega)
    refine ⟨l ++ [x], by simp [hl], fun i y hy => ?_⟩
    by_cases hi : i < n
    · rw [List.getElem?_append_left (by omega)] at hy; exact hq i y hy
    · have hi2 : i = n := by
        have := (List.getElem?_eq_some_iff.1 hy).1
        simp at this; omega
      subst hi2
      rw [List.getElem?_append_right (by omega)] at hy
      simp [hl] at hy; exact hy ▸ hx
section
variable {H : Type} {enc : TypeId × Value → H} {P : Program} {w : World} {base : Nat} {spare : Nat → Bool} {held : Bool}
theorem trod_ints {e : TypeId} {fs : Array Field} {fuel : Nat} {cs : List Value} {x : DataW H × List MemPlace} (he : P.underlying e = some (.struct fs)) (hone : oneCellFields P fs = true) (hC : P.cellsOf e = fs.size)
    (hint : ∀ (i : Nat) (f : Field), fs[i]? = some f → P.underlying f.type = some (.int .i64)) (h : DataW.trod enc P w base spare held fuel e cs = some x) :
    cs.length = fs.size ∧ ∀ i, i < fs.size → ∃ k, cs[i]? = some (.int .i64 k) := by
  obtain ⟨ys, n, _, _, hlen, hyl, hf⟩ := DataW.trod_struct he h
  refine ⟨hlen.trans hC, fun i hi => ?_⟩
  have hfi : fs[i]? = some fs[i] := Array.getElem?_eq_getElem hi
  obtain ⟨ho, hk⟩ := hone_of hone i _ hfi
  have h1 := hf i _ hfi
  rw [ho, hk] at h1
  have hlt : i < cs.length := by rw [hlen, hC]; exact hi
  have hd : (cs.drop i).take 1 = [cs[i]] := by rw [List.drop_eq_getElem_cons hlt]; rfl
  rw [hd, List.getElem?_eq_getElem (by omega)] at h1
  obtain ⟨k, hk, _⟩ := DataW.trod_int (hint i _ hfi) h1
  simp only [List.cons.injEq, and_true] at hk
  exact ⟨k, by rw [List.getElem?_eq_getElem hlt, hk]⟩
theorem open_acts {t e : TypeId} {fs : Array Field} {A : Option Addr} {n cap : Nat} {d : DataW H} {p : List MemPlace} (ht : P.underlying t = some (.slice e)) (he : P.underlying e = some (.struct fs)) (hone : oneCellFields P fs = true) (hC : P.cellsOf e = fs.size)
    (h3 : fs.size = 3) (hint : ∀ (i : Nat) (f : Field), fs[i]? = some f → P.underlying f.type = some (.int .i64)) (h : DataW.Trod enc P w base spare held t (.slice A n cap) d p) :
    ∃ acts : List Do, acts.length = n ∧ (A = none → n = 0 ∧ cap = 0) ∧ ActsAt w w.heap.size A acts := by
  obtain ⟨fuel, hf⟩ := h
  rcases open_slice ht hf with ⟨hcs, _⟩ | ⟨a, len, cap', m, n', D, Pl, hcs, hb, hl, hm, hmm, hx, hi⟩
  · simp only [Value.cells] at hcs
    simp at hcs
    obtain ⟨rfl, rfl, rfl⟩ := hcs
    exact ⟨[], rfl, fun _ => ⟨rfl, rfl⟩, fun i d hd => by simp at hd⟩
  · simp only [Value.cells] at hcs
    simp at hcs
    obtain ⟨rfl, rfl, rfl⟩ := hcs
    have hnm : n ≤ m := by rw [hmm]; split <;> omega
    obtain ⟨acts, hl2, hq⟩ := list_choose (n := n) (Q := fun i (d : Do) => w.cell? (a.add (i * 3)) = some (.int .i64 d.op) ∧ w.cell? (a.add (i * 3 + 1)) = some (.int .i64 d.key) ∧ w.cell? (a.add (i * 3 + 2)) = some (.int .i64 d.val)) (fun i hin => by
      obtain ⟨cs', hc, ht'⟩ := hi i (by omega)
      obtain ⟨_, hcl, hat⟩ := World.cells?_some hc
      obtain ⟨hlen, hk⟩ := trod_ints he hone hC hint ht'
      obtain ⟨k0, e0⟩ := hk 0 (by omega)
      obtain ⟨k1, e1⟩ := hk 1 (by omega)
      obtain ⟨k2, e2⟩ := hk 2 (by omega)
      rw [hC, h3] at hat
      have a0 := hat 0 (by omega)
      have a1 := hat 1 (by omega)
      have a2 := hat 2 (by omega)
      rw [add_of_add] at a0 a1 a2
      exact ⟨⟨k0, k1, k2⟩, a0.trans e0, a1.trans e1, a2.trans e2⟩)
    refine ⟨acts, hl2, (fun h => by cases h), fun i d hd => ?_⟩
    obtain ⟨h0, h1, h2⟩ := hq i d hd
    refine ⟨a, rfl, ?_, h0, h1, h2⟩
    have := World.block_lt_of_cell? _ _ h0
    rwa [block_of_add] at this
end
def Src (w : World) (size : Nat) (A : Option Addr) (n cap : Nat) (xs : List Value) : Prop :=
  xs.length = n * size ∧ (A = none → n = 0 ∧ cap = 0) ∧ ∀ a, A = some a → ∀ j u, xs[j]? = some u → w.cell? (a.add j) = some u
theorem wpList_app {P : Program} {w : World} {ops : Array Oper} {rest : List Oper} {o : Oper} {a : Act} {Q : Exit → Act → World → Prop} (hgd : o.guard = none) (s x : Operand) (t : TypeId)
    (ho : o.op = .call { callee := .builtin .append, args := #[s, x], argTypes := #[t, t] })
    (base : Nat) (e : TypeId) (i : TypeInfo) (z : Value) (size bytes : Nat) (ht : P.underlying t = some (.slice e)) (hi : P.info? e = some i) (hz : i.zero = some z)
    (hsize : i.size = size) (hby : i.bytes = bytes) (hzs : z.cells.size = size) (hsz : 0 < size)
    (v : Value) (n : Nat) (xs : List Value) (hs : a.eval s = v) (hown : w.ownsRow base e size v n xs)
    (A : Option Addr) (m c : Nat) (news : List Value) (hx : a.eval x = .slice A m c) (hsrc : Src w size A m c news) (h1 : ∀ u ∈ news, u.oneCell' = true)
    (h63 : n + m ≤ maxLen) (hbytes : (n + m) * bytes ≤ 140737488355328) (hbase : base ≤ w.heap.size)
    (h : ∀ v' w', w'.ownsRow base e size v' (n + m) (xs ++ news) → w.grownBy w' v.ownBlock → (v'.ownBlock = v.ownBlock ∨ v'.ownBlock = some w.heap.size) → wpList P ops Q rest (a.put o.dst v') w') :
    wpList P ops Q (o :: rest) a w := by
  obtain ⟨hl, hA, hc⟩ := hsrc
  cases A with
  | none =>
    obtain ⟨rfl, rfl⟩ := hA rfl
    have hn : news = [] := List.eq_nil_of_length_eq_zero (by simpa using hl)
    subst hn
    refine wpList_append_own_none hgd s x t ho base e i size ht hi v n xs hs hown hx ?_
    exact h v w (by simpa using hown) (World.grownBy.refl w _) (.inl rfl)
  | some ad =>
    refine wpList_append_own_at w hgd s x t ho base e i z size bytes ht hi hz hsize hby hzs hsz v n xs hs hown ad m c news hx hl (fun j u hu => hc ad rfl j u hu) h1 h63 hbytes hbase ?_
    exact fun v' w' h2 h3 _ h5 => h v' w' h2 h3 h5
def actCells (acts : List Do) : List Value := acts.flatMap fun d => [.int .i64 d.op, .int .i64 d.key, .int .i64 d.val]
theorem actCells_length (acts : List Do) : (actCells acts).length = acts.length * 3 := by
  induction acts with
  | nil => rfl
  | cons d l ih => simp only [actCells, List.flatMap_cons, List.length_append] at ih ⊢; rw [ih]; simp; omega
theorem actCells_get {acts : List Do} {i : Nat} {d : Do} (h : acts[i]? = some d) : (actCells acts)[i * 3]? = some (.int .i64 d.op) ∧ (actCells acts)[i * 3 + 1]? = some (.int .i64 d.key) ∧ (actCells acts)[i * 3 + 2]? = some (.int .i64 d.val) := by
  induction acts generalizing i with
  | nil => simp at h
  | cons x l ih =>
    cases i with
    | zero => simp at h; subst h; simp [actCells]
    | succ i =>
      simp at h
      have := ih h
      have e : ∀ j, (actCells (x :: l))[(i + 1) * 3 + j]? = (actCells l)[i * 3 + j]? := fun j => by
        have : (i + 1) * 3 + j = (i * 3 + j) + 3 := by omega
        rw [this]
        simp [actCells]
      exact ⟨(e 0).trans this.1, (e 1).trans this.2.1, (e 2).trans this.2.2⟩
theorem actCells_inv {acts : List Do} {j : Nat} {u : Value} (h : (actCells acts)[j]? = some u) : ∃ i d, acts[i]? = some d ∧ (j = i * 3 ∧ u = .int .i64 d.op ∨ j = i * 3 + 1 ∧ u = .int .i64 d.key ∨ j = i * 3 + 2 ∧ u = .int .i64 d.val) := by
  have hj := (List.getElem?_eq_some_iff.1 h).1
  rw [actCells_length] at hj
  have hi : j / 3 < acts.length := by omega
  refine ⟨j / 3, acts[j / 3], List.getElem?_eq_getElem hi, ?_⟩
  obtain ⟨g0, g1, g2⟩ := actCells_get (List.getElem?_eq_getElem hi)
  have hm : j % 3 = 0 ∨ j % 3 = 1 ∨ j % 3 = 2 := by omega
  rcases hm with hm | hm | hm
  · left
    have e : j = j / 3 * 3 := by omega
    rw [← e] at g0; rw [g0] at h
    exact ⟨e, by injection h with h; exact h.symm⟩
  · right; left
    have e : j = j / 3 * 3 + 1 := by omega
    rw [← e] at g1; rw [g1] at h
    exact ⟨e, by injection h with h; exact h.symm⟩
  · right; right
    have e : j = j / 3 * 3 + 2 := by omega
    rw [← e] at g2; rw [g2] at h
    exact ⟨e, by injection h with h; exact h.symm⟩
theorem ActsAt.src {w : World} {B : Nat} {A : Option Addr} {n cap : Nat} {acts : List Do} (h : ActsAt w B A acts) (hn : acts.length = n) (hA : A = none → n = 0 ∧ cap = 0) : Src w 3 A n cap (actCells acts) := by
  refine ⟨by rw [actCells_length, hn], hA, fun a ha j u hu => ?_⟩
  obtain ⟨i, d, hd, hc⟩ := actCells_inv hu
  obtain ⟨a', ha', _, h0, h1, h2⟩ := h i d hd
  obtain rfl : a = a' := by rw [ha] at ha'; injection ha'
  rcases hc with ⟨rfl, rfl⟩ | ⟨rfl, rfl⟩ | ⟨rfl, rfl⟩
  · exact h0
  · exact h1
  · exact h2
theorem ActsAt.of_own {w : World} {base : Nat} {e : TypeId} {A : Option Addr} {n cap : Nat} {acts : List Do} (h : w.ownsRow base e 3 (.slice A n cap) acts.length (actCells acts)) : ActsAt w w.heap.size A acts := by
  intro i d hd
  obtain ⟨hlen, h⟩ := h
  have hi := (List.getElem?_eq_some_iff.1 hd).1
  rcases h with ⟨_, h0⟩ | ⟨g, cap', cur, hv, hb, hg, hnc, hcm, hcs, htk⟩
  · omega
  · injection hv with h1 h2 h3
    refine ⟨⟨g, 0, none⟩, h1, ?_, ?_⟩
    · rcases Nat.lt_or_ge g w.heap.size with hlt | hge
      · exact hlt
      · rw [Array.getElem?_eq_none hge] at hg; cases hg
    · obtain ⟨g0, g1, g2⟩ := actCells_get hd
      have hcell : ∀ j, j < acts.length * 3 → w.cell? ((⟨g, 0, none⟩ : Addr).add j) = (actCells acts)[j]? := fun j hj => by
        have e1 : (⟨g, 0, none⟩ : Addr).add j = ⟨g, j, none⟩ := by unfold Addr.add; split <;> simp_all
        rw [e1]
        simp only [World.cell?, hg]
        rw [← htk, List.getElem?_take_of_lt hj]
        simp
      exact ⟨(hcell _ (by omega)).trans g0, (hcell _ (by omega)).trans g1, (hcell _ (by omega)).trans g2⟩
end Go.Proofs.Ytgakapigpiaoiaa

namespace Go.Proofs.Ytgakapigpiaoiaa
open Go.RowKit
theorem own_slice {w : World} {base : Nat} {e : TypeId} {size : Nat} {v : Value} {n : Nat} {xs : List Value} (h : w.ownsRow base e size v n xs) : ∃ A cap, v = .slice A n cap ∧ (A = none → n = 0 ∧ cap = 0) ∧ (∀ a, A = some a → a.spot = none ∧ a.off = 0) := by
  rcases h.2 with ⟨rfl, rfl⟩ | ⟨g, cap, _, rfl, _⟩
  · exact ⟨none, 0, rfl, fun _ => ⟨rfl, rfl⟩, (fun a h => by cases h)⟩
  · exact ⟨_, cap, rfl, (fun h => by cases h), (fun a h => by injection h with h; subst h; exact ⟨rfl, rfl⟩)⟩
theorem own_empty {w : World} {base g : Nat} {e : TypeId} {size : Nat} (hg : w.heap[g]? = some (.cells #[] e (0, 0))) (hb : base ≤ g) : w.ownsRow base e size (.slice (some ⟨g, 0, none⟩) 0 0) 0 [] :=
  ⟨by simp, .inr ⟨g, 0, #[], rfl, hb, hg, Nat.le_refl _, by unfold maxLen; omega, by simp, by simp⟩⟩
theorem grown_keep {w w' : World} {g : Nat} {row : Option Nat} {x : Obj} (h : w.grownBy w' row) (hg : w.heap[g]? = some x) (hne : row ≠ some g) : w'.heap[g]? = some x := by
  have hlt : g < w.heap.size := by
    rcases Nat.lt_or_ge g w.heap.size with h' | h'
    · exact h'
    · simp [Array.getElem?_eq_none h'] at hg
  rw [h.block g hlt (fun e => hne e.symm), hg]
end Go.Proofs.Ytgakapigpiaoiaa

namespace Go.Proofs.Ytgakapigpiaoiaa
open Go.RowKit

theorem Below.drewN' {B : Nat} {u w : World} (h : Below B u w) (n : Nat) : Below B u (w.drewN n) := ⟨h.os, h.tape, h.output, h.size, h.block⟩
/-- A slice whose cells are these, below block B. -/
def RowAt (w : World) (B : Nat) (A : Option Addr) (cs : List Value) : Prop :=
  ∀ (j : Nat) (u : Value), cs[j]? = some u → ∃ a, A = some a ∧ a.block < B ∧ w.cell? (a.add j) = some u

section
variable {w w' : World} {B C : Nat} {A : Option Addr} {cs : List Value}
theorem RowAt.nil (w : World) (B : Nat) (A : Option Addr) : RowAt w B A [] := fun j u h => by simp at h
theorem RowAt.below (h : RowAt w B A cs) (k : Below B w w') : RowAt w' B A cs := fun j u hu => by
  obtain ⟨a, e, hb, h0⟩ := h j u hu
  exact ⟨a, e, hb, (k.cell (by rw [block_of_add]; exact hb)).trans h0⟩
theorem RowAt.more (h : RowAt w B A cs) (hC : B ≤ C) : RowAt w C A cs := fun j u hu => by
  obtain ⟨a, e, hb, h0⟩ := h j u hu
  exact ⟨a, e, by omega, h0⟩
theorem RowAt.src {n cap size : Nat} (h : RowAt w B A cs) (hn : cs.length = n * size) (hA : A = none → n = 0 ∧ cap = 0) : Src w size A n cap cs := by
  refine ⟨hn, hA, fun a ha j u hu => ?_⟩
  obtain ⟨a', ha', _, h0⟩ := h j u hu
  obtain rfl : a = a' := by rw [ha] at ha'; injection ha'
  exact h0
theorem RowAt.of_own {base size n n' cap : Nat} {e : TypeId} (h : w.ownsRow base e size (.slice A n cap) n' cs) : RowAt w w.heap.size A cs := by
  intro i d hd
  obtain ⟨hlen, h⟩ := h
  have hi := (List.getElem?_eq_some_iff.1 hd).1
  rcases h with ⟨_, h0⟩ | ⟨g, cap', cur, hv, hb, hg, hnc, hcm, hcs, htk⟩
  · subst h0; omega
  · injection hv with h1 h2 h3
    refine ⟨⟨g, 0, none⟩, h1, ?_, ?_⟩
    · rcases Nat.lt_or_ge g w.heap.size with hlt | hge
      · exact hlt
      · rw [Array.getElem?_eq_none hge] at hg; cases hg
    · have e1 : (⟨g, 0, none⟩ : Addr).add i = ⟨g, i, none⟩ := by unfold Addr.add; split <;> simp_all
      rw [e1, ← hd]
      simp only [World.cell?, hg]
      rw [← htk, List.getElem?_take_of_lt (by omega)]
      simp
theorem RowAt.of_blk {g : Nat} {e : TypeId} {cs : Array Value} (h : Blk w g e cs) : RowAt w w.heap.size (some ⟨g, 0, none⟩) cs.toList := fun j u hu => by
  refine ⟨_, rfl, h.lt, ?_⟩
  have e1 : (⟨g, 0, none⟩ : Addr).add j = ⟨g, j, none⟩ := by unfold Addr.add; split <;> simp_all
  rw [e1, h.cell j]
  simpa using hu
theorem RowAt.get {cs : List Value} (h : RowAt w B A cs) {j : Nat} {u : Value} (hu : cs[j]? = some u) : ∃ a, A = some a ∧ a.block < B ∧ w.cell? (a.add j) = some u := h j u hu
end

/-- A block of its own as a source. -/
theorem src_blk {w : World} {g n size : Nat} {e : TypeId} {cs : List Value} (hg : w.heap[g]? = some (.cells cs.toArray e (0, 0))) (hn : cs.length = n * size) : Src w size (some ⟨g, 0, none⟩) n n cs :=
  ⟨hn, (fun h => by cases h), fun a ha j u hu => by
    injection ha with ha; subst ha
    have e1 : (⟨g, 0, none⟩ : Addr).add j = ⟨g, j, none⟩ := by unfold Addr.add; split <;> simp_all
    rw [e1]; simpa [World.cell?, hg] using hu⟩

theorem wpList_appT {P : Program} {w : World} {ops : Array Oper} {rest : List Oper} {o : Oper} {a : Act} {Q : Exit → Act → World → Prop} {t e : TypeId} {z : Value} {size bytes : Nat}
    (ht : P.underlying t = some (.slice e)) (info : (P.info? e).map (fun i => (i.zero, i.size, i.bytes)) = some (some z, size, bytes)) (hzs : z.cells.size = size) (hsz : 0 < size)
    (hgd : o.guard = none) (s x : Operand) (ho : o.op = .call { callee := .builtin .append, args := #[s, x], argTypes := #[t, t] })
    (base : Nat) (v : Value) (n : Nat) (xs : List Value) (hs : a.eval s = v) (hown : w.ownsRow base e size v n xs)
    (A : Option Addr) (m c : Nat) (news : List Value) (hx : a.eval x = .slice A m c) (hsrc : Src w size A m c news) (h1 : ∀ u ∈ news, u.oneCell' = true)
    (h63 : n + m ≤ 1000000) (hbytes : (n + m) * bytes ≤ 140737488355328) (hbase : base ≤ w.heap.size)
    (h : ∀ v' w', w'.ownsRow base e size v' (n + m) (xs ++ news) → w.grownBy w' v.ownBlock → (v'.ownBlock = v.ownBlock ∨ v'.ownBlock = some w.heap.size) → wpList P ops Q rest (a.put o.dst v') w') :
    wpList P ops Q (o :: rest) a w := by
  obtain ⟨i0, hi, hz0, hz1, hz2⟩ := info_parts info
  exact wpList_app hgd s x t ho base e i0 z size bytes ht hi hz0 hz1 hz2 hzs hsz v n xs hs hown A m c news hx hsrc h1 (by unfold maxLen; omega) hbytes hbase h

theorem own_keep {w w' : World} {base : Nat} {e : TypeId} {size : Nat} {v : Value} {n : Nat} {xs : List Value} (h : w.ownsRow base e size v n xs) (k : ∀ g, base ≤ g → g < w.heap.size → w'.heap[g]? = w.heap[g]?) : w'.ownsRow base e size v n xs := by
  refine ⟨h.1, ?_⟩
  rcases h.2 with ⟨rfl, h0⟩ | ⟨g, cap', cur, hv, hb, hg, h2⟩
  · exact .inl ⟨rfl, h0⟩
  · refine .inr ⟨g, cap', cur, hv, hb, ?_, h2⟩
    have hlt : g < w.heap.size := by
      rcases Nat.lt_or_ge g w.heap.size with h' | h'
      · exact h'
      · rw [Array.getElem?_eq_none h'] at hg; cases hg
    rw [k g hb hlt]; exact hg
theorem own_below {w w' : World} {base : Nat} {e : TypeId} {size : Nat} {v : Value} {n : Nat} {xs : List Value} (h : w.ownsRow base e size v n xs) (k : Below w.heap.size w w') : w'.ownsRow base e size v n xs :=
  own_keep h fun g _ hg => k.block g hg
theorem own_far {w : World} {base : Nat} {e : TypeId} {size : Nat} {v : Value} {n : Nat} {xs : List Value} (h : w.ownsRow base e size v n xs) {p : Addr} (hp : p.block < base) (x : Value) : (w.setCell p x).ownsRow base e size v n xs :=
  own_keep h fun g hb _ => Below.heap_setCell w p x g (by omega)

/-! Numbers -/

def intRow (xs : List Int) : List Value := xs.map fun x => .int .i64 x
theorem intRow_length (xs : List Int) : (intRow xs).length = xs.length := by simp [intRow]
theorem intRow_append (xs ys : List Int) : intRow (xs ++ ys) = intRow xs ++ intRow ys := by simp [intRow]
theorem intRow_get {xs : List Int} {i : Nat} {x : Int} (h : xs[i]? = some x) : (intRow xs)[i]? = some (.int .i64 x) := by simp [intRow, h]
theorem intRow_one (xs : List Int) : ∀ u ∈ intRow xs, u.oneCell' = true := by
  intro u hu
  simp only [intRow, List.mem_map] at hu
  obtain ⟨x, _, rfl⟩ := hu
  rfl
theorem int_info : (Try.prog.info? 3).map (fun i => (i.zero, i.size, i.bytes)) = some (some (.int .i64 0), 1, 8) := by kernel_rfl

/-! Numbers as interface values; the first ones of them, and nil behind -/

def rowI (xs : List Int) : List Value := xs.map fun x => .iface 3 (.int .i64 x)
theorem rowI_get {xs : List Int} {i : Nat} {x : Int} (h : xs[i]? = some x) : (rowI xs)[i]? = some (.iface 3 (.int .i64 x)) := by simp [rowI, h]
theorem rowI_length (xs : List Int) : (rowI xs).length = xs.length := by simp [rowI]

set_option maxRecDepth 100000 in
/-- numbers converts them. -/
theorem numbers_walk (w : World) (g : Nat) (xs : List Int) (n : Nat) (hn : xs.length = n) (hn1 : n ≤ 100000) (hb : Blk w g 20 (rowI xs).toArray) :
    Calls Try.prog 25 #[.slice (some ⟨g, 0, none⟩) n n] w fun e w' => ∃ A cap, e = .returned (.slice A n cap) ∧ w'.ownsRow w.heap.size 3 1 (.slice A n cap) n (intRow xs) ∧ Below w.heap.size w w' := by
  have Hb := Lib.hid hb
  have hg := hb.lt
  clear hb
  go_enter Try.func25, Try.ntmps25
  go_wp2_with fail
  go_loopw [3, 9] (fun v i wr => ∃ (k : Nat) (A : Option Addr) (cap : Nat), k ≤ n ∧ i = .int .i64 k ∧ v = .slice A k cap ∧ wr.ownsRow w.heap.size 3 1 (.slice A k cap) k (intRow (xs.take k)) ∧ Below w.heap.size w wr) (fun _ i _ => n - (intOf i).toNat)
  case atStart => exact ⟨0, _, 0, Nat.zero_le _, rfl, rfl, own_empty (Blk.new _ _ _) (Nat.le_refl _), (Below.refl _ _).alloc (Nat.le_refl _) _⟩
  case round =>
    obtain ⟨k, A, cap, hk, rfl, rfl, hown, hw⟩ := hrel
    by_cases hlt : k < n
    · obtain ⟨x, hx⟩ : ∃ x, xs[k]? = some x := ⟨_, List.getElem?_eq_getElem (by omega)⟩
      have hc := ((Hb.out.below hw hg).cell k)
      have hx' : (rowI xs).toArray[k]? = some (.iface 3 (.int .i64 x)) := by simpa using rowI_get hx
      rw [hx'] at hc
      have OW := Lib.hid hown
      have W := Lib.hid hw
      have HX := Lib.hid hx
      have row := Lib.hid (fun k hk => (hown.lt k hk).1)
      clear hown hw hx hx'
      go_wp2_with (at_builtin; refine Hid.out ?_)
      delta Hid
      refine wpList_appT Try.underlying28 int_info rfl (by omega) rfl _ _ rfl w.heap.size (.slice A k cap) k (intRow (xs.take k)) rfl (OW.out.alloc _) (some ⟨wr.heap.size, 0, none⟩) 1 1 (intRow [x]) rfl (src_blk (Blk.new _ _ _) rfl) (intRow_one _) (by omega) (by omega) (by have := W.out.size; simp; omega) ?_
      intro v1 w1 own1 gr1 _
      have b1 := (W.out.alloc W.out.size (.cells #[.int .i64 x] 3)).grown gr1 (by have := W.out.size; simp; omega) (fun k hk => by have := row.out k hk; omega)
      rw [← intRow_append, show xs.take k ++ [x] = xs.take (k + 1) by rw [List.take_add_one, HX.out]; rfl] at own1
      obtain ⟨A1, cap1, rfl, _, _⟩ := own_slice own1
      have F := Lib.hid (show w1.ownsRow _ _ _ _ _ _ ∧ Below _ _ _ from ⟨own1, b1⟩)
      clear own1 b1 gr1 OW W row HX
      go_wp2_with fail
      go_roundw
      case rel => exact ⟨k + 1, A1, cap1, by omega, by go_num, rfl, F.out⟩
      case measure => simp [intOf]; omega
    · obtain rfl : k = n := by omega
      rw [List.take_of_length_le (by omega)] at hown
      have F := Lib.hid (show wr.ownsRow _ _ _ _ _ _ ∧ Below _ _ _ from ⟨hown, hw⟩)
      clear hown hw
      go_wp2_with fail
      go_ret
      exact ⟨A, cap, rfl, F.out⟩

end Go.Proofs.Ytgakapigpiaoiaa

namespace Go.Proofs.Ytgakapigpiaoiaa
open Go.RowKit


theorem step_app {P : Program} {ops : Array Oper} {o : Oper} {a : Act} {w : World} {K : Act → World → Prop} {Q : Exit → Act → World → Prop} {E : Prop} {t e : TypeId} {z : Value} {size bytes : Nat}
    (ht : P.underlying t = some (.slice e)) (info : (P.info? e).map (fun i => (i.zero, i.size, i.bytes)) = some (some z, size, bytes)) (hzs : z.cells.size = size) (hsz : 0 < size)
    (hg : o.guard = none) (s x : Operand) (ho : o.op = .call { callee := .builtin .append, args := #[s, x], argTypes := #[t, t] })
    (base : Nat) (v : Value) (n : Nat) (xs : List Value) (hs : a.eval s = v) (hown : w.ownsRow base e size v n xs)
    (A : Option Addr) (m c : Nat) (news : List Value) (hx : a.eval x = .slice A m c) (hsrc : Src w size A m c news) (h1 : ∀ u ∈ news, u.oneCell' = true)
    (h63 : n + m ≤ 1000000) (hbytes : (n + m) * bytes ≤ 140737488355328) (hbase : base ≤ w.heap.size)
    (hK : ∀ v' w', w'.ownsRow base e size v' (n + m) (xs ++ news) → w.grownBy w' v.ownBlock → (v'.ownBlock = v.ownBlock ∨ v'.ownBlock = some w.heap.size) → K (a.put o.dst v') w') :
    if Region.wanted o (yielded ops a.tmps) = true then Oper.wp P o a w K Q else E := by
  have hw : Region.wanted o (yielded ops a.tmps) = true := by simp [Region.wanted, hg]
  rw [if_pos hw]
  obtain ⟨i0, hi, hz0, hz1, hz2⟩ := info_parts info
  obtain ⟨hl, hA, hc⟩ := hsrc
  cases A with
  | none =>
    obtain ⟨rfl, rfl⟩ := hA rfl
    have hn : news = [] := List.eq_nil_of_length_eq_zero (by simpa using hl)
    subst hn
    have hrun := run_append_owned_none (P := P) (w := w) base t o.type e i0 size ht hi v n xs hown
    unfold Oper.wp
    simp [execOp, ho, resolve, invoke, builtin, hs, hx, hrun, Result.andThen]
    exact hK v w (by simpa using hown) (World.grownBy.refl w _) (.inl rfl)
  | some ad =>
    obtain ⟨v', w', hr, h2, h3, _, h5⟩ := run_append_own_at (P := P) w base t o.type e i0 z size bytes ht hi hz0 hz1 hz2 hzs hsz v n xs hown ad m c news hl (fun j u hu => hc ad rfl j u hu) h1 (by unfold maxLen; omega) hbytes hbase
    unfold Oper.wp
    simp [execOp, ho, resolve, invoke, builtin, hs, hx, hr, Result.andThen]
    exact hK v' w' h2 h3 h5

/-- Another row is as it was. -/
theorem own_grown {w w' : World} {base : Nat} {e : TypeId} {size : Nat} {v : Value} {n : Nat} {xs : List Value} {row : Option Nat} (h : w.ownsRow base e size v n xs) (gr : w.grownBy w' row) (hne : ∀ g, v.ownBlock = some g → row ≠ some g) :
    w'.ownsRow base e size v n xs := by
  refine ⟨h.1, ?_⟩
  rcases h.2 with ⟨rfl, h0⟩ | ⟨g, cap', cur, rfl, hb, hg, h2⟩
  · exact .inl ⟨rfl, h0⟩
  · exact .inr ⟨g, cap', cur, rfl, hb, grown_keep gr hg (hne g rfl), h2⟩

theorem Blk.newAt {w : World} {n : Nat} (h : n = w.heap.size) (t : TypeId) (cs : Array Value) : Blk (w.alloc (.cells cs t)) n t cs := by subst h; exact Blk.new w t cs

/-- An empty row of the call's own, in whatever world. -/
theorem own_empty' {w : World} {base g : Nat} {e : TypeId} {size : Nat} (hg : Blk w g e #[]) (hb : base ≤ g) : w.ownsRow base e size (.slice (some ⟨g, 0, none⟩) 0 0) 0 [] := own_empty hg hb
theorem RowAt.step {w w' : World} {A : Option Addr} {cs : List Value} (h : RowAt w w.heap.size A cs) (b : Below w.heap.size w w') : RowAt w' w.heap.size A cs := h.below b

/-! Parts of rows -/

theorem RowAt.take {w : World} {B : Nat} {A : Option Addr} {cs : List Value} (h : RowAt w B A cs) (k : Nat) : RowAt w B A (cs.take k) := fun j u hu => h j u (by
  have hj := (List.getElem?_eq_some_iff.1 hu).1
  rw [List.length_take] at hj
  rwa [List.getElem?_take_of_lt (by omega)] at hu)
theorem RowAt.drop {w : World} {B : Nat} {a : Addr} {cs : List Value} (h : RowAt w B (some a) cs) (k : Nat) : RowAt w B (some (a.add k)) (cs.drop k) := fun j u hu => by
  rw [List.getElem?_drop] at hu
  obtain ⟨a', ha, hb, hc⟩ := h _ _ hu
  injection ha with ha
  subst ha
  exact ⟨_, rfl, by rw [block_of_add]; exact hb, by rw [add_of_add]; exact hc⟩
theorem take_len {α : Type} {l : List α} {k n : Nat} (h : k ≤ n) (hn : l.length = n) : (l.take k).length = k := by rw [List.length_take]; omega
theorem add_at (g n : Nat) : (⟨g, 0, none⟩ : Addr).add n = ⟨g, n, none⟩ := by unfold Addr.add; split <;> simp_all

end Go.Proofs.Ytgakapigpiaoiaa
