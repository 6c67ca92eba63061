import Derived.Test.YtgakapigpiaoiaaBtSz
import Derived.Test.YtgakapigpiaoiaaSpecSame
import Derived.Test.YtgakapigpiaoiaaBtRows
import Derived.Laws.OwnMore
namespace Go.Proofs.Ytgakapigpiaoiaa.Bt
open Go.RowKit Go.Proofs.Ytgakapigpiaoiaa
def bkVals (x : BK) (K1 : Option Addr) (c1 : Nat) (K2 : Option Addr) (c2 : Nat) (K3 : Option Addr) (c3 : Nat) : List Value :=
  [.int .i64 x.up, .slice K1 x.keys.length c1, .slice K2 x.vals.length c2, .slice K3 x.kids.length c3, .int .i64 x.size]
theorem bk_info : (Try.prog.info? 39).map (fun i => (i.zero, i.size, i.bytes)) = some (some (.agg #[.int .i64 0, .slice none 0 0, .slice none 0 0, .slice none 0 0, .int .i64 0]), 5, 88) := by kernel_rfl
def blks : Option Addr → List Nat
  | some a => [a.block]
  | none => []
theorem mem_blks {A : Option Addr} {b : Nat} (h : b ∈ blks A) : ∃ a, A = some a ∧ a.block = b := by
  cases A with
  | none => simp [blks] at h
  | some a => simp only [blks, List.mem_singleton] at h; exact ⟨a, rfl, h.symm⟩
theorem blks_mem {A : Option Addr} {a : Addr} (h : A = some a) : a.block ∈ blks A := by subst h; simp [blks]
def OwnIn (w : World) (S : List Nat) (A : Option Addr) : Prop := ∀ a, A = some a → a.block ∈ S ∨ w.heap.size ≤ a.block
structure Rows3 (w : World) (B : Nat) (K1 : Option Addr) (c1 : Nat) (K2 : Option Addr) (c2 : Nat) (K3 : Option Addr) (c3 : Nat) (n1 n2 n3 : Nat) (ks vs kd : List Int) : Prop where
  o1 : w.ownsRow B 3 1 (.slice K1 n1 c1) n1 (intRow ks)
  o2 : w.ownsRow B 3 1 (.slice K2 n2 c2) n2 (intRow vs)
  o3 : w.ownsRow B 3 1 (.slice K3 n3 c3) n3 (intRow kd)
  n12 : ∀ a b, K1 = some a → K2 = some b → a.block ≠ b.block
  n13 : ∀ a b, K1 = some a → K3 = some b → a.block ≠ b.block
  n23 : ∀ a b, K2 = some a → K3 = some b → a.block ≠ b.block
def BkAt (w : World) (B : Nat) (F : Nat → Prop) (vs : List Value) (x : BK) : Prop :=
  ∃ K1 c1 K2 c2 K3 c3, vs = bkVals x K1 c1 K2 c2 K3 c3 ∧ Rows3 w B K1 c1 K2 c2 K3 c3 x.keys.length x.vals.length x.kids.length x.keys x.vals x.kids ∧ ∀ a, K1 = some a ∨ K2 = some a ∨ K3 = some a → F a.block
def BksAt (w : World) (B : Nat) (F : Nat → Prop) : List Value → List BK → Prop
  | cs, [] => cs = []
  | cs, x :: xs => ∃ vs r, cs = vs ++ r ∧ BkAt w B F vs x ∧ BksAt w B F r xs
section
variable {w w' w3 : World} {B B' : Nat} {F F' : Nat → Prop} {cs ds : List Value} {xs ys : List BK} {S : List Nat} {K1 K2 K3 K4 : Option Addr} {c1 c2 c3 c4 n1 n2 n3 : Nat} {ks vs kd : List Int}
def Other (w : World) (F : Nat → Prop) (S : List Nat) : Prop := ∀ b ∈ S, (∃ cs, Blk w b 39 cs) ∨ ¬ F b
theorem own_other {n c : Nat} {A : Option Addr} {zs : List Value} (h : w.ownsRow B 3 1 (.slice A n c) n zs) (on : Only S w w') (ot : Other w F S) (hF : ∀ a, A = some a → F a.block) : w'.ownsRow B 3 1 (.slice A n c) n zs :=
  own_only h on fun x hx hm => by
    rcases ot _ hm with ⟨cs, hb⟩ | hb
    · obtain ⟨cur, hc, _⟩ := own_blk h hx
      exact Blk.ne_ hc hb (by decide) rfl
    · exact hb (hF x hx)
theorem Rows3.other (h : Rows3 w B K1 c1 K2 c2 K3 c3 n1 n2 n3 ks vs kd) (on : Only S w w') (ot : Other w F S) (hF : ∀ a, K1 = some a ∨ K2 = some a ∨ K3 = some a → F a.block) : Rows3 w' B K1 c1 K2 c2 K3 c3 n1 n2 n3 ks vs kd :=
  ⟨own_other h.o1 on ot fun a ha => hF a (.inl ha), own_other h.o2 on ot fun a ha => hF a (.inr (.inl ha)), own_other h.o3 on ot fun a ha => hF a (.inr (.inr ha)), h.n12, h.n13, h.n23⟩
theorem Rows3.base (h : Rows3 w B K1 c1 K2 c2 K3 c3 n1 n2 n3 ks vs kd) (hB : B' ≤ B) : Rows3 w B' K1 c1 K2 c2 K3 c3 n1 n2 n3 ks vs kd :=
  ⟨own_base h.o1 hB, own_base h.o2 hB, own_base h.o3 hB, h.n12, h.n13, h.n23⟩
theorem Rows3.in_ (h : Rows3 w B K1 c1 K2 c2 K3 c3 n1 n2 n3 ks vs kd) : ∀ a, K1 = some a ∨ K2 = some a ∨ K3 = some a → B ≤ a.block ∧ a.block < w.heap.size := by
  intro a ha
  rcases ha with ha | ha | ha
  · subst ha; exact h.o1.lt _ rfl
  · subst ha; exact h.o2.lt _ rfl
  · subst ha; exact h.o3.lt _ rfl
theorem own_push_ne {n c m c' : Nat} {K L : Option Addr} (hL : ∀ a, L = some a → a.block < w.heap.size) (hne : ∀ a b, K = some a → L = some b → a.block ≠ b.block) (ob : (Value.slice K4 m c').ownBlock = (Value.slice K n c).ownBlock ∨ (Value.slice K4 m c').ownBlock = some w.heap.size) : ∀ a b, K4 = some a → L = some b → a.block ≠ b.block := by
  intro a b ha hb
  subst ha hb
  simp only [Value.ownBlock, Option.some.injEq] at ob
  rcases ob with e | e
  · obtain ⟨k, hk, hke⟩ := ownBlock_slice e.symm
    rw [← hke]; exact hne k b hk rfl
  · have := hL b rfl; omega
theorem kept_ne {n c n' c' : Nat} {K L : Option Addr} (hne : ∀ a b, K = some a → L = some b → a.block ≠ b.block) : (Value.slice L n c).ownBlock = none ∨ (Value.slice L n c).ownBlock ≠ (Value.slice K n' c').ownBlock := by
  cases L with
  | none => exact .inl rfl
  | some b =>
    right
    intro e
    obtain ⟨k, hk, hke⟩ := ownBlock_slice (A := K) (n := n') (cap := c') (g := b.block) (by rw [← e]; rfl)
    exact hne k b hk rfl hke
theorem Rows3.push1 (h : Rows3 w B K1 c1 K2 c2 K3 c3 n1 n2 n3 ks vs kd) {zs : List Int} {m : Nat} (own : w3.ownsRow B 3 1 (.slice K4 m c4) m (intRow zs)) (gr : w.grownBy w3 (Value.slice K1 n1 c1).ownBlock) (ob : (Value.slice K4 m c4).ownBlock = (Value.slice K1 n1 c1).ownBlock ∨ (Value.slice K4 m c4).ownBlock = some w.heap.size) :
    Rows3 w3 B K4 c4 K2 c2 K3 c3 m n2 n3 zs vs kd :=
  ⟨own, h.o2.kept gr (kept_ne h.n12), h.o3.kept gr (kept_ne h.n13), own_push_ne (fun a ha => (h.in_ a (.inr (.inl ha))).2) h.n12 ob, own_push_ne (fun a ha => (h.in_ a (.inr (.inr ha))).2) h.n13 ob, h.n23⟩
theorem Rows3.push2 (h : Rows3 w B K1 c1 K2 c2 K3 c3 n1 n2 n3 ks vs kd) {zs : List Int} {m : Nat} (own : w3.ownsRow B 3 1 (.slice K4 m c4) m (intRow zs)) (gr : w.grownBy w3 (Value.slice K2 n2 c2).ownBlock) (ob : (Value.slice K4 m c4).ownBlock = (Value.slice K2 n2 c2).ownBlock ∨ (Value.slice K4 m c4).ownBlock = some w.heap.size) :
    Rows3 w3 B K1 c1 K4 c4 K3 c3 n1 m n3 ks zs kd :=
  ⟨h.o1.kept gr (kept_ne fun a b ha hb e => h.n12 b a hb ha e.symm), own, h.o3.kept gr (kept_ne h.n23), fun a b ha hb e => own_push_ne (fun a ha => (h.in_ a (.inl ha)).2) (fun a b ha hb e => h.n12 b a hb ha e.symm) ob b a hb ha e.symm, h.n13, own_push_ne (fun a ha => (h.in_ a (.inr (.inr ha))).2) h.n23 ob⟩
theorem Rows3.push3 (h : Rows3 w B K1 c1 K2 c2 K3 c3 n1 n2 n3 ks vs kd) {zs : List Int} {m : Nat} (own : w3.ownsRow B 3 1 (.slice K4 m c4) m (intRow zs)) (gr : w.grownBy w3 (Value.slice K3 n3 c3).ownBlock) (ob : (Value.slice K4 m c4).ownBlock = (Value.slice K3 n3 c3).ownBlock ∨ (Value.slice K4 m c4).ownBlock = some w.heap.size) :
    Rows3 w3 B K1 c1 K2 c2 K4 c4 n1 n2 m ks vs zs :=
  ⟨h.o1.kept gr (kept_ne fun a b ha hb e => h.n13 b a hb ha e.symm), h.o2.kept gr (kept_ne fun a b ha hb e => h.n23 b a hb ha e.symm), own, h.n12, fun a b ha hb e => own_push_ne (fun a ha => (h.in_ a (.inl ha)).2) (fun a b ha hb e => h.n13 b a hb ha e.symm) ob b a hb ha e.symm, fun a b ha hb e => own_push_ne (fun a ha => (h.in_ a (.inr (.inl ha))).2) (fun a b ha hb e => h.n23 b a hb ha e.symm) ob b a hb ha e.symm⟩
theorem BkAt.other {vs : List Value} {x : BK} (h : BkAt w B F vs x) (on : Only S w w') (ot : Other w F S) : BkAt w' B F vs x := by
  obtain ⟨K1, c1, K2, c2, K3, c3, e, r, hF⟩ := h
  exact ⟨K1, c1, K2, c2, K3, c3, e, r.other on ot hF, hF⟩
theorem BksAt.other (h : BksAt w B F cs xs) (on : Only S w w') (ot : Other w F S) : BksAt w' B F cs xs := by
  induction xs generalizing cs with
  | nil => exact h
  | cons x xs ih =>
    obtain ⟨vs, r, e, h1, h2⟩ := h
    exact ⟨vs, r, e, h1.other on ot, ih h2⟩
theorem BksAt.weak (h : BksAt w B F cs xs) (hB : B' ≤ B) (hF : ∀ b, B ≤ b → b < w.heap.size → F b → F' b) : BksAt w B' F' cs xs := by
  induction xs generalizing cs with
  | nil => exact h
  | cons x xs ih =>
    obtain ⟨vs, r, e, ⟨K1, c1, K2, c2, K3, c3, e1, r3, h1⟩, h2⟩ := h
    exact ⟨vs, r, e, ⟨K1, c1, K2, c2, K3, c3, e1, r3.base hB, fun a ha => hF _ (r3.in_ a ha).1 (r3.in_ a ha).2 (h1 a ha)⟩, ih h2⟩
theorem BksAt.append (h : BksAt w B F cs xs) (k : BksAt w B F ds ys) : BksAt w B F (cs ++ ds) (xs ++ ys) := by
  induction xs generalizing cs with
  | nil => simp only [BksAt] at h; subst h; exact k
  | cons x xs ih =>
    obtain ⟨vs, r, e, h1, h2⟩ := h
    exact ⟨vs, r ++ ds, by rw [e, List.append_assoc], h1, ih h2⟩
theorem bkVals_length (x : BK) : (bkVals x K1 c1 K2 c2 K3 c3).length = 5 := rfl
theorem BksAt.length (h : BksAt w B F cs xs) : cs.length = xs.length * 5 := by
  induction xs generalizing cs with
  | nil => simp only [BksAt] at h; subst h; rfl
  | cons x xs ih =>
    obtain ⟨vs, r, e, ⟨K1, c1, K2, c2, K3, c3, e1, _⟩, h2⟩ := h
    have := ih h2
    rw [e, e1, List.length_append, bkVals_length, List.length_cons, this]; omega
theorem BksAt.get (h : BksAt w B F cs xs) {j : Nat} {x : BK} (hx : xs[j]? = some x) : ∃ vs, BkAt w B F vs x ∧ ∀ q, q < 5 → cs[j * 5 + q]? = vs[q]? := by
  induction xs generalizing cs j with
  | nil => simp at hx
  | cons y ys ih =>
    obtain ⟨vs, r, e, h1, h2⟩ := h
    have hl : vs.length = 5 := by obtain ⟨K1, c1, K2, c2, K3, c3, e1, _⟩ := h1; rw [e1, bkVals_length]
    cases j with
    | zero =>
      simp only [List.getElem?_cons_zero, Option.some.injEq] at hx
      subst hx
      exact ⟨vs, h1, fun q hq => by rw [e, List.getElem?_append_left (by omega)]; simp⟩
    | succ j =>
      obtain ⟨us, h3, h4⟩ := ih h2 (by simpa using hx)
      refine ⟨us, h3, fun q hq => ?_⟩
      rw [e, List.getElem?_append_right (by omega), show (j + 1) * 5 + q - vs.length = j * 5 + q by omega]
      exact h4 q hq
end
structure Kids (w wr : World) (Bo : Nat) (A Ak : Option Addr) (capk q n : Nat) (C Ck : List Value) (x : BK) (K1 : Option Addr) (c1 : Nat) (K2 : Option Addr) (c2 : Nat) (K3 : Option Addr) (c3 : Nat) (bs : List BK) : Prop where
  hC : C.length = n * 5
  own : wr.ownsRow Bo 39 5 (.slice Ak q capk) q (C ++ (bkVals x K1 c1 K2 c2 K3 c3 ++ Ck))
  rows : Rows3 wr w.heap.size K1 c1 K2 c2 K3 c3 x.keys.length x.vals.length x.kids.length x.keys x.vals x.kids
  low : BksAt wr w.heap.size (fun b => ∀ a, K3 = some a → a.block ≠ b) Ck bs
  on : Only (blks A) w wr
  oi : OwnIn w (blks A) Ak
section
variable {w wr w2 w3 : World} {Bo : Nat} {A Ak A2 : Option Addr} {capk cap2 q q2 n : Nat} {C Ck C' : List Value} {x : BK} {K1 K2 K3 K4 : Option Addr} {c1 c2 c3 c4 : Nat} {bs bs' : List BK}
theorem row_other {F : Nat → Prop} (h : wr.ownsRow Bo 39 5 (.slice Ak q capk) q C) : Other wr F (blks Ak) := fun b hb => by
  obtain ⟨a, ha, rfl⟩ := mem_blks hb
  obtain ⟨cur, hc, _⟩ := own_blk h ha
  exact .inl ⟨cur, hc⟩
theorem OwnIn.up {S S' : List Nat} (on : w.heap.size ≤ wr.heap.size) (h : OwnIn wr S' A2) (hs : ∀ b, b < w.heap.size → b ∈ S' → b ∈ S) : OwnIn w S A2 := fun a ha => by
  rcases Nat.lt_or_ge a.block w.heap.size with hlt | hge
  · rcases h a ha with e | e
    · exact .inl (hs _ hlt e)
    · omega
  · exact .inr hge
theorem blks_in {S : List Nat} (h : OwnIn w S Ak) : ∀ b, b < w.heap.size → b ∈ blks Ak → b ∈ S := fun b hb hm => by
  obtain ⟨a, ha, rfl⟩ := mem_blks hm
  rcases h a ha with e | e
  · exact e
  · omega
theorem Kids.kid (k : Kids w wr Bo A Ak capk q n C Ck x K1 c1 K2 c2 K3 c3 bs) (own : w2.ownsRow Bo 39 5 (.slice A2 q2 cap2) q2 (C ++ (bkVals x K1 c1 K2 c2 K3 c3 ++ Ck) ++ C')) (low : BksAt w2 wr.heap.size (fun _ => True) C' bs') (on : Only (blks Ak) wr w2) (oi : OwnIn wr (blks Ak) A2) :
    Kids w w2 Bo A A2 cap2 q2 n C (Ck ++ C') x K1 c1 K2 c2 K3 c3 (bs ++ bs') := by
  refine ⟨k.hC, by simpa [List.append_assoc] using own, k.rows.other on (row_other (F := fun _ => True) k.own) (fun _ _ => trivial), ?_, k.on.trans' on (blks_in k.oi), oi.up k.on.size (blks_in k.oi)⟩
  refine (k.low.other on (row_other k.own)).append (low.weak k.on.size fun b hb _ _ a ha => ?_)
  have := (k.rows.in_ a (.inr (.inr ha))).2
  omega
theorem Kids.push (k : Kids w wr Bo A Ak capk q n C Ck x K1 c1 K2 c2 K3 c3 bs) (p : Int) {g : Nat} (hg : Ak = some ⟨g, 0, none⟩) (own : w3.ownsRow w.heap.size 3 1 (.slice K4 (x.kids.length + 1) c4) (x.kids.length + 1) (intRow (x.kids ++ [p]))) (gr : wr.grownBy w3 (Value.slice K3 x.kids.length c3).ownBlock) (ob : (Value.slice K4 (x.kids.length + 1) c4).ownBlock = (Value.slice K3 x.kids.length c3).ownBlock ∨ (Value.slice K4 (x.kids.length + 1) c4).ownBlock = some wr.heap.size) :
    Kids w (w3.setCell ⟨g, n * 5 + 3, none⟩ (.slice K4 (x.kids.length + 1) c4)) Bo A Ak capk q n C Ck { x with kids := x.kids ++ [p] } K1 c1 K2 c2 K4 c4 bs := by
  subst hg
  have hk3 : (Value.slice K3 x.kids.length c3).ownBlock = none ∨ (Value.slice K3 x.kids.length c3).ownBlock ≠ some g := by
    right
    intro e
    obtain ⟨a, ha, hae⟩ := ownBlock_slice e
    obtain ⟨cur, hb, _⟩ := own_blk k.rows.o3 ha
    obtain ⟨cur', hb', _⟩ := own_blk k.own rfl
    exact Blk.ne_ hb hb' (by decide) hae
  have own' := k.own.kept gr (.inr (fun e => by
    rcases hk3 with h | h
    · rw [h] at e; simp [Value.ownBlock] at e
    · exact h e.symm))
  have st := own'.stored (n * 5 + 3) (.slice K4 (x.kids.length + 1) c4)
  have r3 := k.rows.push3 own gr ob
  have hob : Only (blks K3) wr w3 := ⟨gr.os, gr.tape, gr.output, gr.size, fun b hb hm => gr.block b hb (fun e => by
    obtain ⟨a, ha, hae⟩ := ownBlock_slice e.symm
    exact hm (hae ▸ blks_mem ha))⟩
  have l3 := (k.low.weak (F' := fun b => (∀ a, K3 = some a → a.block ≠ b) ∧ b < wr.heap.size) (Nat.le_refl _) (fun b _ h1 h2 => ⟨h2, h1⟩)).other hob (fun b hb => by
    obtain ⟨a, ha, rfl⟩ := mem_blks hb
    exact .inr fun h => h.1 a ha rfl)
  have on3 : Only [g] w3 (w3.setCell ⟨g, n * 5 + 3, none⟩ (.slice K4 (x.kids.length + 1) c4)) := (Only.refl _ _).setCell (.inl (by simp)) _
  have ot3 : ∀ F, Other w3 F [g] := fun F b hb => by
    simp only [List.mem_singleton] at hb
    subst hb
    obtain ⟨cur', hb', _⟩ := own_blk own' rfl
    exact .inl ⟨cur', hb'⟩
  refine ⟨k.hC, ?_, ?_, ?_, ?_, k.oi⟩
  · have e : (C ++ (bkVals x K1 c1 K2 c2 K3 c3 ++ Ck)).set (n * 5 + 3) (.slice K4 (x.kids.length + 1) c4) = C ++ (bkVals { x with kids := x.kids ++ [p] } K1 c1 K2 c2 K4 c4 ++ Ck) := by
      rw [List.set_append_right _ _ (by rw [k.hC]; omega), k.hC, show n * 5 + 3 - n * 5 = 3 by omega]
      simp [bkVals]
    rw [← e]; exact st.1
  · have h := r3.other on3 (ot3 (fun _ => True)) (fun _ _ => trivial)
    simpa using h
  · refine BksAt.other ?_ on3 (ot3 _)
    refine l3.weak (Nat.le_refl _) fun b _ hb hF a ha e => ?_
    subst ha
    simp only [Value.ownBlock, Option.some.injEq] at ob
    rcases ob with e1 | e1
    · obtain ⟨a3, ha3, hae⟩ := ownBlock_slice e1.symm
      exact hF.1 a3 ha3 (hae.trans e)
    · have := hF.2; omega
  · refine (k.on.trans' hob fun b hb hm => ?_).setCell ?_ _
    · obtain ⟨a, ha, rfl⟩ := mem_blks hm
      have := (k.rows.in_ a (.inr (.inr ha))).1
      omega
    · rcases k.oi _ rfl with e | e
      · exact .inl e
      · exact .inr e
end
end Go.Proofs.Ytgakapigpiaoiaa.Bt
