import Derived.Test.YtgakapigpiaoiaaBtBkRow
namespace Go.Proofs.Ytgakapigpiaoiaa.Bt
open Go.RowKit Go.Proofs.Ytgakapigpiaoiaa
structure Bld (w : World) (B gb : Nat) (u sz : Int) (n1 n2 : Nat) (K1 : Option Addr) (c1 : Nat) (K2 : Option Addr) (c2 : Nat) (K3 : Option Addr) (ks vs : List Int) : Prop where
  blk : Blk w gb 39 #[.int .i64 u, .slice K1 n1 c1, .slice K2 n2 c2, .slice K3 0 0, .int .i64 sz]
  rows : Rows3 w B K1 c1 K2 c2 K3 0 n1 n2 0 ks vs []
  ge : B ≤ gb
section
variable {w w' w3 : World} {B Bo gb n n1 n2 c1 c2 c4 cap : Nat} {u sz : Int} {K1 K2 K3 K4 A : Option Addr} {ks vs : List Int} {H : Hd} {o : Ord} {σ : Store} {α : Nat → Arr} {C : List Value}
theorem other_one {F : Nat → Prop} {cs : Array Value} (h : Blk w gb 39 cs) : Other w F [gb] := fun b hb => by
  simp only [List.mem_singleton] at hb
  subst hb
  exact .inl ⟨cs, h⟩
theorem Bld.at1 (f : Bld w B gb u sz n1 n2 K1 c1 K2 c2 K3 ks vs) (gr : w.grownBy w3 (Value.slice K1 n1 c1).ownBlock) : Blk w3 gb 39 #[.int .i64 u, .slice K1 n1 c1, .slice K2 n2 c2, .slice K3 0 0, .int .i64 sz] :=
  f.blk.same (gr.block gb f.blk.lt (fun e => own_neB f.rows.o1 f.blk (by decide) e.symm))
theorem Bld.at2 (f : Bld w B gb u sz n1 n2 K1 c1 K2 c2 K3 ks vs) (gr : w.grownBy w3 (Value.slice K2 n2 c2).ownBlock) : Blk w3 gb 39 #[.int .i64 u, .slice K1 n1 c1, .slice K2 n2 c2, .slice K3 0 0, .int .i64 sz] :=
  f.blk.same (gr.block gb f.blk.lt (fun e => own_neB f.rows.o2 f.blk (by decide) e.symm))
theorem Bld.push1 (f : Bld w B gb u sz n1 n2 K1 c1 K2 c2 K3 ks vs) (x : Int) (own : w3.ownsRow B 3 1 (.slice K4 (n1 + 1) c4) (n1 + 1) (intRow (ks ++ [x]))) (gr : w.grownBy w3 (Value.slice K1 n1 c1).ownBlock) (ob : (Value.slice K4 (n1 + 1) c4).ownBlock = (Value.slice K1 n1 c1).ownBlock ∨ (Value.slice K4 (n1 + 1) c4).ownBlock = some w.heap.size) :
    Bld (w3.setCell ⟨gb, 1, none⟩ (.slice K4 (n1 + 1) c4)) B gb u sz (n1 + 1) n2 K4 c4 K2 c2 K3 (ks ++ [x]) vs :=
  ⟨(f.at1 gr).set_ 1 _, (f.rows.push1 own gr ob).other ((Only.refl _ _).setCell (.inl (by simp)) _) (other_one (F := fun _ => True) (f.at1 gr)) (fun _ _ => trivial), f.ge⟩
theorem Bld.push2 (f : Bld w B gb u sz n1 n2 K1 c1 K2 c2 K3 ks vs) (x : Int) (own : w3.ownsRow B 3 1 (.slice K4 (n2 + 1) c4) (n2 + 1) (intRow (vs ++ [x]))) (gr : w.grownBy w3 (Value.slice K2 n2 c2).ownBlock) (ob : (Value.slice K4 (n2 + 1) c4).ownBlock = (Value.slice K2 n2 c2).ownBlock ∨ (Value.slice K4 (n2 + 1) c4).ownBlock = some w.heap.size) :
    Bld (w3.setCell ⟨gb, 2, none⟩ (.slice K4 (n2 + 1) c4)) B gb u sz n1 (n2 + 1) K1 c1 K4 c4 K3 ks (vs ++ [x]) :=
  ⟨(f.at2 gr).set_ 2 _, (f.rows.push2 own gr ob).other ((Only.refl _ _).setCell (.inl (by simp)) _) (other_one (F := fun _ => True) (f.at2 gr)) (fun _ _ => trivial), f.ge⟩
theorem Bld.keep (f : Bld w B gb u sz n1 n2 K1 c1 K2 c2 K3 ks vs) (b : Below w.heap.size w w') : Bld w' B gb u sz n1 n2 K1 c1 K2 c2 K3 ks vs :=
  ⟨f.blk.below b f.blk.lt, ⟨own_below f.rows.o1 b, own_below f.rows.o2 b, own_below f.rows.o3 b, f.rows.n12, f.rows.n13, f.rows.n23⟩, f.ge⟩
theorem Bld.drew (f : Bld w B gb u sz n1 n2 K1 c1 K2 c2 K3 ks vs) : Bld w.drew B gb u sz n1 n2 K1 c1 K2 c2 K3 ks vs := f.keep ⟨rfl, rfl, rfl, Nat.le_refl _, fun _ _ => rfl⟩
theorem Bld.alloc (f : Bld w B gb u sz n1 n2 K1 c1 K2 c2 K3 ks vs) (x : Obj) : Bld (w.alloc x) B gb u sz n1 n2 K1 c1 K2 c2 K3 ks vs := f.keep ((Below.refl _ _).alloc (Nat.le_refl _) x)
theorem Bld.far1 (f : Bld w B gb u sz n1 n2 K1 c1 K2 c2 K3 ks vs) {C : Nat} (hC : C ≤ B) (hw : B ≤ w.heap.size) (gr : w.grownBy w3 (Value.slice K1 n1 c1).ownBlock) (v : Value) : Below C w (w3.setCell ⟨gb, 1, none⟩ v) :=
  ((Below.refl C w).grown gr (Nat.le_trans hC hw) (fun k hk => Nat.le_trans hC (f.rows.o1.lt k hk).1)).setCell (p := ⟨gb, 1, none⟩) (Nat.le_trans hC f.ge) _
theorem Bld.far2 (f : Bld w B gb u sz n1 n2 K1 c1 K2 c2 K3 ks vs) {C : Nat} (hC : C ≤ B) (hw : B ≤ w.heap.size) (gr : w.grownBy w3 (Value.slice K2 n2 c2).ownBlock) (v : Value) : Below C w (w3.setCell ⟨gb, 2, none⟩ v) :=
  ((Below.refl C w).grown gr (Nat.le_trans hC hw) (fun k hk => Nat.le_trans hC (f.rows.o2.lt k hk).1)).setCell (p := ⟨gb, 2, none⟩) (Nat.le_trans hC f.ge) _
theorem St.told (s : St w B H o σ α) (h : w.ownsRow Bo 39 5 (.slice A n cap) n C) (on : Only (blks A) w w') : St w' B H o σ α := by
  have ne : ∀ {b : Nat} {ty : TypeId} {cs : Array Value}, Blk w b ty cs → ty ≠ 39 → b ∉ blks A := fun hb ht hm => by
    obtain ⟨a, ha, rfl⟩ := mem_blks hm
    obtain ⟨cur, hc, _⟩ := own_blk h ha
    exact Blk.ne_ hb hc ht rfl
  refine ⟨s.hd.only on (ne s.hd (by decide)), s.hdB, s.ord.only on (ne s.ord (by decide)), fun j d hj => (s.nd j d hj).only on fun b hb => ?_, fun j d e hj he => ⟨(s.en j d e hj he).1.only on (ne (s.en j d e hj he).1 (by decide)), (s.en j d e hj he).2⟩, s.ne1, s.ne2⟩
  have nd := s.nd j d hj
  rcases mem_ids.1 hb with rfl | ⟨x, hx, rfl⟩ | ⟨x, hx, rfl⟩
  · exact ne nd.blk (by decide)
  · obtain ⟨cur, h1, _⟩ := own_blk nd.own1 hx
    exact ne h1 (by decide)
  · obtain ⟨cur, h1, _⟩ := own_blk nd.own2 hx
    exact ne h1 (by decide)
theorem Kids.start {w w1 w3 : World} {A A3 : Option Addr} {n cap cap3 : Nat} {C : List Value} {x : BK} {K1 K2 K3 : Option Addr} {c1 c2 c3 : Nat} (hC : C.length = n * 5) (b : Below w.heap.size w w1) (ow : w.ownsRow Bo 39 5 (.slice A n cap) n C)
    (rows : Rows3 w1 w.heap.size K1 c1 K2 c2 K3 c3 x.keys.length x.vals.length x.kids.length x.keys x.vals x.kids) (own : w3.ownsRow Bo 39 5 (.slice A3 (n + 1) cap3) (n + 1) (C ++ bkVals x K1 c1 K2 c2 K3 c3)) (gr : w1.grownBy w3 (Value.slice A n cap).ownBlock) (ob : (Value.slice A3 (n + 1) cap3).ownBlock = (Value.slice A n cap).ownBlock ∨ (Value.slice A3 (n + 1) cap3).ownBlock = some w1.heap.size) :
    Kids w w3 Bo A A3 cap3 (n + 1) n C [] x K1 c1 K2 c2 K3 c3 [] := by
  have on1 : Only (blks A) w1 w3 := ⟨gr.os, gr.tape, gr.output, gr.size, fun k hk hm => gr.block k hk (fun e => by
    obtain ⟨a, ha, hae⟩ := ownBlock_slice e.symm
    exact hm (hae ▸ blks_mem ha))⟩
  have ow1 := own_below ow b
  refine ⟨hC, by simpa using own, rows.other on1 (row_other (F := fun _ => True) ow1) (fun _ _ => trivial), rfl, (Only.of_below b).trans' on1 (fun k _ hm => hm), ?_⟩
  intro a ha
  subst ha
  simp only [Value.ownBlock, Option.some.injEq] at ob
  rcases ob with e | e
  · obtain ⟨a', ha', hae⟩ := ownBlock_slice e.symm
    exact .inl (hae ▸ blks_mem ha')
  · right; have := b.size; omega
theorem Bld.start {wr w3 : World} {A3 : Option Addr} {cap3 ne : Nat} {es : List En} (f : Bld wr w.heap.size gb u sz ne ne K1 c1 K2 c2 K3 (es.map En.k) (es.map En.v)) (he : es.length = ne) (b : Below w.heap.size w wr) (x : Obj) (hC : C.length = n * 5) (ow : w.ownsRow Bo 39 5 (.slice A n cap) n C)
    (own : w3.ownsRow Bo 39 5 (.slice A3 (n + 1) cap3) (n + 1) (C ++ [.int .i64 u, .slice K1 ne c1, .slice K2 ne c2, .slice K3 0 0, .int .i64 sz])) (gr : (wr.alloc x).grownBy w3 (Value.slice A n cap).ownBlock) (ob : (Value.slice A3 (n + 1) cap3).ownBlock = (Value.slice A n cap).ownBlock ∨ (Value.slice A3 (n + 1) cap3).ownBlock = some (wr.alloc x).heap.size) :
    Kids w w3 Bo A A3 cap3 (n + 1) n C [] ⟨u, es.map En.k, es.map En.v, [], sz⟩ K1 c1 K2 c2 K3 0 [] := by
  subst he
  refine Kids.start hC (b.alloc b.size x) ow ?_ (by simpa [bkVals] using own) gr ob
  have h := f.rows.other (S := []) ((Only.refl _ _).alloc x) (F := fun _ => True) (fun b hb => by simp at hb) (fun _ _ => trivial)
  simpa using h
section
variable {wr : World} {Ak : Option Addr} {capk q c3 kk : Nat} {Ck : List Value} {x : BK} {bs : List BK}
theorem Kids.cell3 (k : Kids w wr Bo A Ak capk q n C Ck x K1 c1 K2 c2 K3 c3 bs) {g : Nat} (hg : Ak = some ⟨g, 0, none⟩) (hq : n < q) (hk : x.kids.length = kk) : wr.cell? ⟨g, n * 5 + 3, none⟩ = some (.slice K3 kk c3) ∧ wr.frozen? ⟨g, n * 5 + 3, none⟩ = false := by
  subst hg hk
  refine ⟨(k.own.cellAt _ (by omega)).trans ?_, k.own.frozenAt _⟩
  rw [List.getElem?_append_right (by rw [k.hC]; omega), k.hC, show n * 5 + 3 - n * 5 = 3 by omega]
  rfl
theorem Kids.row3 (k : Kids w wr Bo A Ak capk q n C Ck x K1 c1 K2 c2 K3 c3 bs) (hk : x.kids.length = kk) : wr.ownsRow w.heap.size 3 1 (.slice K3 kk c3) kk (intRow x.kids) := by
  subst hk; exact k.rows.o3
theorem Kids.cell3g (k : Kids w wr Bo A Ak capk q n C Ck x K1 c1 K2 c2 K3 c3 bs) {g : Nat} (hg : Ak = some ⟨g, 0, none⟩) (hq : n < q) (hk : x.kids.length = kk) (gr : wr.grownBy w3 (Value.slice K3 kk c3).ownBlock) : w3.cell? ⟨g, n * 5 + 3, none⟩ = some (.slice K3 kk c3) ∧ w3.frozen? ⟨g, n * 5 + 3, none⟩ = false := by
  subst hg hk
  have hk3 : (Value.slice K3 x.kids.length c3).ownBlock = none ∨ (Value.slice K3 x.kids.length c3).ownBlock ≠ some g := by
    right
    intro e
    obtain ⟨a, ha, hae⟩ := ownBlock_slice e
    obtain ⟨cur, hb, _⟩ := own_blk k.rows.o3 ha
    obtain ⟨cur', hb', _⟩ := own_blk k.own rfl
    exact Blk.ne_ hb hb' (by decide) hae
  have own' := k.own.kept gr (.inr (fun e => by
    rcases hk3 with h | h
    · rw [h] at e; simp [Value.ownBlock] at e
    · exact h e.symm))
  refine ⟨(own'.cellAt _ (by omega)).trans ?_, own'.frozenAt _⟩
  rw [List.getElem?_append_right (by rw [k.hC]; omega), k.hC, show n * 5 + 3 - n * 5 = 3 by omega]
  rfl
theorem Kids.push' (k : Kids w wr Bo A Ak capk q n C Ck x K1 c1 K2 c2 K3 c3 bs) (p : Int) (hk : x.kids.length = kk) {g : Nat} (hg : Ak = some ⟨g, 0, none⟩) (own : w3.ownsRow w.heap.size 3 1 (.slice K4 (kk + 1) c4) (kk + 1) (intRow (x.kids ++ [p]))) (gr : wr.grownBy w3 (Value.slice K3 kk c3).ownBlock) (ob : (Value.slice K4 (kk + 1) c4).ownBlock = (Value.slice K3 kk c3).ownBlock ∨ (Value.slice K4 (kk + 1) c4).ownBlock = some wr.heap.size) :
    Kids w (w3.setCell ⟨g, n * 5 + 3, none⟩ (.slice K4 (kk + 1) c4)) Bo A Ak capk q n C Ck { x with kids := x.kids ++ [p] } K1 c1 K2 c2 K4 c4 bs := by
  subst hk
  exact k.push p hg own gr ob
theorem Kids.alloc (k : Kids w wr Bo A Ak capk q n C Ck x K1 c1 K2 c2 K3 c3 bs) (y : Obj) : Kids w (wr.alloc y) Bo A Ak capk q n C Ck x K1 c1 K2 c2 K3 c3 bs := by
  have on : Only [] wr (wr.alloc y) := (Only.refl _ _).alloc y
  have ot : ∀ F, Other wr F [] := fun F b hb => by simp at hb
  exact ⟨k.hC, own_only k.own on (fun _ _ => by simp), k.rows.other on (ot (fun _ => True)) (fun _ _ => trivial), k.low.other on (ot _), k.on.alloc y, k.oi⟩
theorem Kids.done (k : Kids w wr Bo A Ak capk q n C Ck x K1 c1 K2 c2 K3 c3 bs) : BksAt wr w.heap.size (fun _ => True) (bkVals x K1 c1 K2 c2 K3 c3 ++ Ck) (x :: bs) :=
  ⟨_, _, rfl, ⟨K1, c1, K2, c2, K3, c3, rfl, k.rows, fun _ _ => trivial⟩, k.low.weak (Nat.le_refl _) fun _ _ _ _ => trivial⟩
end
end
end Go.Proofs.Ytgakapigpiaoiaa.Bt
