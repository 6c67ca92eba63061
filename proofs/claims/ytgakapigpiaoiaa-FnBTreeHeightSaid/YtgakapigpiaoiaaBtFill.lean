import Derived.Test.YtgakapigpiaoiaaBtBkRow
namespace Go.Proofs.Ytgakapigpiaoiaa.Bt
open Go.RowKit Go.Proofs.Ytgakapigpiaoiaa
structure Fill (w : World) (B sb : Nat) (A1 : Option Addr) (c1 : Nat) (A2 : Option Addr) (c2 : Nat) (n n2 : Nat) (ks vs : List Int) : Prop where
  hk : ks.length = n
  hv : vs.length = n2
  ge : B ≤ sb
  blk : Blk w sb 30 #[.slice A1 n c1, .slice A2 n2 c2, .int .i64 0, .bool false]
  own1 : w.ownsRow B 3 1 (.slice A1 n c1) n (intRow ks)
  own2 : w.ownsRow B 3 1 (.slice A2 n2 c2) n2 (intRow vs)
  ne : ∀ a1 a2, A1 = some a1 → A2 = some a2 → a1.block ≠ a2.block
  ns : ∀ a, A1 = some a ∨ A2 = some a → a.block ≠ sb
structure Fills (sb : Nat) (w w' : World) (A1 A2 A1' A2' : Option Addr) : Prop where
  on : Only (sb :: (blks A1 ++ blks A2)) w w'
  in1 : OwnIn w (blks A1 ++ blks A2) A1'
  in2 : OwnIn w (blks A1 ++ blks A2) A2'
theorem Fills.refl (sb : Nat) (w : World) (A1 A2 : Option Addr) : Fills sb w w A1 A2 A1 A2 :=
  ⟨Only.refl _ _, fun a h => .inl (by subst h; simp [blks]), fun a h => .inl (by subst h; simp [blks])⟩
theorem Fills.trans {sb : Nat} {w w' w'' : World} {A1 A2 A1' A2' A1'' A2'' : Option Addr} (h : Fills sb w w' A1 A2 A1' A2') (k : Fills sb w' w'' A1' A2' A1'' A2'') : Fills sb w w'' A1 A2 A1'' A2'' := by
  have key : ∀ b, b < w.heap.size → b ∈ blks A1' ++ blks A2' → b ∈ blks A1 ++ blks A2 := by
    intro b hb hm
    rcases List.mem_append.1 hm with hm | hm
    · obtain ⟨a, ha, rfl⟩ := mem_blks hm
      rcases h.in1 a ha with e | e
      · exact e
      · omega
    · obtain ⟨a, ha, rfl⟩ := mem_blks hm
      rcases h.in2 a ha with e | e
      · exact e
      · omega
  have up : ∀ A, OwnIn w' (blks A1' ++ blks A2') A → OwnIn w (blks A1 ++ blks A2) A := by
    intro A hA a ha
    rcases Nat.lt_or_ge a.block w.heap.size with hlt | hge
    · rcases hA a ha with e | e
      · exact .inl (key _ hlt e)
      · have := h.on.size; omega
    · exact .inr hge
  refine ⟨h.on.trans' k.on fun b hb hm => ?_, up _ k.in1, up _ k.in2⟩
  rcases List.mem_cons.1 hm with e | e
  · simp [e]
  · exact List.mem_cons_of_mem _ (key b hb e)
theorem Fill.below {w w' : World} {B sb : Nat} {A1 A2 : Option Addr} {c1 c2 n n2 : Nat} {ks vs : List Int} (h : Fill w B sb A1 c1 A2 c2 n n2 ks vs) (b : Below w.heap.size w w') : Fill w' B sb A1 c1 A2 c2 n n2 ks vs :=
  ⟨h.hk, h.hv, h.ge, h.blk.below b h.blk.lt, own_below h.own1 b, own_below h.own2 b, h.ne, h.ns⟩
theorem Fill.ids {w : World} {B sb : Nat} {A1 A2 : Option Addr} {c1 c2 n n2 : Nat} {ks vs : List Int} (h : Fill w B sb A1 c1 A2 c2 n n2 ks vs) : ∀ b ∈ sb :: (blks A1 ++ blks A2), B ≤ b ∧ b < w.heap.size := by
  intro b hb
  rcases List.mem_cons.1 hb with e | e
  · subst e; exact ⟨h.ge, h.blk.lt⟩
  · rcases List.mem_append.1 e with e | e
    · obtain ⟨a, rfl, rfl⟩ := mem_blks e; exact h.own1.lt _ rfl
    · obtain ⟨a, rfl, rfl⟩ := mem_blks e; exact h.own2.lt _ rfl
theorem Fills.below {sb : Nat} {w w' : World} {A1 A2 A1' A2' : Option Addr} {B : Nat} {c1 c2 n n2 : Nat} {ks vs : List Int} (h : Fills sb w w' A1 A2 A1' A2') (f : Fill w B sb A1 c1 A2 c2 n n2 ks vs) (hB : B ≤ w.heap.size) : Below B w w' :=
  h.on.below (fun b hb => (f.ids b hb).1) hB
theorem setGrown (w : World) (p : Addr) (x : Value) : w.grownBy (w.setCell p x) (some p.block) :=
  ⟨rfl, rfl, rfl, by simp, fun k _ hk => Below.heap_setCell w p x k (fun e => hk (by simp [e]))⟩
section
variable {w w3 : World} {B sb : Nat} {A1 A2 A3 : Option Addr} {c1 c2 c3 n n2 : Nat} {ks vs : List Int}
theorem Fill.push1 (f : Fill w B sb A1 c1 A2 c2 n n2 ks vs) (zs : List Int) {m : Nat} (hz : zs.length = m) (own : w3.ownsRow B 3 1 (.slice A3 (n + m) c3) (n + m) (intRow (ks ++ zs))) (gr : w.grownBy w3 (Value.slice A1 n c1).ownBlock) (ob : (Value.slice A3 (n + m) c3).ownBlock = (Value.slice A1 n c1).ownBlock ∨ (Value.slice A3 (n + m) c3).ownBlock = some w.heap.size) :
    Fill (w3.setCell ⟨sb, 0, none⟩ (.slice A3 (n + m) c3)) B sb A3 c3 A2 c2 (n + m) n2 (ks ++ zs) vs ∧ Fills sb w (w3.setCell ⟨sb, 0, none⟩ (.slice A3 (n + m) c3)) A1 A2 A3 A2 ∧ (∀ b, b < w.heap.size → b ≠ sb → (∀ a, A1 = some a → a.block ≠ b) → (w3.setCell ⟨sb, 0, none⟩ (.slice A3 (n + m) c3)).heap[b]? = w.heap[b]?) := by
  have hs3 : Blk w3 sb 30 _ := f.blk.same (gr.block sb f.blk.lt (fun e => own_neB f.own1 f.blk (by decide) e.symm))
  have hn1 : (Value.slice A3 (n + m) c3).ownBlock ≠ some sb := own_neB own hs3 (by decide)
  have hn2 : (Value.slice A2 n2 c2).ownBlock ≠ some sb := own_neB f.own2 f.blk (by decide)
  have h12 : (Value.slice A2 n2 c2).ownBlock = none ∨ (Value.slice A2 n2 c2).ownBlock ≠ (Value.slice A1 n c1).ownBlock := by
    rcases hA : A2 with _ | a
    · exact .inl rfl
    · right
      intro e
      obtain ⟨b, hb, hbe⟩ := ownBlock_slice (A := A1) (n := n) (cap := c1) (g := a.block) (by rw [← e]; rfl)
      exact f.ne b a hb hA hbe
  have own2 := f.own2.kept gr h12
  have in3 : OwnIn w (blks A1 ++ blks A2) A3 := by
    intro a ha
    subst ha
    simp only [Value.ownBlock, Option.some.injEq] at ob
    rcases ob with e | e
    · obtain ⟨b, hb, hbe⟩ := ownBlock_slice e.symm
      subst hb
      left; simp [blks, hbe]
    · right; omega
  refine ⟨⟨by simp [f.hk, hz], f.hv, f.ge, hs3.set_ 0 _, own.kept (setGrown _ _ _) (.inr hn1), own2.kept (setGrown _ _ _) (.inr hn2), ?_, ?_⟩, ⟨?_, in3, fun a h => .inl (by subst h; simp [blks])⟩, ?_⟩
  · intro a1 a2 h1 h2 he
    subst h1 h2
    simp only [Value.ownBlock, Option.some.injEq] at ob
    rcases ob with e | e
    · obtain ⟨b, hb, hbe⟩ := ownBlock_slice e.symm
      exact f.ne b a2 hb rfl (hbe.trans he)
    · have := (f.own2.lt a2.block rfl).2; omega
  · intro a h he
    rcases h with h | h
    · subst h; exact hn1 (by simp [Value.ownBlock, he])
    · subst h; exact hn2 (by simp [Value.ownBlock, he])
  · refine Only.setCell ⟨gr.os, gr.tape, gr.output, gr.size, fun b hb hm => gr.block b hb (fun e => hm ?_)⟩ (.inl (by simp)) _
    obtain ⟨a, ha, hae⟩ := ownBlock_slice e.symm
    subst ha
    simp [blks, hae]
  · intro b hb hne hA
    rw [Below.heap_setCell w3 _ _ b hne]
    exact gr.block b hb (fun e => by obtain ⟨a, ha, hae⟩ := ownBlock_slice e.symm; exact hA a ha hae)
theorem Fill.push2 (f : Fill w B sb A1 c1 A2 c2 n n2 ks vs) (zs : List Int) {m : Nat} (hz : zs.length = m) (own : w3.ownsRow B 3 1 (.slice A3 (n2 + m) c3) (n2 + m) (intRow (vs ++ zs))) (gr : w.grownBy w3 (Value.slice A2 n2 c2).ownBlock) (ob : (Value.slice A3 (n2 + m) c3).ownBlock = (Value.slice A2 n2 c2).ownBlock ∨ (Value.slice A3 (n2 + m) c3).ownBlock = some w.heap.size) :
    Fill (w3.setCell ⟨sb, 1, none⟩ (.slice A3 (n2 + m) c3)) B sb A1 c1 A3 c3 n (n2 + m) ks (vs ++ zs) ∧ Fills sb w (w3.setCell ⟨sb, 1, none⟩ (.slice A3 (n2 + m) c3)) A1 A2 A1 A3 ∧ (∀ b, b < w.heap.size → b ≠ sb → (∀ a, A2 = some a → a.block ≠ b) → (w3.setCell ⟨sb, 1, none⟩ (.slice A3 (n2 + m) c3)).heap[b]? = w.heap[b]?) := by
  have hs3 : Blk w3 sb 30 _ := f.blk.same (gr.block sb f.blk.lt (fun e => own_neB f.own2 f.blk (by decide) e.symm))
  have hn1 : (Value.slice A3 (n2 + m) c3).ownBlock ≠ some sb := own_neB own hs3 (by decide)
  have hn2 : (Value.slice A1 n c1).ownBlock ≠ some sb := own_neB f.own1 f.blk (by decide)
  have h12 : (Value.slice A1 n c1).ownBlock = none ∨ (Value.slice A1 n c1).ownBlock ≠ (Value.slice A2 n2 c2).ownBlock := by
    rcases hA : A1 with _ | a
    · exact .inl rfl
    · right
      intro e
      obtain ⟨b, hb, hbe⟩ := ownBlock_slice (A := A2) (n := n2) (cap := c2) (g := a.block) (by rw [← e]; rfl)
      exact f.ne a b hA hb hbe.symm
  have own1 := f.own1.kept gr h12
  have in3 : OwnIn w (blks A1 ++ blks A2) A3 := by
    intro a ha
    subst ha
    simp only [Value.ownBlock, Option.some.injEq] at ob
    rcases ob with e | e
    · obtain ⟨b, hb, hbe⟩ := ownBlock_slice e.symm
      subst hb
      left; simp [blks, hbe]
    · right; omega
  refine ⟨⟨f.hk, by simp [f.hv, hz], f.ge, hs3.set_ 1 _, own1.kept (setGrown _ _ _) (.inr hn2), own.kept (setGrown _ _ _) (.inr hn1), ?_, ?_⟩, ⟨?_, fun a h => .inl (by subst h; simp [blks]), in3⟩, ?_⟩
  · intro a1 a2 h1 h2 he
    subst h1 h2
    simp only [Value.ownBlock, Option.some.injEq] at ob
    rcases ob with e | e
    · obtain ⟨b, hb, hbe⟩ := ownBlock_slice e.symm
      exact f.ne a1 b rfl hb (he.trans hbe.symm)
    · have := (f.own1.lt a1.block rfl).2; omega
  · intro a h he
    rcases h with h | h
    · subst h; exact hn2 (by simp [Value.ownBlock, he])
    · subst h; exact hn1 (by simp [Value.ownBlock, he])
  · refine Only.setCell ⟨gr.os, gr.tape, gr.output, gr.size, fun b hb hm => gr.block b hb (fun e => hm ?_)⟩ (.inl (by simp)) _
    obtain ⟨a, ha, hae⟩ := ownBlock_slice e.symm
    subst ha
    simp [blks, hae]
  · intro b hb hne hA
    rw [Below.heap_setCell w3 _ _ b hne]
    exact gr.block b hb (fun e => by obtain ⟨a, ha, hae⟩ := ownBlock_slice e.symm; exact hA a ha hae)
theorem Fill.off {kb : Nat} {t : TypeId} {cs : Array Value} (f : Fill w B sb A1 c1 A2 c2 n n2 ks vs) (h : Blk w kb t cs) (h1 : t ≠ 30) (h2 : t ≠ 3) : kb ∉ sb :: (blks A1 ++ blks A2) := by
  intro hm
  rcases List.mem_cons.1 hm with e | e
  · exact Blk.ne_ h f.blk h1 e
  · rcases List.mem_append.1 e with e | e
    · obtain ⟨a, ha, hae⟩ := mem_blks e
      exact own_neB f.own1 h h2 (by rw [ha]; simp [Value.ownBlock, hae])
    · obtain ⟨a, ha, hae⟩ := mem_blks e
      exact own_neB f.own2 h h2 (by rw [ha]; simp [Value.ownBlock, hae])
theorem Fill.drew (f : Fill w B sb A1 c1 A2 c2 n n2 ks vs) : Fill w.drew B sb A1 c1 A2 c2 n n2 ks vs := f.below ⟨rfl, rfl, rfl, Nat.le_refl _, fun _ _ => rfl⟩
theorem Fill.alloc (f : Fill w B sb A1 c1 A2 c2 n n2 ks vs) (x : Obj) : Fill (w.alloc x) B sb A1 c1 A2 c2 n n2 ks vs := f.below ((Below.refl _ _).alloc (Nat.le_refl _) x)
theorem Fills.drew (sb : Nat) (w : World) (A1 A2 : Option Addr) : Fills sb w w.drew A1 A2 A1 A2 := ⟨(Only.refl _ _).drew, fun a h => .inl (by subst h; simp [blks]), fun a h => .inl (by subst h; simp [blks])⟩
theorem Fills.start (sb : Nat) (w : World) (A1 A2 : Option Addr) (x : Obj) : Fills sb w (w.alloc x).drew A1 A2 A1 A2 := ⟨((Only.refl _ _).alloc _).drew, fun a h => .inl (by subst h; simp [blks]), fun a h => .inl (by subst h; simp [blks])⟩
end
end Go.Proofs.Ytgakapigpiaoiaa.Bt
