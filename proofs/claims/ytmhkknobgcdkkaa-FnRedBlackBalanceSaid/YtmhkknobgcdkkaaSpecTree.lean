/-
  The reference's order and Tree of a tree that is told as a list of nodes.
-/
import Derived.Test.YtmhkknobgcdkkaaSpecHeight
import Derived.Test.YtmhkknobgcdkkaaRows0
import Derived.Laws.OwnMore
import Derived.Deep.RegionLaw
namespace Go.Proofs.Ytmhkknobgcdkkaa
open Go.RowKit

/-- The state that is being filled: its keys and values are rows of the call's own. -/
structure Fill (w : World) (B sb : Nat) (A1 : Option Addr) (c1 : Nat) (A2 : Option Addr) (c2 : Nat) (n n2 : Nat) (ks vs : List Int) : Prop where
  hk : ks.length = n
  hv : vs.length = n2
  ge : B ≤ sb
  blk : Blk w sb 33 #[.slice A1 n c1, .slice A2 n2 c2, .int .i64 0, .bool false]
  own1 : w.ownsRow B 3 1 (.slice A1 n c1) n (intRow ks)
  own2 : w.ownsRow B 3 1 (.slice A2 n2 c2) n2 (intRow vs)
  ne : ∀ a1 a2, A1 = some a1 → A2 = some a2 → a1.block ≠ a2.block
  ns : ∀ a, A1 = some a ∨ A2 = some a → a.block ≠ sb
def blks : Option Addr → List Nat
  | some a => [a.block]
  | none => []
/-- From one filling to a later one. -/
structure Fills (sb : Nat) (w w' : World) (A1 A2 A1' A2' : Option Addr) : Prop where
  on : Only (sb :: (blks A1 ++ blks A2)) w w'
  in1 : OwnIn w (blks A1 ++ blks A2) A1'
  in2 : OwnIn w (blks A1 ++ blks A2) A2'
theorem mem_blks {A : Option Addr} {b : Nat} (h : b ∈ blks A) : ∃ a, A = some a ∧ a.block = b := by
  cases A with
  | none => simp [blks] at h
  | some a => simp only [blks, List.mem_singleton] at h; exact ⟨a, rfl, h.symm⟩
theorem Fills.refl (sb : Nat) (w : World) (A1 A2 : Option Addr) : Fills sb w w A1 A2 A1 A2 :=
  ⟨Only.refl _ _, fun a h => .inl (by subst h; simp [blks]), fun a h => .inl (by subst h; simp [blks])⟩
theorem Fills.trans {sb : Nat} {w w' w'' : World} {A1 A2 A1' A2' A1'' A2'' : Option Addr} (h : Fills sb w w' A1 A2 A1' A2') (k : Fills sb w' w'' A1' A2' A1'' A2'') : Fills sb w w'' A1 A2 A1'' A2'' := by
  have key : ∀ b, b < w.heap.size → b ∈ blks A1' ++ blks A2' → b ∈ blks A1 ++ blks A2 := by
    intro b hb hm
    rcases List.mem_append.1 hm with hm | hm
    · obtain ⟨a, ha, rfl⟩ := mem_blks hm
      rcases h.in1 a ha with e | e
      · exact e
      · omega
    · obtain ⟨a, ha, rfl⟩ := mem_blks hm
      rcases h.in2 a ha with e | e
      · exact e
      · omega
  have up : ∀ A, OwnIn w' (blks A1' ++ blks A2') A → OwnIn w (blks A1 ++ blks A2) A := by
    intro A hA a ha
    rcases Nat.lt_or_ge a.block w.heap.size with hlt | hge
    · rcases hA a ha with e | e
      · exact .inl (key _ hlt e)
      · have := h.on.size; omega
    · exact .inr hge
  refine ⟨h.on.trans' k.on fun b hb hm => ?_, up _ k.in1, up _ k.in2⟩
  rcases List.mem_cons.1 hm with e | e
  · simp [e]
  · exact List.mem_cons_of_mem _ (key b hb e)
theorem Fill.below {w w' : World} {B sb : Nat} {A1 A2 : Option Addr} {c1 c2 n n2 : Nat} {ks vs : List Int} (h : Fill w B sb A1 c1 A2 c2 n n2 ks vs) (b : Below w.heap.size w w') : Fill w' B sb A1 c1 A2 c2 n n2 ks vs :=
  ⟨h.hk, h.hv, h.ge, h.blk.below b h.blk.lt, own_below h.own1 b, own_below h.own2 b, h.ne, h.ns⟩
theorem Fill.ids {w : World} {B sb : Nat} {A1 A2 : Option Addr} {c1 c2 n n2 : Nat} {ks vs : List Int} (h : Fill w B sb A1 c1 A2 c2 n n2 ks vs) : ∀ b ∈ sb :: (blks A1 ++ blks A2), B ≤ b ∧ b < w.heap.size := by
  intro b hb
  rcases List.mem_cons.1 hb with e | e
  · subst e; exact ⟨h.ge, h.blk.lt⟩
  · rcases List.mem_append.1 e with e | e
    · obtain ⟨a, rfl, rfl⟩ := mem_blks e; exact h.own1.lt _ rfl
    · obtain ⟨a, rfl, rfl⟩ := mem_blks e; exact h.own2.lt _ rfl
theorem Fills.below {sb : Nat} {w w' : World} {A1 A2 A1' A2' : Option Addr} {B : Nat} {c1 c2 n n2 : Nat} {ks vs : List Int} (h : Fills sb w w' A1 A2 A1' A2') (f : Fill w B sb A1 c1 A2 c2 n n2 ks vs) (hB : B ≤ w.heap.size) : Below B w w' :=
  h.on.below (fun b hb => (f.ids b hb).1) hB

theorem setGrown (w : World) (p : Addr) (x : Value) : w.grownBy (w.setCell p x) (some p.block) :=
  ⟨rfl, rfl, rfl, by simp, fun k _ hk => Below.heap_setCell w p x k (fun e => hk (by simp [e]))⟩
theorem own_neB {w : World} {base : Nat} {e t : TypeId} {size n cap n' gb : Nat} {A : Option Addr} {xs : List Value} {cs : Array Value} (h : w.ownsRow base e size (.slice A n cap) n' xs) (hb : Blk w gb t cs) (ht : t ≠ e) : (Value.slice A n cap).ownBlock ≠ some gb := by
  intro he
  rcases h.2 with ⟨e1, _⟩ | ⟨g, c, cur, hv, _, hg, _⟩
  · rw [e1] at he; simp [Value.ownBlock] at he
  · rw [hv] at he
    simp only [Value.ownBlock, Option.some.injEq] at he
    subst he
    unfold Blk at hb
    rw [hg] at hb
    injection hb with hb
    injection hb with _ h2
    exact ht h2.symm
theorem ownBlock_slice {A : Option Addr} {n cap g : Nat} (h : (Value.slice A n cap).ownBlock = some g) : ∃ a, A = some a ∧ a.block = g := by
  cases A with
  | none => simp [Value.ownBlock] at h
  | some a => simp only [Value.ownBlock, Option.some.injEq] at h; exact ⟨a, rfl, h⟩
section
variable {w w3 : World} {B sb : Nat} {A1 A2 A3 : Option Addr} {c1 c2 c3 n n2 : Nat} {ks vs : List Int}
theorem Fill.push1 (f : Fill w B sb A1 c1 A2 c2 n n2 ks vs) (x : Int) (own : w3.ownsRow B 3 1 (.slice A3 (n + 1) c3) (n + 1) (intRow (ks ++ [x]))) (gr : w.grownBy w3 (Value.slice A1 n c1).ownBlock) (ob : (Value.slice A3 (n + 1) c3).ownBlock = (Value.slice A1 n c1).ownBlock ∨ (Value.slice A3 (n + 1) c3).ownBlock = some w.heap.size) :
    Fill (w3.setCell ⟨sb, 0, none⟩ (.slice A3 (n + 1) c3)) B sb A3 c3 A2 c2 (n + 1) n2 (ks ++ [x]) vs ∧ Fills sb w (w3.setCell ⟨sb, 0, none⟩ (.slice A3 (n + 1) c3)) A1 A2 A3 A2 ∧ (∀ b, b < w.heap.size → b ≠ sb → (∀ a, A1 = some a → a.block ≠ b) → (w3.setCell ⟨sb, 0, none⟩ (.slice A3 (n + 1) c3)).heap[b]? = w.heap[b]?) := by
  have hs3 : Blk w3 sb 33 _ := f.blk.same (gr.block sb f.blk.lt (fun e => own_neB f.own1 f.blk (by decide) e.symm))
  have hn1 : (Value.slice A3 (n + 1) c3).ownBlock ≠ some sb := own_neB own hs3 (by decide)
  have hn2 : (Value.slice A2 n2 c2).ownBlock ≠ some sb := own_neB f.own2 f.blk (by decide)
  have h12 : (Value.slice A2 n2 c2).ownBlock = none ∨ (Value.slice A2 n2 c2).ownBlock ≠ (Value.slice A1 n c1).ownBlock := by
    rcases hA : A2 with _ | a
    · exact .inl rfl
    · right
      intro e
      obtain ⟨b, hb, hbe⟩ := ownBlock_slice (A := A1) (n := n) (cap := c1) (g := a.block) (by rw [← e]; rfl)
      exact f.ne b a hb hA hbe
  have own2 := f.own2.kept gr h12
  have in3 : OwnIn w (blks A1 ++ blks A2) A3 := by
    intro a ha
    subst ha
    simp only [Value.ownBlock, Option.some.injEq] at ob
    rcases ob with e | e
    · obtain ⟨b, hb, hbe⟩ := ownBlock_slice e.symm
      subst hb
      left; simp [blks, hbe]
    · right; omega
  refine ⟨⟨by simp [f.hk], f.hv, f.ge, hs3.set_ 0 _, own.kept (setGrown _ _ _) (.inr hn1), own2.kept (setGrown _ _ _) (.inr hn2), ?_, ?_⟩, ⟨?_, in3, fun a h => .inl (by subst h; simp [blks])⟩, ?_⟩
  · intro a1 a2 h1 h2 he
    subst h1 h2
    simp only [Value.ownBlock, Option.some.injEq] at ob
    rcases ob with e | e
    · obtain ⟨b, hb, hbe⟩ := ownBlock_slice e.symm
      exact f.ne b a2 hb rfl (hbe.trans he)
    · have := (f.own2.lt a2.block rfl).2; omega
  · intro a h he
    rcases h with h | h
    · subst h; exact hn1 (by simp [Value.ownBlock, he])
    · subst h; exact hn2 (by simp [Value.ownBlock, he])
  · refine Only.setCell ⟨gr.os, gr.tape, gr.output, gr.size, fun b hb hm => gr.block b hb (fun e => hm ?_)⟩ (.inl (by simp)) _
    obtain ⟨a, ha, hae⟩ := ownBlock_slice e.symm
    subst ha
    simp [blks, hae]
  · intro b hb hne hA
    rw [Below.heap_setCell w3 _ _ b hne]
    exact gr.block b hb (fun e => by obtain ⟨a, ha, hae⟩ := ownBlock_slice e.symm; exact hA a ha hae)
theorem Fill.push2 (f : Fill w B sb A1 c1 A2 c2 n n2 ks vs) (x : Int) (own : w3.ownsRow B 3 1 (.slice A3 (n2 + 1) c3) (n2 + 1) (intRow (vs ++ [x]))) (gr : w.grownBy w3 (Value.slice A2 n2 c2).ownBlock) (ob : (Value.slice A3 (n2 + 1) c3).ownBlock = (Value.slice A2 n2 c2).ownBlock ∨ (Value.slice A3 (n2 + 1) c3).ownBlock = some w.heap.size) :
    Fill (w3.setCell ⟨sb, 1, none⟩ (.slice A3 (n2 + 1) c3)) B sb A1 c1 A3 c3 n (n2 + 1) ks (vs ++ [x]) ∧ Fills sb w (w3.setCell ⟨sb, 1, none⟩ (.slice A3 (n2 + 1) c3)) A1 A2 A1 A3 ∧ (∀ b, b < w.heap.size → b ≠ sb → (∀ a, A2 = some a → a.block ≠ b) → (w3.setCell ⟨sb, 1, none⟩ (.slice A3 (n2 + 1) c3)).heap[b]? = w.heap[b]?) := by
  have hs3 : Blk w3 sb 33 _ := f.blk.same (gr.block sb f.blk.lt (fun e => own_neB f.own2 f.blk (by decide) e.symm))
  have hn1 : (Value.slice A3 (n2 + 1) c3).ownBlock ≠ some sb := own_neB own hs3 (by decide)
  have hn2 : (Value.slice A1 n c1).ownBlock ≠ some sb := own_neB f.own1 f.blk (by decide)
  have h12 : (Value.slice A1 n c1).ownBlock = none ∨ (Value.slice A1 n c1).ownBlock ≠ (Value.slice A2 n2 c2).ownBlock := by
    rcases hA : A1 with _ | a
    · exact .inl rfl
    · right
      intro e
      obtain ⟨b, hb, hbe⟩ := ownBlock_slice (A := A2) (n := n2) (cap := c2) (g := a.block) (by rw [← e]; rfl)
      exact f.ne a b hA hb hbe.symm
  have own1 := f.own1.kept gr h12
  have in3 : OwnIn w (blks A1 ++ blks A2) A3 := by
    intro a ha
    subst ha
    simp only [Value.ownBlock, Option.some.injEq] at ob
    rcases ob with e | e
    · obtain ⟨b, hb, hbe⟩ := ownBlock_slice e.symm
      subst hb
      left; simp [blks, hbe]
    · right; omega
  refine ⟨⟨f.hk, by simp [f.hv], f.ge, hs3.set_ 1 _, own1.kept (setGrown _ _ _) (.inr hn2), own.kept (setGrown _ _ _) (.inr hn1), ?_, ?_⟩, ⟨?_, fun a h => .inl (by subst h; simp [blks]), in3⟩, ?_⟩
  · intro a1 a2 h1 h2 he
    subst h1 h2
    simp only [Value.ownBlock, Option.some.injEq] at ob
    rcases ob with e | e
    · obtain ⟨b, hb, hbe⟩ := ownBlock_slice e.symm
      exact f.ne a1 b rfl hb (he.trans hbe.symm)
    · have := (f.own1.lt a1.block rfl).2; omega
  · intro a h he
    rcases h with h | h
    · subst h; exact hn2 (by simp [Value.ownBlock, he])
    · subst h; exact hn1 (by simp [Value.ownBlock, he])
  · refine Only.setCell ⟨gr.os, gr.tape, gr.output, gr.size, fun b hb hm => gr.block b hb (fun e => hm ?_)⟩ (.inl (by simp)) _
    obtain ⟨a, ha, hae⟩ := ownBlock_slice e.symm
    subst ha
    simp [blks, hae]
  · intro b hb hne hA
    rw [Below.heap_setCell w3 _ _ b hne]
    exact gr.block b hb (fun e => by obtain ⟨a, ha, hae⟩ := ownBlock_slice e.symm; exact hA a ha hae)
theorem Fill.drew (f : Fill w B sb A1 c1 A2 c2 n n2 ks vs) : Fill w.drew B sb A1 c1 A2 c2 n n2 ks vs := f.below ⟨rfl, rfl, rfl, Nat.le_refl _, fun _ _ => rfl⟩
theorem Fill.alloc (f : Fill w B sb A1 c1 A2 c2 n n2 ks vs) (x : Obj) : Fill (w.alloc x) B sb A1 c1 A2 c2 n n2 ks vs := f.below ((Below.refl _ _).alloc (Nat.le_refl _) x)
theorem Fills.start (sb : Nat) (w : World) (A1 A2 : Option Addr) (x : Obj) : Fills sb w (w.alloc x).drew A1 A2 A1 A2 := ⟨((Only.refl _ _).alloc _).drew, fun a h => .inl (by subst h; simp [blks]), fun a h => .inl (by subst h; simp [blks])⟩
end

set_option maxHeartbeats 4000000 in
set_option maxRecDepth 100000 in
theorem order_walk (K : List Kn) (n cap : Nat) (A : Option Addr) (hn : K.length = n) (w0 : World) (hr : RowAt w0 w0.heap.size A (knCells K)) (sb : Nat) (t : BT) : ∀ (a u left : Int) (ks vs : List Int) (w : World) (A1 : Option Addr) (c1 : Nat) (A2 : Option Addr) (c2 q : Nat), SubAt K a u t → (t.height : Int) ≤ left → left ≤ 200000 → Below w0.heap.size w0 w → Fill w w0.heap.size sb A1 c1 A2 c2 q q ks vs → q + t.count ≤ 100000 →
    Calls Try.prog 28 #[.slice A n cap, .int .i64 a, .int .i64 u, .int .i64 left, .pointer (some ⟨sb, 0, none⟩)] w fun e w' => e = .returned (.tuple #[.int .i64 t.height, .int .i64 t.count]) ∧ ∃ A1' c1' A2' c2', Fill w' w0.heap.size sb A1' c1' A2' c2' (q + t.count) (q + t.count) (ks ++ t.kvs.map Prod.fst) (vs ++ t.kvs.map Prod.snd) ∧ Fills sb w w' A1 A2 A1' A2' := by
  induction t with
  | nil =>
    intro a u left ks vs w A1 c1 A2 c2 q h hl hl2 hb hf _
    simp only [SubAt] at h
    subst h
    have HF := Lib.hid hf
    clear hf hb
    go_enter Try.func28, Try.ntmps28
    go_wp2_with fail
    go_ret2
    exact ⟨rfl, A1, c1, A2, c2, by simpa [BT.kvs, BT.count] using HF.out, Fills.refl _ _ _ _⟩
  | node i l k v b r ihl ihr =>
    intro a u left ks vs w A1 d1 A2 d2 q h hl hl2 hb hf hc
    obtain ⟨m, rfl, la, ra, hm, s1, s2⟩ := h
    have HF := Lib.hid hf
    have HB := Lib.hid hb
    have G0 : ∃ ad, A = some ad ∧ ∀ w1, Below w0.heap.size w0 w1 → ∀ j, j < 6 → ∀ z, (knVals ⟨k, v, u, la, ra, (l.count + r.count + 1 : Nat)⟩)[j]? = some z → w1.cell? (ad.add (m * 6 + j)) = some z := by
      obtain ⟨ad, h1, _⟩ := RowAt.kn hr hm 0 (by omega)
      refine ⟨ad, h1, fun w1 hb1 j hj z hz => ?_⟩
      obtain ⟨ad', h2, h3⟩ := RowAt.kn (hr.below hb1) hm j hj
      rw [h1] at h2
      injection h2 with h2
      subst h2
      exact h3.trans hz
    obtain ⟨ad, rfl, G1⟩ := G0
    have G := Lib.hid G1
    have HL := Lib.hid ihl
    have HR := Lib.hid ihr
    have hm1 := (List.getElem?_eq_some_iff.1 hm).1
    clear G1 ihl ihr hm hr
    have c0 : w.cell? (ad.add (m * 6)) = some (.int .i64 k) := G.out w hb 0 (by omega) _ rfl
    have c1 : w.cell? ⟨(ad.add (m * 6)).block, (ad.add (m * 6)).off + 1, none⟩ = some (.int .i64 v) := by rw [← add_succ _ _ _ (by omega)]; exact G.out w hb 1 (by omega) _ rfl
    have c2 : w.cell? ⟨(ad.add (m * 6)).block, (ad.add (m * 6)).off + 2, none⟩ = some (.int .i64 u) := by rw [← add_succ _ _ _ (by omega)]; exact G.out w hb 2 (by omega) _ rfl
    have c3 : w.cell? ⟨(ad.add (m * 6)).block, (ad.add (m * 6)).off + 3, none⟩ = some (.int .i64 la) := by rw [← add_succ _ _ _ (by omega)]; exact G.out w hb 3 (by omega) _ rfl
    have c4 : w.cell? ⟨(ad.add (m * 6)).block, (ad.add (m * 6)).off + 4, none⟩ = some (.int .i64 ra) := by rw [← add_succ _ _ _ (by omega)]; exact G.out w hb 4 (by omega) _ rfl
    have c5 : w.cell? ⟨(ad.add (m * 6)).block, (ad.add (m * 6)).off + 5, none⟩ = some (.int .i64 ((l.count : Int) + (r.count : Int) + 1)) := by rw [← add_succ _ _ _ (by omega)]; exact G.out w hb 5 (by omega) _ (by simp [knVals])
    have hm0 : (0 : Int) ≤ (m : Int) := by omega
    have hmn : (m : Int) < (n : Int) := by omega
    have hl0 : (0 : Int) ≤ left := by have := hl; omega
    have hw : IntKind.i64.wrap (left - 1) = left - 1 := IntWalk.i64_in _ (by omega)
    have KB := Lib.hid (Blk.new w 47 #[.int .i64 k, .int .i64 v, .int .i64 u, .int .i64 la, .int .i64 ra, .int .i64 ((l.count : Int) + (r.count : Int) + 1)])
    have B1 := Lib.hid (hb.alloc hb.size (.cells #[.int .i64 k, .int .i64 v, .int .i64 u, .int .i64 la, .int .i64 ra, .int .i64 ((l.count : Int) + (r.count : Int) + 1)] 47))
    have F1 := Lib.hid (hf.below ((Below.refl _ _).alloc (Nat.le_refl _) (.cells #[.int .i64 k, .int .i64 v, .int .i64 u, .int .i64 la, .int .i64 ra, .int .i64 ((l.count : Int) + (r.count : Int) + 1)] 47)))
    have FS1 := Lib.hid (show Fills sb w (w.alloc (.cells #[.int .i64 k, .int .i64 v, .int .i64 u, .int .i64 la, .int .i64 ra, .int .i64 ((l.count : Int) + (r.count : Int) + 1)] 47)) A1 A2 A1 A2 from ⟨(Only.refl _ _).alloc _, fun a h => .inl (by subst h; simp [blks]), fun a h => .inl (by subst h; simp [blks])⟩)
    have KN := Lib.hid (show ∀ b ∈ sb :: (blks A1 ++ blks A2), b ≠ w.heap.size from fun b hb' e => by have := (hf.ids b hb').2; omega)
    clear hb hf HB
    go_enter Try.func28, Try.ntmps28
    go_wp2_with fail
    clear c0 c1 c2 c3 c4 c5
    generalize hkb : w.heap.size = kb at *
    generalize w.alloc (.cells #[.int .i64 k, .int .i64 v, .int .i64 u, .int .i64 la, .int .i64 ra, .int .i64 ((l.count : Int) + (r.count : Int) + 1)] 47) = w1 at *
    refine (HL.out la m (left - 1) ks vs w1 A1 d1 A2 d2 q s1 (by simp only [BT.height] at hl; omega) (by omega) B1.out F1.out (by simp only [BT.count] at hc; omega)).mono ?_
    rintro e w2 ⟨rfl, A3, c3, A4, c4, f2, fs2⟩
    have K2 := Lib.hid (KB.out.only fs2.on (fun hm => KN.out _ hm rfl))
    have B2 := Lib.hid (B1.out.trans (fs2.below F1.out B1.out.size))
    have FS2 := Lib.hid (FS1.out.trans fs2)
    have s2 := f2.blk
    have hs0 : w2.cell? ⟨sb, 0, none⟩ = some (.slice A3 (q + l.count) c3) := s2.cell 0
    have hs1 : w2.cell? ⟨sb, 1, none⟩ = some (.slice A4 (q + l.count) c4) := s2.cell 1
    have hsf := s2.frozen
    have hk0 : w2.cell? ⟨kb, 0, none⟩ = some (.int .i64 k) := K2.out.cell 0
    have F2 := Lib.hid f2
    clear f2 fs2 s2 KB F1 FS1 HL
    have hk1 : w2.cell? ⟨kb, 1, none⟩ = some (.int .i64 v) := K2.out.cell 1
    have qc : q + l.count + 1 + r.count ≤ 100000 := by simp only [BT.count] at hc; omega
    go_wp2_with fail
    have hsA : (w2.alloc (.cells #[.int .i64 k] 3)).cell? ⟨sb, 0, none⟩ = some (.slice A3 (q + l.count) c3) := (F2.out.blk.alloc _).cell 0
    have hkA : (w2.alloc (.cells #[.int .i64 k] 3)).cell? ⟨kb, 0, none⟩ = some (.int .i64 k) := (K2.out.alloc _).cell 0
    go_region_law
      (first
        | (have FD := Lib.hid (Fill.drew (F2.out.alloc (.cells #[.int .i64 k] 3)))
           refine step_app (t := 31) (e := 3) (z := .int .i64 0) (size := 1) (bytes := 8) Try.underlying31 int_info rfl (by omega) rfl (.tmp 59) (.tmp 62) rfl w0.heap.size (.slice A3 (q + l.count) c3) (q + l.count) (intRow (ks ++ l.kvs.map Prod.fst)) rfl FD.out.own1 (some ⟨w2.heap.size, 0, none⟩) 1 1 (intRow [k]) rfl (src_blk (Blk.drew (Blk.new _ _ _)) rfl) (intRow_one _) (by omega) (by omega) (by have := B2.out.size; simp; omega) ?_
           intro v1 w3 own3 gr3 ob3
           rw [← intRow_append] at own3
           obtain ⟨A5, c5, rfl, _, _⟩ := own_slice own3
           have P3 := Lib.hid (FD.out.push1 k own3 gr3 ob3)
           have SB3 := Lib.hid (Blk.same FD.out.blk (gr3.block sb FD.out.blk.lt (fun e => own_neB FD.out.own1 FD.out.blk (by decide) e.symm)))
           have hsb3 := SB3.out.cell 0
           have hsf3 := SB3.out.frozen 0
           have KB3 := Lib.hid (Blk.same ((K2.out.alloc (.cells #[.int .i64 k] 3)).drew) (gr3.block kb (Nat.lt_of_lt_of_le K2.out.lt (by simp)) (fun e => own_neB FD.out.own1 ((K2.out.alloc _).drew) (by decide) e.symm)))
           have K3 := Lib.hid (show w3.cell? ⟨sb, 0, none⟩ = some (.slice A3 (q + l.count) c3) ∧ w3.cell? ⟨kb, 0, none⟩ = some (.int .i64 k) from ⟨hsb3, KB3.out.cell 0⟩)
           have hkne : kb ≠ sb := fun e => K2.out.ne_ F2.out.blk (by decide) e
           have K4 := Lib.hid (show (w3.setCell ⟨sb, 0, none⟩ (.slice A5 (q + l.count + 1) c5)).cell? ⟨kb, 0, none⟩ = some (.int .i64 k) from (KB3.out.far hkne _).cell 0)
           clear own3 gr3 ob3 FD))
    all_goals
      have F4 := Lib.hid P3.out.1
      have B4 := Lib.hid (B2.out.trans ((Fills.trans (Fills.start sb w2 A3 A4 (.cells #[.int .i64 k] 3)) P3.out.2.1).below F2.out B2.out.size))
      have FS4 := Lib.hid (FS2.out.trans (Fills.trans (Fills.start sb w2 A3 A4 (.cells #[.int .i64 k] 3)) P3.out.2.1))
      have K5 := Lib.hid (KB3.out.far (p := ⟨sb, 0, none⟩) hkne (.slice A5 (q + l.count + 1) c5))
      clear P3 hsb3 hsf3 SB3 KB3 K3 K4 hsA hkA hs0 hs1 hsf hk0 hk1 F2 K2 B2 FS2
      generalize w3.setCell ⟨sb, 0, none⟩ (.slice A5 (q + l.count + 1) c5) = w4 at *
      have hs1 : w4.cell? ⟨sb, 1, none⟩ = some (.slice A4 (q + l.count) c4) := F4.out.blk.cell 1
      have hsf := F4.out.blk.frozen 1
      have hk1 : w4.cell? ⟨kb, 1, none⟩ = some (.int .i64 v) := K5.out.cell 1
      have hsA : (w4.alloc (.cells #[.int .i64 v] 3)).cell? ⟨sb, 1, none⟩ = some (.slice A4 (q + l.count) c4) := (F4.out.blk.alloc _).cell 1
      have hkA : (w4.alloc (.cells #[.int .i64 v] 3)).cell? ⟨kb, 1, none⟩ = some (.int .i64 v) := (K5.out.alloc _).cell 1
      go_wp2_with fail
    all_goals
      go_region_law
        (first
        | (have FD := Lib.hid (Fill.drew (F4.out.alloc (.cells #[.int .i64 v] 3)))
           refine step_app (t := 31) (e := 3) (z := .int .i64 0) (size := 1) (bytes := 8) Try.underlying31 int_info rfl (by omega) rfl (.tmp 70) (.tmp 73) rfl w0.heap.size (.slice A4 (q + l.count) c4) (q + l.count) (intRow (vs ++ l.kvs.map Prod.snd)) rfl FD.out.own2 (some ⟨w4.heap.size, 0, none⟩) 1 1 (intRow [v]) rfl (src_blk (Blk.drew (Blk.new _ _ _)) rfl) (intRow_one _) (by omega) (by omega) (by have := B4.out.size; simp; omega) ?_
           intro v1 w5 own5 gr5 ob5
           rw [← intRow_append] at own5
           obtain ⟨A6, c6, rfl, _, _⟩ := own_slice own5
           have P5 := Lib.hid (FD.out.push2 v own5 gr5 ob5)
           have SB5 := Lib.hid (Blk.same FD.out.blk (gr5.block sb FD.out.blk.lt (fun e => own_neB FD.out.own2 FD.out.blk (by decide) e.symm)))
           have hsb5 := SB5.out.cell 1
           have hsf5 := SB5.out.frozen 1
           have KB5 := Lib.hid (Blk.same ((K5.out.alloc (.cells #[.int .i64 v] 3)).drew) (gr5.block kb (Nat.lt_of_lt_of_le K5.out.lt (by simp)) (fun e => own_neB FD.out.own2 ((K5.out.alloc _).drew) (by decide) e.symm)))
           clear own5 gr5 ob5 FD))
    all_goals
      have F6 := Lib.hid P5.out.1
      have B6 := Lib.hid (B4.out.trans ((Fills.trans (Fills.start sb w4 A5 A4 (.cells #[.int .i64 v] 3)) P5.out.2.1).below F4.out B4.out.size))
      have FS6 := Lib.hid (FS4.out.trans (Fills.trans (Fills.start sb w4 A5 A4 (.cells #[.int .i64 v] 3)) P5.out.2.1))
      have K6 := Lib.hid (KB5.out.far (p := ⟨sb, 1, none⟩) hkne (.slice A6 (q + l.count + 1) c6))
      clear P5 hsb5 hsf5 SB5 KB5 hsA hkA hs1 hsf hk1 F4 K5 B4 FS4
      generalize w5.setCell ⟨sb, 1, none⟩ (.slice A6 (q + l.count + 1) c6) = w6 at *
      have hk4 : w6.cell? ⟨kb, 4, none⟩ = some (.int .i64 ra) := K6.out.cell 4
      have KNm : kb ∉ sb :: (blks A5 ++ blks A6) := by
        intro hm
        rcases List.mem_cons.1 hm with e | e
        · exact hkne e
        · rcases List.mem_append.1 e with e | e
          · obtain ⟨a, ha, hae⟩ := mem_blks e
            exact own_neB F6.out.own1 K6.out (by decide) (by rw [ha]; simp [Value.ownBlock, hae])
          · obtain ⟨a, ha, hae⟩ := mem_blks e
            exact own_neB F6.out.own2 K6.out (by decide) (by rw [ha]; simp [Value.ownBlock, hae])
      go_wp2_with fail
      refine (HR.out ra m (left - 1) (ks ++ l.kvs.map Prod.fst ++ [k]) (vs ++ l.kvs.map Prod.snd ++ [v]) w6 A5 c5 A6 c6 (q + l.count + 1) s2 (by simp only [BT.height] at hl; omega) (by omega) B6.out F6.out (by omega)).mono ?_
      rintro e w7 ⟨rfl, A7, c7, A8, c8, f7, fs7⟩
      have hk5 : w7.cell? ⟨kb, 5, none⟩ = some (.int .i64 ((l.count : Int) + (r.count : Int) + 1)) := (K6.out.only fs7.on KNm).cell 5
      have F7 := Lib.hid f7
      have FS7 := Lib.hid (FS6.out.trans fs7)
      have hb1 := l.height_le
      have hb2 := r.height_le
      have hw3 : IntKind.i64.wrap ((l.count : Int) + r.count) = (l.count : Int) + r.count := IntWalk.i64_in _ (by omega)
      have hw4 : IntKind.i64.wrap ((l.count : Int) + r.count + 1) = (l.count : Int) + r.count + 1 := IntWalk.i64_in _ (by omega)
      have hw5 : IntKind.i64.wrap ((l.height : Int) + 1) = (l.height : Int) + 1 := IntWalk.i64_in _ (by omega)
      have hw6 : IntKind.i64.wrap ((r.height : Int) + 1) = (r.height : Int) + 1 := IntWalk.i64_in _ (by omega)
      have hn1 : ¬ ((l.height : Int) < 0) := by omega
      have hn2 : ¬ ((r.height : Int) < 0) := by omega
      clear f7 fs7 K6 KNm F6 B6 FS6 hk4 HR
      go_wp2_with fail
    all_goals
      go_ret2
      have e2 : ((BT.node i l k v b r).count : Int) = (l.count : Int) + r.count + 1 := by simp only [BT.count]; omega
      have e3 : q + (BT.node i l k v b r).count = q + l.count + 1 + r.count := by simp only [BT.count]; omega
      refine ⟨?_, A7, c7, A8, ⟨c8, ?_⟩, FS7.out⟩
      · first
        | (have e1 : ((BT.node i l k v b r).height : Int) = (r.height : Int) + 1 := by simp only [BT.height]; omega
           rw [e1, e2]; rfl)
        | (have e1 : ((BT.node i l k v b r).height : Int) = (l.height : Int) + 1 := by simp only [BT.height]; omega
           rw [e1, e2]; rfl)
      · rw [e3]
        simpa [BT.kvs] using F7.out
end Go.Proofs.Ytmhkknobgcdkkaa
