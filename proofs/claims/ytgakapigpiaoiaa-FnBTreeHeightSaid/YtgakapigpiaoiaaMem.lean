import Derived.Test.YtgakapigpiaoiaaPures
import Derived.Below
import Derived.Laws.NewBlocks
import Derived.Laws.Rows
import Derived.Deep.Draws
namespace Go.Proofs.Ytgakapigpiaoiaa
open Go.RowKit
structure Only (S : List Nat) (w w' : World) : Prop where
  os : w'.os = w.os
  tape : w'.tape = w.tape
  output : w'.output = w.output
  size : w.heap.size ≤ w'.heap.size
  block : ∀ b, b < w.heap.size → b ∉ S → w'.heap[b]? = w.heap[b]?
section
variable {S S' : List Nat} {u v w w' : World}
theorem Only.refl (S : List Nat) (w : World) : Only S w w := ⟨rfl, rfl, rfl, Nat.le_refl _, fun _ _ _ => rfl⟩
theorem Only.trans (h : Only S u v) (k : Only S v w) : Only S u w :=
  ⟨k.os.trans h.os, k.tape.trans h.tape, k.output.trans h.output, Nat.le_trans h.size k.size, fun b hb hs => (k.block b (Nat.lt_of_lt_of_le hb h.size) hs).trans (h.block b hb hs)⟩
theorem Only.mono (h : Only S w w') (hs : ∀ b, b < w.heap.size → b ∈ S → b ∈ S') : Only S' w w' :=
  ⟨h.os, h.tape, h.output, h.size, fun b hb hn => h.block b hb (fun hm => hn (hs b hb hm))⟩
theorem Only.drew (h : Only S u w) : Only S u w.drew := ⟨h.os, h.tape, h.output, h.size, h.block⟩
theorem Only.alloc (h : Only S u w) (o : Obj) : Only S u (w.alloc o) :=
  ⟨h.os, h.tape, h.output, Nat.le_trans h.size (by simp), fun b hb hs => (Below.heap_alloc w o b (Nat.lt_of_lt_of_le hb h.size)).trans (h.block b hb hs)⟩
theorem Only.setCell (h : Only S u w) {p : Addr} (hp : p.block ∈ S ∨ u.heap.size ≤ p.block) (x : Value) : Only S u (w.setCell p x) :=
  ⟨h.os, h.tape, h.output, by simpa [World.setCell] using h.size, fun b hb hs => (Below.heap_setCell w p x b (by
    rintro rfl
    rcases hp with hp | hp
    · exact hs hp
    · omega)).trans (h.block b hb hs)⟩
theorem Only.below {B : Nat} (h : Only S w w') (hs : ∀ b ∈ S, B ≤ b) (hB : B ≤ w.heap.size) : Below B w w' :=
  ⟨h.os, h.tape, h.output, h.size, fun b hb => h.block b (by omega) (fun hm => by have := hs b hm; omega)⟩
theorem Only.trans' (h : Only S u v) (k : Only S' v w) (hs : ∀ b, b < u.heap.size → b ∈ S' → b ∈ S) : Only S u w :=
  ⟨k.os.trans h.os, k.tape.trans h.tape, k.output.trans h.output, Nat.le_trans h.size k.size, fun b hb hn => (k.block b (Nat.lt_of_lt_of_le hb h.size) (fun hm => hn (hs b hb hm))).trans (h.block b hb hn)⟩
theorem Only.drewN (h : Only S u w) (n : Nat) : Only S u (w.drewN n) := ⟨h.os, h.tape, h.output, h.size, h.block⟩
theorem Only.of_below (h : Below w.heap.size w w') : Only S w w' := ⟨h.os, h.tape, h.output, h.size, fun b hb _ => h.block b hb⟩
end
def Blk (w : World) (g : Nat) (t : TypeId) (cs : Array Value) : Prop := w.heap[g]? = some (.cells cs t (0, 0))
section
variable {w w' : World} {g : Nat} {t : TypeId} {cs : Array Value}
theorem Blk.lt (h : Blk w g t cs) : g < w.heap.size := by
  rcases Nat.lt_or_ge g w.heap.size with hlt | hge
  · exact hlt
  · unfold Blk at h; rw [Array.getElem?_eq_none hge] at h; cases h
theorem Blk.cell (h : Blk w g t cs) (i : Nat) : w.cell? ⟨g, i, none⟩ = cs[i]? := cell_of_row w g i cs t (0, 0) h
theorem Blk.frozen (h : Blk w g t cs) (i : Nat) : w.frozen? ⟨g, i, none⟩ = false := by
  unfold Blk at h
  simp [World.frozen?, h]
theorem Blk.new (w : World) (t : TypeId) (cs : Array Value) : Blk (w.alloc (.cells cs t)) w.heap.size t cs := heap_alloc_new w _
theorem Blk.drew (h : Blk w g t cs) : Blk w.drew g t cs := h
theorem Blk.alloc (h : Blk w g t cs) (o : Obj) : Blk (w.alloc o) g t cs := (Below.heap_alloc w o g h.lt).trans h
theorem Blk.set_ (h : Blk w g t cs) (i : Nat) (u : Value) : Blk (w.setCell ⟨g, i, none⟩ u) g t (cs.setIfInBounds i u) := by
  unfold Blk at h ⊢
  simp [World.setCell, Array.getElem?_modify, h]
theorem Blk.far (h : Blk w g t cs) {p : Addr} (hp : g ≠ p.block) (u : Value) : Blk (w.setCell p u) g t cs := (Below.heap_setCell w p u g hp).trans h
theorem Blk.same (h : Blk w g t cs) (e : w'.heap[g]? = w.heap[g]?) : Blk w' g t cs := e.trans h
theorem Blk.below {B : Nat} (h : Blk w g t cs) (hb : Below B w w') (hg : g < B) : Blk w' g t cs := h.same (hb.block g hg)
theorem Blk.only {S : List Nat} (h : Blk w g t cs) (hb : Only S w w') (hg : g ∉ S) : Blk w' g t cs := h.same (hb.block g h.lt hg)
theorem Blk.ne_ {g' : Nat} {t' : TypeId} {cs' : Array Value} (h : Blk w g t cs) (h' : Blk w g' t' cs') (hne : t ≠ t') : g ≠ g' := by
  rintro rfl
  unfold Blk at h h'
  rw [h] at h'
  injection h' with h'
  injection h' with _ ht
  exact hne ht
end
abbrev ptr (o : Option Nat) : Value := .pointer (o.map fun n => ⟨n, 0, none⟩)
structure Lay where
  tn : TypeId
  tt : TypeId
  ti : TypeId
  avl : Bool
def Lay.cells (L : Lay) (k v c : Int) (p l r : Option Nat) : Array Value :=
  if L.avl then #[.iface L.ti (.int .i64 k), .iface L.ti (.int .i64 v), ptr p, ptr l, ptr r, .int .i8 c]
  else #[.iface L.ti (.int .i64 k), .iface L.ti (.int .i64 v), .bool (c == 1), ptr l, ptr r, ptr p]
structure Hd where
  tb : Nat
  cmp : Value
  size : Int
def Lay.head (L : Lay) (H : Hd) (root : Option Nat) : Array Value :=
  if L.avl then #[ptr root, H.cmp, .int .i64 H.size] else #[ptr root, .int .i64 H.size, H.cmp]
def Nd (L : Lay) (w : World) (i : Nat) (k v c : Int) (p l r : Option Nat) : Prop := Blk w i L.tn (L.cells k v c p l r)
def IsT (L : Lay) (w : World) : BT → Option Nat → Prop
  | .nil, _ => True
  | .node i l k v c r, p => Nd L w i k v c p l.root r.root ∧ IsT L w l (some i) ∧ IsT L w r (some i)
def IsC (L : Lay) (w : World) (H : Hd) : Ctx → Option Nat → Prop
  | [], h => Blk w H.tb L.tt (L.head H h)
  | .lf i k v cc r :: c, h => Nd L w i k v cc (Ctx.par c) h r.root ∧ IsT L w r (some i) ∧ IsC L w H c (some i)
  | .rf i l k v cc :: c, h => Nd L w i k v cc (Ctx.par c) l.root h ∧ IsT L w l (some i) ∧ IsC L w H c (some i)
section
variable {L : Lay} {w w' : World} {H : Hd}
theorem Nd.same {i : Nat} {k v c : Int} {p l r : Option Nat} (h : Nd L w i k v c p l r) (e : w'.heap[i]? = w.heap[i]?) : Nd L w' i k v c p l r := Blk.same h e
theorem Nd.drew {i : Nat} {k v c : Int} {p l r : Option Nat} (h : Nd L w i k v c p l r) : Nd L w.drew i k v c p l r := h
theorem Nd.lt {i : Nat} {k v c : Int} {p l r : Option Nat} (h : Nd L w i k v c p l r) : i < w.heap.size := Blk.lt h
theorem IsT.same {t : BT} {p : Option Nat} (h : IsT L w t p) (e : ∀ b ∈ t.ids, w'.heap[b]? = w.heap[b]?) : IsT L w' t p := by
  induction t generalizing p with
  | nil => trivial
  | node i l k v c r ihl ihr =>
    obtain ⟨h1, h2, h3⟩ := h
    exact ⟨h1.same (e i (by simp [BT.ids])), ihl h2 (fun b hb => e b (by simp [BT.ids, hb])), ihr h3 (fun b hb => e b (by simp [BT.ids, hb]))⟩
theorem IsC.same {c : Ctx} {h : Option Nat} (hc : IsC L w H c h) (e : ∀ b ∈ c.ids, w'.heap[b]? = w.heap[b]?) (e0 : w'.heap[H.tb]? = w.heap[H.tb]?) : IsC L w' H c h := by
  induction c generalizing h with
  | nil => exact Blk.same hc e0
  | cons f c ih =>
    cases f with
    | lf i k v cc r =>
      obtain ⟨h1, h2, h3⟩ := hc
      exact ⟨h1.same (e i (by simp [Ctx.ids, Fr.ids])), h2.same (fun b hb => e b (by simp [Ctx.ids, Fr.ids, hb])), ih h3 (fun b hb => e b (by simp [Ctx.ids, hb]))⟩
    | rf i l k v cc =>
      obtain ⟨h1, h2, h3⟩ := hc
      exact ⟨h1.same (e i (by simp [Ctx.ids, Fr.ids])), h2.same (fun b hb => e b (by simp [Ctx.ids, Fr.ids, hb])), ih h3 (fun b hb => e b (by simp [Ctx.ids, hb]))⟩
theorem IsT.lt {t : BT} {p : Option Nat} (h : IsT L w t p) : ∀ b ∈ t.ids, b < w.heap.size := by
  induction t generalizing p with
  | nil => intro b hb; simp [BT.ids] at hb
  | node i l k v c r ihl ihr =>
    obtain ⟨h1, h2, h3⟩ := h
    intro b hb
    simp only [BT.ids, List.mem_cons, List.mem_append] at hb
    rcases hb with rfl | hb | hb
    · exact h1.lt
    · exact ihl h2 b hb
    · exact ihr h3 b hb
theorem IsC.lt {c : Ctx} {h : Option Nat} (hc : IsC L w H c h) : H.tb < w.heap.size ∧ ∀ b ∈ c.ids, b < w.heap.size := by
  induction c generalizing h with
  | nil => exact ⟨Blk.lt hc, fun b hb => by simp [Ctx.ids] at hb⟩
  | cons f c ih =>
    cases f with
    | lf i k v cc r =>
      obtain ⟨h1, h2, h3⟩ := hc
      refine ⟨(ih h3).1, fun b hb => ?_⟩
      simp only [Ctx.ids, Fr.ids, List.mem_append, List.mem_cons] at hb
      rcases hb with (rfl | hb) | hb
      · exact h1.lt
      · exact h2.lt b hb
      · exact (ih h3).2 b hb
    | rf i l k v cc =>
      obtain ⟨h1, h2, h3⟩ := hc
      refine ⟨(ih h3).1, fun b hb => ?_⟩
      simp only [Ctx.ids, Fr.ids, List.mem_append, List.mem_cons] at hb
      rcases hb with (rfl | hb) | hb
      · exact h1.lt
      · exact h2.lt b hb
      · exact (ih h3).2 b hb
theorem IsT.far {t : BT} {p : Option Nat} (h : IsT L w t p) {a : Addr} (ha : a.block ∉ t.ids) (x : Value) : IsT L (w.setCell a x) t p :=
  h.same fun b hb => Below.heap_setCell w a x b (fun e => ha (e ▸ hb))
theorem IsT.drew {t : BT} {p : Option Nat} (h : IsT L w t p) : IsT L w.drew t p := h.same fun _ _ => rfl
theorem IsT.alloc {t : BT} {p : Option Nat} (h : IsT L w t p) (o : Obj) : IsT L (w.alloc o) t p := h.same fun b hb => Below.heap_alloc w o b (h.lt b hb)
theorem IsT.only {S : List Nat} {t : BT} {p : Option Nat} (h : IsT L w t p) (ho : Only S w w') (hd : ∀ b ∈ t.ids, b ∉ S) : IsT L w' t p :=
  h.same fun b hb => ho.block b (h.lt b hb) (hd b hb)
theorem IsT.below {B : Nat} {t : BT} {p : Option Nat} (h : IsT L w t p) (ho : Below B w w') (hd : ∀ b ∈ t.ids, b < B) : IsT L w' t p :=
  h.same fun b hb => ho.block b (hd b hb)
theorem IsC.far {c : Ctx} {h : Option Nat} (hc : IsC L w H c h) {a : Addr} (ha : a.block ∉ c.ids) (h0 : a.block ≠ H.tb) (x : Value) : IsC L (w.setCell a x) H c h :=
  hc.same (fun b hb => Below.heap_setCell w a x b (fun e => ha (e ▸ hb))) (Below.heap_setCell w a x _ (fun e => h0 e.symm))
theorem IsC.drew {c : Ctx} {h : Option Nat} (hc : IsC L w H c h) : IsC L w.drew H c h := hc.same (fun _ _ => rfl) rfl
theorem IsC.alloc {c : Ctx} {h : Option Nat} (hc : IsC L w H c h) (o : Obj) : IsC L (w.alloc o) H c h :=
  hc.same (fun b hb => Below.heap_alloc w o b (hc.lt.2 b hb)) (Below.heap_alloc w o _ hc.lt.1)
theorem IsC.only {S : List Nat} {c : Ctx} {h : Option Nat} (hc : IsC L w H c h) (ho : Only S w w') (hd : ∀ b ∈ c.ids, b ∉ S) (h0 : H.tb ∉ S) : IsC L w' H c h :=
  hc.same (fun b hb => ho.block b (hc.lt.2 b hb) (hd b hb)) (ho.block _ hc.lt.1 h0)
theorem IsC.below {B : Nat} {c : Ctx} {h : Option Nat} (hc : IsC L w H c h) (ho : Below B w w') (hd : ∀ b ∈ c.ids, b < B) (h0 : H.tb < B) : IsC L w' H c h :=
  hc.same (fun b hb => ho.block b (hd b hb)) (ho.block _ h0)
theorem Nd.cell {i : Nat} {k v c : Int} {p l r : Option Nat} (h : Nd L w i k v c p l r) (j : Nat) : w.cell? ⟨i, j, none⟩ = (L.cells k v c p l r)[j]? := Blk.cell h j
theorem Nd.frozen {i : Nat} {k v c : Int} {p l r : Option Nat} (h : Nd L w i k v c p l r) (j : Nat) : w.frozen? ⟨i, j, none⟩ = false := Blk.frozen h j
def Lay.op (L : Lay) : Nat := if L.avl then 2 else 5
def Lay.cv (L : Lay) (c : Int) : Value := if L.avl then .int .i8 c else .bool (c == 1)
theorem Nd.far {i : Nat} {k v c : Int} {p l r : Option Nat} (h : Nd L w i k v c p l r) {a : Addr} (ha : i ≠ a.block) (x : Value) : Nd L (w.setCell a x) i k v c p l r := Blk.far h ha x
def allIds (H : Hd) (c : Ctx) (t : BT) : List Nat := H.tb :: (c.ids ++ t.ids)
structure St (L : Lay) (w : World) (H : Hd) (c : Ctx) (t : BT) : Prop where
  hc : IsC L w H c t.root
  ht : IsT L w t c.par
  nd : (allIds H c t).Nodup
theorem St.lt {c : Ctx} {t : BT} (s : St L w H c t) : ∀ b ∈ allIds H c t, b < w.heap.size := by
  intro b hb
  simp only [allIds, List.mem_cons, List.mem_append] at hb
  rcases hb with rfl | hb | hb
  · exact s.hc.lt.1
  · exact s.hc.lt.2 b hb
  · exact s.ht.lt b hb
theorem St.same {c : Ctx} {t : BT} (s : St L w H c t) (e : ∀ b ∈ allIds H c t, w'.heap[b]? = w.heap[b]?) : St L w' H c t :=
  ⟨s.hc.same (fun b hb => e b (by simp [allIds, hb])) (e _ (by simp [allIds])), s.ht.same (fun b hb => e b (by simp [allIds, hb])), s.nd⟩
theorem St.drew {c : Ctx} {t : BT} (s : St L w H c t) : St L w.drew H c t := s.same fun _ _ => rfl
theorem St.drewN {c : Ctx} {t : BT} (s : St L w H c t) (n : Nat) : St L (w.drewN n) H c t := s.same fun _ _ => rfl
theorem St.alloc {c : Ctx} {t : BT} (s : St L w H c t) (o : Obj) : St L (w.alloc o) H c t := s.same fun b hb => Below.heap_alloc w o b (s.lt b hb)
theorem St.far {c : Ctx} {t : BT} (s : St L w H c t) {a : Addr} (ha : a.block ∉ allIds H c t) (x : Value) : St L (w.setCell a x) H c t :=
  s.same fun b hb => Below.heap_setCell w a x b (fun e => ha (e ▸ hb))
theorem St.below {B : Nat} {c : Ctx} {t : BT} (s : St L w H c t) (h : Below B w w') (hd : ∀ b ∈ allIds H c t, b < B) : St L w' H c t :=
  s.same fun b hb => h.block b (hd b hb)
theorem St.only {S : List Nat} {c : Ctx} {t : BT} (s : St L w H c t) (h : Only S w w') (hd : ∀ b ∈ allIds H c t, b ∉ S) : St L w' H c t :=
  s.same fun b hb => h.block b (s.lt b hb) (hd b hb)
theorem St.upL {c : Ctx} {i : Nat} {k v cc : Int} {l r : BT} (s : St L w H (.lf i k v cc r :: c) l) : St L w H c (.node i l k v cc r) := by
  obtain ⟨⟨h1, h2, h3⟩, h4, h5⟩ := s
  refine ⟨h3, ⟨h1, h4, h2⟩, ?_⟩
  refine List.Perm.nodup ?_ h5
  unfold allIds
  refine List.Perm.cons _ ?_
  exact ((Ctx.ids_plug (.lf i k v cc r :: c) l).symm).trans (Ctx.ids_plug c (.node i l k v cc r))
theorem St.upR {c : Ctx} {i : Nat} {k v cc : Int} {l r : BT} (s : St L w H (.rf i l k v cc :: c) r) : St L w H c (.node i l k v cc r) := by
  obtain ⟨⟨h1, h2, h3⟩, h4, h5⟩ := s
  refine ⟨h3, ⟨h1, h2, h4⟩, ?_⟩
  refine List.Perm.nodup ?_ h5
  unfold allIds
  refine List.Perm.cons _ ?_
  exact ((Ctx.ids_plug (.rf i l k v cc :: c) r).symm).trans (Ctx.ids_plug c (.node i l k v cc r))
theorem St.plug {c : Ctx} {t : BT} (s : St L w H c t) : St L w H [] (Ctx.plug c t) := by
  induction c generalizing t with
  | nil => exact s
  | cons f c ih =>
    cases f with
    | lf i k v cc r => exact ih s.upL
    | rf i l k v cc => exact ih s.upR
def Lay.os (L : Lay) : Nat := if L.avl then 2 else 1
end
end Go.Proofs.Ytgakapigpiaoiaa
