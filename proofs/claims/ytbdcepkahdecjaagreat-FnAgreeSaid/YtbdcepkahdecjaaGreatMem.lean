import Derived.Test.YtbdcepkahdecjaaGreatPures
import Derived.Below
import Derived.Laws.NewBlocks
import Derived.Laws.Rows
import Derived.Deep.Draws
namespace Go.Proofs.YtbdcepkahdecjaaGreat
open Go.RowKit
structure Only (S : List Nat) (w w' : World) : Prop where
  os : w'.os = w.os
  tape : w'.tape = w.tape
  output : w'.output = w.output
  size : w.heap.size ≤ w'.heap.size
  block : ∀ b, b < w.heap.size → b ∉ S → w'.heap[b]? = w.heap[b]?
section
variable {S S' : List Nat} {u v w w' : World}
theorem Only.refl (S : List Nat) (w : World) : Only S w w := ⟨rfl, rfl, rfl, Nat.le_refl _, fun _ _ _ => rfl⟩
theorem Only.trans (h : Only S u v) (k : Only S v w) : Only S u w :=
  ⟨k.os.trans h.os, k.tape.trans h.tape, k.output.trans h.output, Nat.le_trans h.size k.size, fun b hb hs => (k.block b (Nat.lt_of_lt_of_le hb h.size) hs).trans (h.block b hb hs)⟩
theorem Only.mono (h : Only S w w') (hs : ∀ b, b < w.heap.size → b ∈ S → b ∈ S') : Only S' w w' :=
  ⟨h.os, h.tape, h.output, h.size, fun b hb hn => h.block b hb (fun hm => hn (hs b hb hm))⟩
theorem Only.drew (h : Only S u w) : Only S u w.drew := ⟨h.os, h.tape, h.output, h.size, h.block⟩
theorem Only.alloc (h : Only S u w) (o : Obj) : Only S u (w.alloc o) :=
  ⟨h.os, h.tape, h.output, Nat.le_trans h.size (by simp), fun b hb hs => (Below.heap_alloc w o b (Nat.lt_of_lt_of_le hb h.size)).trans (h.block b hb hs)⟩
theorem Only.setCell (h : Only S u w) {p : Addr} (hp : p.block ∈ S ∨ u.heap.size ≤ p.block) (x : Value) : Only S u (w.setCell p x) :=
  ⟨h.os, h.tape, h.output, by simpa [World.setCell] using h.size, fun b hb hs => (Below.heap_setCell w p x b (by
    rintro rfl
    rcases hp with hp | hp
    · exact hs hp
    · omega)).trans (h.block b hb hs)⟩
theorem Only.below {B : Nat} (h : Only S w w') (hs : ∀ b ∈ S, B ≤ b) (hB : B ≤ w.heap.size) : Below B w w' :=
  ⟨h.os, h.tape, h.output, h.size, fun b hb => h.block b (by omega) (fun hm => by have := hs b hm; omega)⟩
theorem Only.trans' (h : Only S u v) (k : Only S' v w) (hs : ∀ b, b < u.heap.size → b ∈ S' → b ∈ S) : Only S u w :=
  ⟨k.os.trans h.os, k.tape.trans h.tape, k.output.trans h.output, Nat.le_trans h.size k.size, fun b hb hn => (k.block b (Nat.lt_of_lt_of_le hb h.size) (fun hm => hn (hs b hb hm))).trans (h.block b hb hn)⟩
theorem Only.drewN (h : Only S u w) (n : Nat) : Only S u (w.drewN n) := ⟨h.os, h.tape, h.output, h.size, h.block⟩
theorem Only.of_below (h : Below w.heap.size w w') : Only S w w' := ⟨h.os, h.tape, h.output, h.size, fun b hb _ => h.block b hb⟩
end
def Blk (w : World) (g : Nat) (t : TypeId) (cs : Array Value) : Prop := w.heap[g]? = some (.cells cs t (0, 0))
section
variable {w w' : World} {g : Nat} {t : TypeId} {cs : Array Value}
theorem Blk.lt (h : Blk w g t cs) : g < w.heap.size := by
  rcases Nat.lt_or_ge g w.heap.size with hlt | hge
  · exact hlt
  · unfold Blk at h; rw [Array.getElem?_eq_none hge] at h; cases h
theorem Blk.cell (h : Blk w g t cs) (i : Nat) : w.cell? ⟨g, i, none⟩ = cs[i]? := cell_of_row w g i cs t (0, 0) h
theorem Blk.frozen (h : Blk w g t cs) (i : Nat) : w.frozen? ⟨g, i, none⟩ = false := by
  unfold Blk at h
  simp [World.frozen?, h]
theorem Blk.new (w : World) (t : TypeId) (cs : Array Value) : Blk (w.alloc (.cells cs t)) w.heap.size t cs := heap_alloc_new w _
theorem Blk.drew (h : Blk w g t cs) : Blk w.drew g t cs := h
theorem Blk.alloc (h : Blk w g t cs) (o : Obj) : Blk (w.alloc o) g t cs := (Below.heap_alloc w o g h.lt).trans h
theorem Blk.set_ (h : Blk w g t cs) (i : Nat) (u : Value) : Blk (w.setCell ⟨g, i, none⟩ u) g t (cs.setIfInBounds i u) := by
  unfold Blk at h ⊢
  simp [World.setCell, Array.getElem?_modify, h]
theorem Blk.far (h : Blk w g t cs) {p : Addr} (hp : g ≠ p.block) (u : Value) : Blk (w.setCell p u) g t cs := (Below.heap_setCell w p u g hp).trans h
theorem Blk.same (h : Blk w g t cs) (e : w'.heap[g]? = w.heap[g]?) : Blk w' g t cs := e.trans h
theorem Blk.below {B : Nat} (h : Blk w g t cs) (hb : Below B w w') (hg : g < B) : Blk w' g t cs := h.same (hb.block g hg)
theorem Blk.only {S : List Nat} (h : Blk w g t cs) (hb : Only S w w') (hg : g ∉ S) : Blk w' g t cs := h.same (hb.block g h.lt hg)
theorem Blk.ne_ {g' : Nat} {t' : TypeId} {cs' : Array Value} (h : Blk w g t cs) (h' : Blk w g' t' cs') (hne : t ≠ t') : g ≠ g' := by
  rintro rfl
  unfold Blk at h h'
  rw [h] at h'
  injection h' with h'
  injection h' with _ ht
  exact hne ht
end
abbrev ptr (o : Option Nat) : Value := .pointer (o.map fun n => ⟨n, 0, none⟩)
structure Lay where
  tn : TypeId
  tt : TypeId
  ti : TypeId
  avl : Bool
def Lay.cells (L : Lay) (k v c : Int) (p l r : Option Nat) : Array Value :=
  if L.avl then #[.iface L.ti (.int .i64 k), .iface L.ti (.int .i64 v), ptr p, ptr l, ptr r, .int .i8 c]
  else #[.iface L.ti (.int .i64 k), .iface L.ti (.int .i64 v), .bool (c == 1), ptr l, ptr r, ptr p]
structure Hd where
  tb : Nat
  cmp : Value
  size : Int
def Lay.head (L : Lay) (H : Hd) (root : Option Nat) : Array Value :=
  if L.avl then #[ptr root, H.cmp, .int .i64 H.size] else #[ptr root, .int .i64 H.size, H.cmp]
def Nd (L : Lay) (w : World) (i : Nat) (k v c : Int) (p l r : Option Nat) : Prop := Blk w i L.tn (L.cells k v c p l r)
def IsT (L : Lay) (w : World) : BT → Option Nat → Prop
  | .nil, _ => True
  | .node i l k v c r, p => Nd L w i k v c p l.root r.root ∧ IsT L w l (some i) ∧ IsT L w r (some i)
def IsC (L : Lay) (w : World) (H : Hd) : Ctx → Option Nat → Prop
  | [], h => Blk w H.tb L.tt (L.head H h)
  | .lf i k v cc r :: c, h => Nd L w i k v cc (Ctx.par c) h r.root ∧ IsT L w r (some i) ∧ IsC L w H c (some i)
  | .rf i l k v cc :: c, h => Nd L w i k v cc (Ctx.par c) l.root h ∧ IsT L w l (some i) ∧ IsC L w H c (some i)
section
variable {L : Lay} {w w' : World} {H : Hd}
theorem Nd.same {i : Nat} {k v c : Int} {p l r : Option Nat} (h : Nd L w i k v c p l r) (e : w'.heap[i]? = w.heap[i]?) : Nd L w' i k v c p l r := Blk.same h e
theorem Nd.drew {i : Nat} {k v c : Int} {p l r : Option Nat} (h : Nd L w i k v c p l r) : Nd L w.drew i k v c p l r := h
theorem Nd.lt {i : Nat} {k v c : Int} {p l r : Option Nat} (h : Nd L w i k v c p l r) : i < w.heap.size := Blk.lt h
theorem IsT.same {t : BT} {p : Option Nat} (h : IsT L w t p) (e : ∀ b ∈ t.ids, w'.heap[b]? = w.heap[b]?) : IsT L w' t p := by
  induction t generalizing p with
  | nil => trivial
  | node i l k v c r ihl ihr =>
    obtain ⟨h1, h2, h3⟩ := h
    exact ⟨h1.same (e i (by simp [BT.ids])), ihl h2 (fun b hb => e b (by simp [BT.ids, hb])), ihr h3 (fun b hb => e b (by simp [BT.ids, hb]))⟩
theorem IsC.same {c : Ctx} {h : Option Nat} (hc : IsC L w H c h) (e : ∀ b ∈ c.ids, w'.heap[b]? = w.heap[b]?) (e0 : w'.heap[H.tb]? = w.heap[H.tb]?) : IsC L w' H c h := by
  induction c generalizing h with
  | nil => exact Blk.same hc e0
  | cons f c ih =>
    cases f with
    | lf i k v cc r =>
      obtain ⟨h1, h2, h3⟩ := hc
      exact ⟨h1.same (e i (by simp [Ctx.ids, Fr.ids])), h2.same (fun b hb => e b (by simp [Ctx.ids, Fr.ids, hb])), ih h3 (fun b hb => e b (by simp [Ctx.ids, hb]))⟩
    | rf i l k v cc =>
      obtain ⟨h1, h2, h3⟩ := hc
      exact ⟨h1.same (e i (by simp [Ctx.ids, Fr.ids])), h2.same (fun b hb => e b (by simp [Ctx.ids, Fr.ids, hb])), ih h3 (fun b hb => e b (by simp [Ctx.ids, hb]))⟩
theorem IsT.lt {t : BT} {p : Option Nat} (h : IsT L w t p) : ∀ b ∈ t.ids, b < w.heap.size := by
  induction t generalizing p with
  | nil => intro b hb; simp [BT.ids] at hb
  | node i l k v c r ihl ihr =>
    obtain ⟨h1, h2, h3⟩ := h
    intro b hb
    simp only [BT.ids, List.mem_cons, List.mem_append] at hb
    rcases hb with rfl | hb | hb
    · exact h1.lt
    · exact ihl h2 b hb
    · exact ihr h3 b hb
theorem IsC.lt {c : Ctx} {h : Option Nat} (hc : IsC L w H c h) : H.tb < w.heap.size ∧ ∀ b ∈ c.ids, b < w.heap.size := by
  induction c generalizing h with
  | nil => exact ⟨Blk.lt hc, fun b hb => by simp [Ctx.ids] at hb⟩
  | cons f c ih =>
    cases f with
    | lf i k v cc r =>
      obtain ⟨h1, h2, h3⟩ := hc
      refine ⟨(ih h3).1, fun b hb => ?_⟩
      simp only [Ctx.ids, Fr.ids, List.mem_append, List.mem_cons] at hb
      rcases hb with (rfl | hb) | hb
      · exact h1.lt
      · exact h2.lt b hb
      · exact (ih h3).2 b hb
    | rf i l k v cc =>
      obtain ⟨h1, h2, h3⟩ := hc
      refine ⟨(ih h3).1, fun b hb => ?_⟩
      simp only [Ctx.ids, Fr.ids, List.mem_append, List.mem_cons] at hb
      rcases hb with (rfl | hb) | hb
      · exact h1.lt
      · exact h2.lt b hb
      · exact (ih h3).2 b hb
theorem IsT.far {t : BT} {p : Option Nat} (h : IsT L w t p) {a : Addr} (ha : a.block ∉ t.ids) (x : Value) : IsT L (w.setCell a x) t p :=
  h.same fun b hb => Below.heap_setCell w a x b (fun e => ha (e ▸ hb))
theorem IsT.drew {t : BT} {p : Option Nat} (h : IsT L w t p) : IsT L w.drew t p := h.same fun _ _ => rfl
theorem IsT.alloc {t : BT} {p : Option Nat} (h : IsT L w t p) (o : Obj) : IsT L (w.alloc o) t p := h.same fun b hb => Below.heap_alloc w o b (h.lt b hb)
theorem IsT.only {S : List Nat} {t : BT} {p : Option Nat} (h : IsT L w t p) (ho : Only S w w') (hd : ∀ b ∈ t.ids, b ∉ S) : IsT L w' t p :=
  h.same fun b hb => ho.block b (h.lt b hb) (hd b hb)
theorem IsT.below {B : Nat} {t : BT} {p : Option Nat} (h : IsT L w t p) (ho : Below B w w') (hd : ∀ b ∈ t.ids, b < B) : IsT L w' t p :=
  h.same fun b hb => ho.block b (hd b hb)
theorem IsC.far {c : Ctx} {h : Option Nat} (hc : IsC L w H c h) {a : Addr} (ha : a.block ∉ c.ids) (h0 : a.block ≠ H.tb) (x : Value) : IsC L (w.setCell a x) H c h :=
  hc.same (fun b hb => Below.heap_setCell w a x b (fun e => ha (e ▸ hb))) (Below.heap_setCell w a x _ (fun e => h0 e.symm))
theorem IsC.drew {c : Ctx} {h : Option Nat} (hc : IsC L w H c h) : IsC L w.drew H c h := hc.same (fun _ _ => rfl) rfl
theorem IsC.alloc {c : Ctx} {h : Option Nat} (hc : IsC L w H c h) (o : Obj) : IsC L (w.alloc o) H c h :=
  hc.same (fun b hb => Below.heap_alloc w o b (hc.lt.2 b hb)) (Below.heap_alloc w o _ hc.lt.1)
theorem IsC.only {S : List Nat} {c : Ctx} {h : Option Nat} (hc : IsC L w H c h) (ho : Only S w w') (hd : ∀ b ∈ c.ids, b ∉ S) (h0 : H.tb ∉ S) : IsC L w' H c h :=
  hc.same (fun b hb => ho.block b (hc.lt.2 b hb) (hd b hb)) (ho.block _ hc.lt.1 h0)
theorem IsC.below {B : Nat} {c : Ctx} {h : Option Nat} (hc : IsC L w H c h) (ho : Below B w w') (hd : ∀ b ∈ c.ids, b < B) (h0 : H.tb < B) : IsC L w' H c h :=
  hc.same (fun b hb => ho.block b (hd b hb)) (ho.block _ h0)
def slot (H : Hd) : Ctx → Addr
  | [] => ⟨H.tb, 0, none⟩
  | .lf i _ _ _ _ :: _ => ⟨i, 3, none⟩
  | .rf i _ _ _ _ :: _ => ⟨i, 4, none⟩
theorem Nd.cell {i : Nat} {k v c : Int} {p l r : Option Nat} (h : Nd L w i k v c p l r) (j : Nat) : w.cell? ⟨i, j, none⟩ = (L.cells k v c p l r)[j]? := Blk.cell h j
theorem Nd.frozen {i : Nat} {k v c : Int} {p l r : Option Nat} (h : Nd L w i k v c p l r) (j : Nat) : w.frozen? ⟨i, j, none⟩ = false := Blk.frozen h j
theorem Nd.cells_ {i : Nat} {k v c : Int} {p l r : Option Nat} (h : Nd L w i k v c p l r) :
    w.cell? ⟨i, 0, none⟩ = some (.iface L.ti (.int .i64 k)) ∧ w.cell? ⟨i, 1, none⟩ = some (.iface L.ti (.int .i64 v)) ∧ w.cell? ⟨i, 3, none⟩ = some (ptr l) ∧ w.cell? ⟨i, 4, none⟩ = some (ptr r) := by
  refine ⟨?_, ?_, ?_, ?_⟩ <;> (rw [h.cell]; unfold Lay.cells; split <;> rfl)
theorem Nd.setL {i : Nat} {k v c : Int} {p l r : Option Nat} (h : Nd L w i k v c p l r) (x : Option Nat) : Nd L (w.setCell ⟨i, 3, none⟩ (ptr x)) i k v c p x r := by
  have := Blk.set_ h 3 (ptr x)
  unfold Nd
  have e : L.cells k v c p x r = (L.cells k v c p l r).setIfInBounds 3 (ptr x) := by unfold Lay.cells; split <;> rfl
  rw [e]; exact this
theorem Nd.setR {i : Nat} {k v c : Int} {p l r : Option Nat} (h : Nd L w i k v c p l r) (x : Option Nat) : Nd L (w.setCell ⟨i, 4, none⟩ (ptr x)) i k v c p l x := by
  have := Blk.set_ h 4 (ptr x)
  unfold Nd
  have e : L.cells k v c p l x = (L.cells k v c p l r).setIfInBounds 4 (ptr x) := by unfold Lay.cells; split <;> rfl
  rw [e]; exact this
theorem Nd.setK {i : Nat} {k v c : Int} {p l r : Option Nat} (h : Nd L w i k v c p l r) (x : Int) : Nd L (w.setCell ⟨i, 0, none⟩ (.iface L.ti (.int .i64 x))) i x v c p l r := by
  have := Blk.set_ h 0 (.iface L.ti (.int .i64 x))
  unfold Nd
  have e : L.cells x v c p l r = (L.cells k v c p l r).setIfInBounds 0 (.iface L.ti (.int .i64 x)) := by unfold Lay.cells; split <;> rfl
  rw [e]; exact this
theorem Nd.setV {i : Nat} {k v c : Int} {p l r : Option Nat} (h : Nd L w i k v c p l r) (x : Int) : Nd L (w.setCell ⟨i, 1, none⟩ (.iface L.ti (.int .i64 x))) i k x c p l r := by
  have := Blk.set_ h 1 (.iface L.ti (.int .i64 x))
  unfold Nd
  have e : L.cells k x c p l r = (L.cells k v c p l r).setIfInBounds 1 (.iface L.ti (.int .i64 x)) := by unfold Lay.cells; split <;> rfl
  rw [e]; exact this
def Lay.op (L : Lay) : Nat := if L.avl then 2 else 5
def Lay.oc (L : Lay) : Nat := if L.avl then 5 else 2
def Lay.cv (L : Lay) (c : Int) : Value := if L.avl then .int .i8 c else .bool (c == 1)
theorem Nd.cellP {i : Nat} {k v c : Int} {p l r : Option Nat} (h : Nd L w i k v c p l r) : w.cell? ⟨i, L.op, none⟩ = some (ptr p) := by
  rw [h.cell]; unfold Lay.cells Lay.op; split <;> rfl
theorem Nd.cellC {i : Nat} {k v c : Int} {p l r : Option Nat} (h : Nd L w i k v c p l r) : w.cell? ⟨i, L.oc, none⟩ = some (L.cv c) := by
  rw [h.cell]; unfold Lay.cells Lay.oc Lay.cv; split <;> rfl
theorem Nd.setP {i : Nat} {k v c : Int} {p l r : Option Nat} (h : Nd L w i k v c p l r) (x : Option Nat) : Nd L (w.setCell ⟨i, L.op, none⟩ (ptr x)) i k v c x l r := by
  have := Blk.set_ h L.op (ptr x)
  unfold Nd
  have e : L.cells k v c x l r = (L.cells k v c p l r).setIfInBounds L.op (ptr x) := by unfold Lay.cells Lay.op; split <;> rfl
  rw [e]; exact this
theorem Nd.setC {i : Nat} {k v c : Int} {p l r : Option Nat} (h : Nd L w i k v c p l r) (x : Int) : Nd L (w.setCell ⟨i, L.oc, none⟩ (L.cv x)) i k v x p l r := by
  have := Blk.set_ h L.oc (L.cv x)
  unfold Nd
  have e : L.cells k v x p l r = (L.cells k v c p l r).setIfInBounds L.oc (L.cv x) := by unfold Lay.cells Lay.oc Lay.cv; split <;> rfl
  rw [e]; exact this
theorem Nd.far {i : Nat} {k v c : Int} {p l r : Option Nat} (h : Nd L w i k v c p l r) {a : Addr} (ha : i ≠ a.block) (x : Value) : Nd L (w.setCell a x) i k v c p l r := Blk.far h ha x
theorem head_root {h : Option Nat} : (L.head H h)[0]? = some (ptr h) := by unfold Lay.head; split <;> rfl
theorem IsC.slot_cell {c : Ctx} {h : Option Nat} (hc : IsC L w H c h) : w.cell? (slot H c) = some (ptr h) ∧ w.frozen? (slot H c) = false := by
  cases c with
  | nil => exact ⟨(Blk.cell hc 0).trans head_root, Blk.frozen hc 0⟩
  | cons f c =>
    cases f with
    | lf i k v cc r => exact ⟨(Nd.cells_ hc.1).2.2.1, hc.1.frozen 3⟩
    | rf i l k v cc => exact ⟨(Nd.cells_ hc.1).2.2.2, hc.1.frozen 4⟩
def allIds (H : Hd) (c : Ctx) (t : BT) : List Nat := H.tb :: (c.ids ++ t.ids)
theorem IsC.slot_set {c : Ctx} {h : Option Nat} (hc : IsC L w H c h) (hn : (H.tb :: c.ids).Nodup) (x : Option Nat) : IsC L (w.setCell (slot H c) (ptr x)) H c x := by
  cases c with
  | nil =>
    have := Blk.set_ hc 0 (ptr x)
    have e : L.head H x = (L.head H h).setIfInBounds 0 (ptr x) := by unfold Lay.head; split <;> rfl
    show Blk _ _ _ _
    rw [e]; exact this
  | cons f c =>
    cases f with
    | lf i k v cc r =>
      obtain ⟨h1, h2, h3⟩ := hc
      simp only [Ctx.ids, Fr.ids, List.nodup_cons, List.mem_append, List.mem_cons, List.cons_append, List.nodup_append] at hn
      exact ⟨h1.setL x, h2.far (by intro e; exact hn.2.1 (.inl e)) _, h3.far (by intro e; exact hn.2.1 (.inr e)) (by intro e; exact hn.1 (.inl e.symm)) _⟩
    | rf i l k v cc =>
      obtain ⟨h1, h2, h3⟩ := hc
      simp only [Ctx.ids, Fr.ids, List.nodup_cons, List.mem_append, List.mem_cons, List.cons_append, List.nodup_append] at hn
      exact ⟨h1.setR x, h2.far (by intro e; exact hn.2.1 (.inl e)) _, h3.far (by intro e; exact hn.2.1 (.inr e)) (by intro e; exact hn.1 (.inl e.symm)) _⟩
theorem slot_block (H : Hd) (c : Ctx) : (slot H c).block ∈ H.tb :: c.ids := by
  cases c with
  | nil => simp [slot]
  | cons f c => cases f <;> simp [slot, Ctx.ids, Fr.ids]
structure St (L : Lay) (w : World) (H : Hd) (c : Ctx) (t : BT) : Prop where
  hc : IsC L w H c t.root
  ht : IsT L w t c.par
  nd : (allIds H c t).Nodup
theorem St.lt {c : Ctx} {t : BT} (s : St L w H c t) : ∀ b ∈ allIds H c t, b < w.heap.size := by
  intro b hb
  simp only [allIds, List.mem_cons, List.mem_append] at hb
  rcases hb with rfl | hb | hb
  · exact s.hc.lt.1
  · exact s.hc.lt.2 b hb
  · exact s.ht.lt b hb
theorem St.same {c : Ctx} {t : BT} (s : St L w H c t) (e : ∀ b ∈ allIds H c t, w'.heap[b]? = w.heap[b]?) : St L w' H c t :=
  ⟨s.hc.same (fun b hb => e b (by simp [allIds, hb])) (e _ (by simp [allIds])), s.ht.same (fun b hb => e b (by simp [allIds, hb])), s.nd⟩
theorem St.drew {c : Ctx} {t : BT} (s : St L w H c t) : St L w.drew H c t := s.same fun _ _ => rfl
theorem St.drewN {c : Ctx} {t : BT} (s : St L w H c t) (n : Nat) : St L (w.drewN n) H c t := s.same fun _ _ => rfl
theorem St.alloc {c : Ctx} {t : BT} (s : St L w H c t) (o : Obj) : St L (w.alloc o) H c t := s.same fun b hb => Below.heap_alloc w o b (s.lt b hb)
theorem St.far {c : Ctx} {t : BT} (s : St L w H c t) {a : Addr} (ha : a.block ∉ allIds H c t) (x : Value) : St L (w.setCell a x) H c t :=
  s.same fun b hb => Below.heap_setCell w a x b (fun e => ha (e ▸ hb))
theorem St.below {B : Nat} {c : Ctx} {t : BT} (s : St L w H c t) (h : Below B w w') (hd : ∀ b ∈ allIds H c t, b < B) : St L w' H c t :=
  s.same fun b hb => h.block b (hd b hb)
theorem St.only {S : List Nat} {c : Ctx} {t : BT} (s : St L w H c t) (h : Only S w w') (hd : ∀ b ∈ allIds H c t, b ∉ S) : St L w' H c t :=
  s.same fun b hb => h.block b (s.lt b hb) (hd b hb)
theorem allIds_plug (H : Hd) (c : Ctx) (t : BT) : (allIds H [] (Ctx.plug c t)).Perm (allIds H c t) := by
  unfold allIds
  refine List.Perm.cons _ ?_
  simpa [Ctx.ids] using Ctx.ids_plug c t
theorem St.upL {c : Ctx} {i : Nat} {k v cc : Int} {l r : BT} (s : St L w H (.lf i k v cc r :: c) l) : St L w H c (.node i l k v cc r) := by
  obtain ⟨⟨h1, h2, h3⟩, h4, h5⟩ := s
  refine ⟨h3, ⟨h1, h4, h2⟩, ?_⟩
  refine List.Perm.nodup ?_ h5
  unfold allIds
  refine List.Perm.cons _ ?_
  exact ((Ctx.ids_plug (.lf i k v cc r :: c) l).symm).trans (Ctx.ids_plug c (.node i l k v cc r))
theorem St.upR {c : Ctx} {i : Nat} {k v cc : Int} {l r : BT} (s : St L w H (.rf i l k v cc :: c) r) : St L w H c (.node i l k v cc r) := by
  obtain ⟨⟨h1, h2, h3⟩, h4, h5⟩ := s
  refine ⟨h3, ⟨h1, h2, h4⟩, ?_⟩
  refine List.Perm.nodup ?_ h5
  unfold allIds
  refine List.Perm.cons _ ?_
  exact ((Ctx.ids_plug (.rf i l k v cc :: c) r).symm).trans (Ctx.ids_plug c (.node i l k v cc r))
theorem St.downL {c : Ctx} {i : Nat} {k v cc : Int} {l r : BT} (s : St L w H c (.node i l k v cc r)) : St L w H (.lf i k v cc r :: c) l := by
  obtain ⟨h3, ⟨h1, h4, h2⟩, h5⟩ := s
  refine ⟨⟨h1, h2, h3⟩, h4, ?_⟩
  refine List.Perm.nodup ?_ h5
  unfold allIds
  refine List.Perm.cons _ ?_
  exact ((Ctx.ids_plug c (.node i l k v cc r)).symm).trans (Ctx.ids_plug (.lf i k v cc r :: c) l)
theorem St.downR {c : Ctx} {i : Nat} {k v cc : Int} {l r : BT} (s : St L w H c (.node i l k v cc r)) : St L w H (.rf i l k v cc :: c) r := by
  obtain ⟨h3, ⟨h1, h2, h4⟩, h5⟩ := s
  refine ⟨⟨h1, h2, h3⟩, h4, ?_⟩
  refine List.Perm.nodup ?_ h5
  unfold allIds
  refine List.Perm.cons _ ?_
  exact ((Ctx.ids_plug c (.node i l k v cc r)).symm).trans (Ctx.ids_plug (.rf i l k v cc :: c) r)
theorem St.plug {c : Ctx} {t : BT} (s : St L w H c t) : St L w H [] (Ctx.plug c t) := by
  induction c generalizing t with
  | nil => exact s
  | cons f c ih =>
    cases f with
    | lf i k v cc r => exact ih s.upL
    | rf i l k v cc => exact ih s.upR
theorem slot_not_mem {c : Ctx} {t : BT} (h : (allIds H c t).Nodup) : (slot H c).block ∉ t.ids := by
  have hb := slot_block H c
  simp only [allIds, List.nodup_cons, List.mem_append, List.nodup_append, not_or] at h
  intro hm
  rcases List.mem_cons.1 hb with e | e
  · exact h.1.2 (e ▸ hm)
  · exact h.2.2.2 _ e _ hm rfl
theorem St.ndc {c : Ctx} {t : BT} (s : St L w H c t) : (H.tb :: c.ids).Nodup := by
  have h := s.nd
  simp only [allIds, List.nodup_cons, List.mem_append, List.nodup_append, not_or] at h ⊢
  exact ⟨h.1.1, h.2.1⟩
theorem St.ndt {c : Ctx} {t : BT} (s : St L w H c t) : t.ids.Nodup := by
  have h := s.nd
  simp only [allIds, List.nodup_cons, List.mem_append, List.nodup_append, not_or] at h ⊢
  exact h.2.2.1
theorem St.djc {c : Ctx} {t : BT} (s : St L w H c t) : H.tb ∉ t.ids ∧ ∀ b ∈ c.ids, b ∉ t.ids := by
  have h := s.nd
  simp only [allIds, List.nodup_cons, List.mem_append, List.nodup_append, not_or] at h
  exact ⟨h.1.2, fun b hb hm => h.2.2.2 b hb b hm rfl⟩
theorem St.reroot {w1 : World} {c : Ctx} {t t' : BT} (s : St L w H c t) (h1 : IsT L w1 t' c.par) (o : Only t.ids w w1) (hp : t'.ids.Perm t.ids) :
    St L (w1.setCell (slot H c) (ptr t'.root)) H c t' ∧ Only (allIds H c t) w (w1.setCell (slot H c) (ptr t'.root)) := by
  have hn : (allIds H c t').Nodup := by
    refine List.Perm.nodup ?_ s.nd
    exact List.Perm.cons _ (List.Perm.append_left _ hp.symm)
  have hc1 : IsC L w1 H c t.root := s.hc.only o s.djc.2 s.djc.1
  refine ⟨⟨hc1.slot_set s.ndc _, h1.far (slot_not_mem hn) _, hn⟩, ?_⟩
  refine Only.setCell (o.mono (fun b _ hb => by simp [allIds, hb])) (.inl ?_) _
  have := slot_block H c
  simp only [allIds, List.mem_cons, List.mem_append] at this ⊢
  rcases this with e | e
  · exact .inl e
  · exact .inr (.inl e)
theorem St.root_set {c : Ctx} {i : Nat} {l r : BT} {k v b : Int} (s : St L w H c (.node i l k v b r)) {k2 v2 x : Int} {j : Nat} {u : Value} (h : Nd L (w.setCell ⟨i, j, none⟩ u) i k2 v2 x c.par l.root r.root) :
    St L (w.setCell ⟨i, j, none⟩ u) H c (.node i l k2 v2 x r) ∧ Only (allIds H c (.node i l k v b r)) w (w.setCell ⟨i, j, none⟩ u) := by
  have hn := s.ndt
  simp only [BT.ids, List.nodup_cons, List.mem_append, not_or] at hn
  have hd := s.djc
  refine ⟨⟨?_, ⟨h, s.ht.2.1.far hn.1.1 _, s.ht.2.2.far hn.1.2 _⟩, s.nd⟩, ?_⟩
  · exact s.hc.far (fun hm => hd.2 _ hm (by simp [BT.ids])) (fun e => hd.1 (by simp [BT.ids, ← e])) _
  · exact (Only.refl _ _).setCell (.inl (by simp [allIds, BT.ids])) _
def Lay.os (L : Lay) : Nat := if L.avl then 2 else 1
def Lay.om (L : Lay) : Nat := if L.avl then 1 else 2
theorem IsC.head_ {c : Ctx} {h : Option Nat} (hc : IsC L w H c h) : ∃ rt, Blk w H.tb L.tt (L.head H rt) := by
  induction c generalizing h with
  | nil => exact ⟨h, hc⟩
  | cons f c ih => cases f <;> exact ih hc.2.2
theorem IsC.header {c : Ctx} {h : Option Nat} (hc : IsC L w H c h) : w.cell? ⟨H.tb, L.os, none⟩ = some (.int .i64 H.size) ∧ w.cell? ⟨H.tb, L.om, none⟩ = some H.cmp ∧ ∀ j, w.frozen? ⟨H.tb, j, none⟩ = false := by
  obtain ⟨rt, hb⟩ := hc.head_
  refine ⟨?_, ?_, hb.frozen⟩
  · rw [hb.cell]; unfold Lay.head Lay.os; split <;> rfl
  · rw [hb.cell]; unfold Lay.head Lay.om; split <;> rfl
theorem IsC.size_set {c : Ctx} {h : Option Nat} (hc : IsC L w H c h) (hn : (H.tb :: c.ids).Nodup) (n : Int) : IsC L (w.setCell ⟨H.tb, L.os, none⟩ (.int .i64 n)) { H with size := n } c h := by
  induction c generalizing h with
  | nil =>
    have := Blk.set_ hc L.os (.int .i64 n)
    have e : L.head { H with size := n } h = (L.head H h).setIfInBounds L.os (.int .i64 n) := by unfold Lay.head Lay.os; split <;> rfl
    show Blk _ _ _ _
    rw [e]; exact this
  | cons f c ih =>
    cases f with
    | lf i k v cc r =>
      obtain ⟨h1, h2, h3⟩ := hc
      have hn' := hn
      simp only [Ctx.ids, Fr.ids, List.nodup_cons, List.mem_append, List.mem_cons, List.cons_append, List.nodup_append, not_or] at hn'
      refine ⟨h1.far (fun e => hn'.1.1 e.symm) _, h2.far (fun e => hn'.1.2.1 e) _, ih h3 ?_⟩
      exact List.nodup_cons.2 ⟨hn'.1.2.2, hn'.2.2.2.1⟩
    | rf i l k v cc =>
      obtain ⟨h1, h2, h3⟩ := hc
      have hn' := hn
      simp only [Ctx.ids, Fr.ids, List.nodup_cons, List.mem_append, List.mem_cons, List.cons_append, List.nodup_append, not_or] at hn'
      refine ⟨h1.far (fun e => hn'.1.1 e.symm) _, h2.far (fun e => hn'.1.2.1 e) _, ih h3 ?_⟩
      exact List.nodup_cons.2 ⟨hn'.1.2.2, hn'.2.2.2.1⟩
theorem St.size_set {c : Ctx} {t : BT} (s : St L w H c t) (n : Int) : St L (w.setCell ⟨H.tb, L.os, none⟩ (.int .i64 n)) { H with size := n } c t ∧ Only (allIds H c t) w (w.setCell ⟨H.tb, L.os, none⟩ (.int .i64 n)) :=
  ⟨⟨s.hc.size_set s.ndc n, s.ht.far s.djc.1 _, s.nd⟩, (Only.refl _ _).setCell (.inl (by simp [allIds])) _⟩
theorem slot_size (H : Hd) (c : Ctx) (n : Int) : slot { H with size := n } c = slot H c := by
  cases c with
  | nil => rfl
  | cons f c => cases f <;> rfl
theorem St.plant {c : Ctx} (s : St L w H c .nil) (k v cc : Int) :
    St L ((w.alloc (.cells (L.cells k v cc c.par none none) L.tn)).setCell (slot H c) (ptr (some w.heap.size))) H c (.node w.heap.size .nil k v cc .nil) ∧
      Only (allIds H c .nil) w ((w.alloc (.cells (L.cells k v cc c.par none none) L.tn)).setCell (slot H c) (ptr (some w.heap.size))) := by
  have hlt := s.hc.lt
  have hsb := slot_block H c
  have hslt : (slot H c).block < w.heap.size := by
    rcases List.mem_cons.1 hsb with e | e
    · rw [e]; exact hlt.1
    · exact hlt.2 _ e
  refine ⟨⟨(s.hc.alloc _).slot_set s.ndc _, ⟨?_, trivial, trivial⟩, ?_⟩, ?_⟩
  · exact Blk.far (Blk.new w _ _) (by omega) _
  · have h := s.nd
    simp only [allIds, BT.ids, List.append_nil] at h
    simp only [allIds, BT.ids, List.append_nil]
    have hp : (H.tb :: (c.ids ++ [w.heap.size])).Perm (w.heap.size :: (H.tb :: c.ids)) := by
      refine (List.Perm.cons _ (List.perm_append_singleton _ _)).trans (List.Perm.swap _ _ _)
    refine hp.symm.nodup (List.nodup_cons.2 ⟨?_, h⟩)
    simp only [List.mem_cons, not_or]
    exact ⟨by omega, fun hm => by have := hlt.2 _ hm; omega⟩
  · refine ((Only.refl _ _).alloc _).setCell (.inl ?_) _
    simp only [allIds, List.mem_cons, List.mem_append] at hsb ⊢
    rcases hsb with e | e
    · exact .inl e
    · exact .inr (.inl e)
end
end Go.Proofs.YtbdcepkahdecjaaGreat
