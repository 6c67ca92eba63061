/-
  The plain side: the nodes of a binary tree in order, the one ahead of and the one behind a node.
-/
import Derived.Test.YtpmikeeeocnfnaaPure
namespace Go.Proofs.Ytpmikeeeocnfnaa

theorem head_app {α : Type} {a b : List α} (h : a ≠ []) : (a ++ b).head? = a.head? := by
  cases a with
  | nil => exact absurd rfl h
  | cons x a => rfl
theorem last_app {α : Type} {a b : List α} (h : b ≠ []) : (a ++ b).getLast? = b.getLast? := by
  rw [List.getLast?_append]
  cases hb : b.getLast? with
  | none => exact absurd (List.getLast?_eq_none_iff.1 hb) h
  | some x => rfl

namespace BT
def ord : BT → List Nat
  | nil => []
  | node i l _ _ _ r => ord l ++ i :: ord r
theorem ord_length (t : BT) : t.ord.length = t.count := by
  induction t with
  | nil => rfl
  | node i l k v c r ihl ihr => simp [ord, count, ihl, ihr]; omega
theorem mem_ord {t : BT} {b : Nat} : b ∈ t.ord ↔ b ∈ t.ids := by
  induction t with
  | nil => simp [ord, ids]
  | node i l k v c r ihl ihr =>
    simp only [ord, ids, List.mem_append, List.mem_cons, ihl, ihr]
    constructor <;> intro h <;> rcases h with h | h | h <;> simp [h]
/-- The first node, and the last one. -/
def lo (t : BT) : Option Nat := t.ord.head?
def hi (t : BT) : Option Nat := t.ord.getLast?
theorem ord_ne {t : BT} (h : t ≠ nil) : t.ord ≠ [] := by
  cases t with
  | nil => exact absurd rfl h
  | node i l k v c r => simp [ord]
theorem lo_nil {i : Nat} {k v c : Int} {r : BT} : (node i nil k v c r).lo = some i := rfl
theorem lo_node {i : Nat} {k v c : Int} {l r : BT} (h : l ≠ nil) : (node i l k v c r).lo = l.lo := by
  unfold lo; rw [ord, head_app (ord_ne h)]
theorem hi_nil {i : Nat} {k v c : Int} {l : BT} : (node i l k v c nil).hi = some i := by
  unfold hi; simp [ord]
theorem hi_node {i : Nat} {k v c : Int} {l r : BT} (h : r ≠ nil) : (node i l k v c r).hi = r.hi := by
  unfold hi
  have hr := ord_ne h
  rw [ord, show l.ord ++ i :: r.ord = (l.ord ++ [i]) ++ r.ord by simp, last_app hr]
theorem lo_none {t : BT} (h : t = nil) : t.lo = none := by subst h; rfl
end BT

namespace Ctx
def ordL : Ctx → List Nat
  | [] => []
  | .lf _ _ _ _ _ :: c => ordL c
  | .rf i l _ _ _ :: c => ordL c ++ (l.ord ++ [i])
def ordR : Ctx → List Nat
  | [] => []
  | .lf i _ _ _ r :: c => i :: (r.ord ++ ordR c)
  | .rf _ _ _ _ _ :: c => ordR c
theorem ord_plug (c : Ctx) (t : BT) : (plug c t).ord = ordL c ++ (t.ord ++ ordR c) := by
  induction c generalizing t with
  | nil => simp [plug, ordL, ordR]
  | cons f c ih => cases f <;> simp [plug, ih, Fr.plug, BT.ord, ordL, ordR]
theorem ordL_length (c : Ctx) : (ordL c).length = (kvsL c).length := by
  induction c with
  | nil => rfl
  | cons f c ih => cases f <;> simp [ordL, kvsL, ih, BT.ord_length, BT.kvs_length]
/-- The first node above that the hole comes ahead of, or behind. -/
def upR : Ctx → Option Nat
  | [] => none
  | .lf i _ _ _ _ :: _ => some i
  | .rf _ _ _ _ _ :: c => upR c
def upL : Ctx → Option Nat
  | [] => none
  | .rf i _ _ _ _ :: _ => some i
  | .lf _ _ _ _ _ :: c => upL c
theorem upR_eq (c : Ctx) : upR c = (ordR c).head? := by
  induction c with
  | nil => rfl
  | cons f c ih => cases f <;> simp [upR, ordR, ih]
theorem upL_eq (c : Ctx) : upL c = (ordL c).getLast? := by
  induction c with
  | nil => rfl
  | cons f c ih => cases f <;> simp [upL, ordL, ih]
end Ctx

/-- The node behind one, and the one ahead of it. -/
def nextId (c : Ctx) (r : BT) : Option Nat := match r with
  | .nil => Ctx.upR c
  | .node i l k v b r => (BT.node i l k v b r).lo
def prevId (c : Ctx) (l : BT) : Option Nat := match l with
  | .nil => Ctx.upL c
  | .node i l k v b r => (BT.node i l k v b r).hi
theorem nextId_eq (c : Ctx) (r : BT) : nextId c r = (r.ord ++ Ctx.ordR c).head? := by
  cases r with
  | nil => exact Ctx.upR_eq c
  | node i l k v b r => simp only [nextId, BT.lo]; rw [head_app (by simp [BT.ord])]
theorem prevId_eq (c : Ctx) (l : BT) : prevId c l = (Ctx.ordL c ++ l.ord).getLast? := by
  cases l with
  | nil => simp [prevId, Ctx.upL_eq, BT.ord]
  | node i l k v b r =>
    simp only [prevId, BT.hi]
    rw [last_app (by simp [BT.ord])]

/-- The place that a node has in order, as a path. -/
theorem place_at {t : BT} {p : Nat} (hp : p < t.count) (c0 : Ctx) : ∃ c i l k v b r, Ctx.plug c (.node i l k v b r) = Ctx.plug c0 t ∧ (Ctx.ordL c ++ l.ord).length = (Ctx.ordL c0).length + p := by
  induction t generalizing c0 p with
  | nil => simp [BT.count] at hp
  | node i l k v b r ihl ihr =>
    simp only [BT.count] at hp
    rcases Nat.lt_trichotomy p l.count with h | h | h
    · obtain ⟨c, j, l', k', v', b', r', e, hn⟩ := ihl h (.lf i k v b r :: c0)
      exact ⟨c, j, l', k', v', b', r', e, hn⟩
    · exact ⟨c0, i, l, k, v, b, r, rfl, by rw [List.length_append, BT.ord_length, h]⟩
    · obtain ⟨c, j, l', k', v', b', r', e, hn⟩ := ihr (p := p - l.count - 1) (by omega) (.rf i l k v b :: c0)
      refine ⟨c, j, l', k', v', b', r', e, ?_⟩
      rw [hn]
      simp only [Ctx.ordL, List.length_append, BT.ord_length, List.length_cons, List.length_nil]
      omega
/-- What is told of a node at a place. -/
theorem at_place {t : BT} {p : Nat} {c : Ctx} {i : Nat} {l r : BT} {k v b : Int} (e : Ctx.plug c (.node i l k v b r) = t) (hn : (Ctx.ordL c ++ l.ord).length = p) :
    t.ord[p]? = some i ∧ t.kvs[p]? = some (k, v) ∧ nextId c r = t.ord[p + 1]? ∧ prevId c l = if p = 0 then none else t.ord[p - 1]? := by
  subst e hn
  have h1 : (Ctx.plug c (.node i l k v b r)).ord = (Ctx.ordL c ++ l.ord) ++ i :: (r.ord ++ Ctx.ordR c) := by rw [Ctx.ord_plug]; simp [BT.ord]
  have h2 : (Ctx.plug c (.node i l k v b r)).kvs = (Ctx.kvsL c ++ l.kvs) ++ (k, v) :: (r.kvs ++ Ctx.kvsR c) := by rw [Ctx.kvs_plug]; simp [BT.kvs]
  have h3 : (Ctx.kvsL c ++ l.kvs).length = (Ctx.ordL c ++ l.ord).length := by rw [List.length_append, List.length_append, BT.kvs_length, BT.ord_length, Ctx.ordL_length]
  refine ⟨?_, ?_, ?_, ?_⟩
  · rw [h1]; simp
  · rw [h2, ← h3]; simp
  · rw [h1, nextId_eq]
    rw [List.getElem?_append_right (by omega)]
    rw [show (Ctx.ordL c ++ l.ord).length + 1 - (Ctx.ordL c ++ l.ord).length = 1 from by omega]
    rw [List.getElem?_cons_succ, List.head?_eq_getElem?]
  · rw [h1, prevId_eq]
    generalize Ctx.ordL c ++ l.ord = x
    split
    · rename_i h0
      have : x = [] := List.length_eq_zero_iff.1 h0
      subst this; rfl
    · rw [List.getElem?_append_left (by omega), List.getLast?_eq_getElem?]
theorem lo_at (t : BT) : t.lo = t.ord[0]? := List.head?_eq_getElem?
theorem hi_at (t : BT) : t.hi = t.ord[t.ord.length - 1]? := List.getLast?_eq_getElem?

end Go.Proofs.Ytpmikeeeocnfnaa
