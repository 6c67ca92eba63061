/-
  The plain side: orders, the list of pairs that is the reference, and binary trees with numbered nodes, paths into them, and what they hold in order. No program is in sight here.
-/
namespace Go.Proofs.Ytpmikeeeocnfnaa

/-! Orders -/

structure Ord where
  kind : Int
  m : Int

/-- The number by which an order compares. -/
def Ord.rk (o : Ord) (a : Int) : Int := if o.kind = 1 then -a else if o.kind = 2 then a % o.m else a

/-- -1, 0 or 1. -/
def sg (x y : Int) : Int := if x < y then -1 else if y < x then 1 else 0

def Ord.cmp (o : Ord) (a b : Int) : Int := sg (o.rk a) (o.rk b)

def Ord.plain (o : Ord) : Prop := o.kind = 0 ∨ o.kind = 1
def Ord.fine (o : Ord) : Prop := o.kind = 0 ∨ o.kind = 1 ∨ (o.kind = 2 ∧ 1 ≤ o.m ∧ o.m ≤ 1000)

theorem sg_neg {x y : Int} : sg x y < 0 ↔ x < y := by unfold sg; split <;> (try split) <;> omega
theorem sg_pos {x y : Int} : 0 < sg x y ↔ y < x := by unfold sg; split <;> (try split) <;> omega
theorem sg_zero {x y : Int} : sg x y = 0 ↔ x = y := by unfold sg; split <;> (try split) <;> omega
theorem sg_bd (x y : Int) : -1 ≤ sg x y ∧ sg x y ≤ 1 := by unfold sg; split <;> (try split) <;> omega
theorem sg_cases (x y : Int) : (x < y ∧ sg x y = -1) ∨ (x = y ∧ sg x y = 0) ∨ (y < x ∧ sg x y = 1) := by unfold sg; split <;> (try split) <;> omega

/-! The reference: pairs in order -/

abbrev KV := List (Int × Int)

/-- A pair is put in. -/
def ins (o : Ord) (k v : Int) : KV → KV
  | [] => [(k, v)]
  | (a, x) :: l => if o.rk k < o.rk a then (k, v) :: (a, x) :: l else if o.rk k = o.rk a then (k, v) :: l else (a, x) :: ins o k v l

/-- A number is taken out. -/
def del (o : Ord) (k : Int) : KV → KV
  | [] => []
  | (a, x) :: l => if o.rk k < o.rk a then (a, x) :: l else if o.rk k = o.rk a then l else (a, x) :: del o k l

/-- The pair of a number. -/
def look (o : Ord) (k : Int) : KV → Option (Int × Int)
  | [] => none
  | (a, x) :: l => if o.rk k < o.rk a then none else if o.rk k = o.rk a then some (a, x) else look o k l

structure Do where
  op : Int
  key : Int
  val : Int

def step (o : Ord) (l : KV) (a : Do) : KV := if a.op = 1 then ins o a.key a.val l else if a.op = 2 then del o a.key l else if a.op = 3 then [] else l

def run (o : Ord) (acts : List Do) : KV := acts.foldl (step o) []

/-- In order, no two the same. -/
def Asc (o : Ord) (l : KV) : Prop := l.Pairwise fun x y => o.rk x.1 < o.rk y.1

theorem Asc.nil (o : Ord) : Asc o [] := List.Pairwise.nil

theorem mem_ins {o : Ord} {k v : Int} {l : KV} {p : Int × Int} (h : p ∈ ins o k v l) : p = (k, v) ∨ p ∈ l := by
  induction l with
  | nil => simp [ins] at h; exact .inl h
  | cons x l ih =>
    obtain ⟨a, y⟩ := x
    simp only [ins] at h
    split at h
    · simpa using h
    · split at h
      · simp at h; rcases h with h | h
        · exact .inl h
        · exact .inr (by simp [h])
      · simp at h; rcases h with h | h
        · exact .inr (by simp [h])
        · rcases ih h with h | h
          · exact .inl h
          · exact .inr (by simp [h])

theorem mem_del {o : Ord} {k : Int} {l : KV} {p : Int × Int} (h : p ∈ del o k l) : p ∈ l := by
  induction l with
  | nil => simp [del] at h
  | cons x l ih =>
    obtain ⟨a, y⟩ := x
    simp only [del] at h
    split at h
    · exact h
    · split at h
      · simp [h]
      · simp at h; rcases h with h | h
        · simp [h]
        · simp [ih h]

theorem Asc.ins {o : Ord} {k v : Int} {l : KV} (h : Asc o l) : Asc o (ins o k v l) := by
  induction l with
  | nil => simp [Go.Proofs.Ytpmikeeeocnfnaa.ins, Asc]
  | cons x l ih =>
    obtain ⟨a, y⟩ := x
    have h' := List.pairwise_cons.1 h
    simp only [Go.Proofs.Ytpmikeeeocnfnaa.ins]
    split
    · rename_i hlt
      refine List.pairwise_cons.2 ⟨fun p hp => ?_, h⟩
      rcases List.mem_cons.1 hp with rfl | hp
      · exact hlt
      · have := h'.1 p hp; simp only at this ⊢; omega
    · split
      · rename_i heq
        refine List.pairwise_cons.2 ⟨fun p hp => ?_, h'.2⟩
        have := h'.1 p hp; simp only at this ⊢; omega
      · refine List.pairwise_cons.2 ⟨fun p hp => ?_, ih h'.2⟩
        rcases mem_ins hp with rfl | hp
        · simp only; omega
        · exact h'.1 p hp

theorem Asc.del {o : Ord} {k : Int} {l : KV} (h : Asc o l) : Asc o (del o k l) := by
  induction l with
  | nil => simp [Go.Proofs.Ytpmikeeeocnfnaa.del, Asc]
  | cons x l ih =>
    obtain ⟨a, y⟩ := x
    have h' := List.pairwise_cons.1 h
    simp only [Go.Proofs.Ytpmikeeeocnfnaa.del]
    split
    · exact h
    · split
      · exact h'.2
      · exact List.pairwise_cons.2 ⟨fun p hp => h'.1 p (mem_del hp), ih h'.2⟩

theorem Asc.step {o : Ord} {l : KV} (h : Asc o l) (a : Do) : Asc o (step o l a) := by
  unfold Go.Proofs.Ytpmikeeeocnfnaa.step
  split
  · exact h.ins
  · split
    · exact h.del
    · split
      · exact Asc.nil o
      · exact h

theorem Asc.foldl {o : Ord} {l : KV} (h : Asc o l) (acts : List Do) : Asc o (acts.foldl (Go.Proofs.Ytpmikeeeocnfnaa.step o) l) := by
  induction acts generalizing l with
  | nil => exact h
  | cons a as ih => exact ih (h.step a)

theorem Asc.run (o : Ord) (acts : List Do) : Asc o (run o acts) := Asc.foldl (Asc.nil o) acts

/-- All of a list come ahead of a number, or behind it. -/
def Ahead (o : Ord) (l : KV) (k : Int) : Prop := ∀ p ∈ l, o.rk p.1 < o.rk k
def Behind (o : Ord) (l : KV) (k : Int) : Prop := ∀ p ∈ l, o.rk k < o.rk p.1

theorem asc_append {o : Ord} {l r : KV} : Asc o (l ++ r) ↔ Asc o l ∧ Asc o r ∧ ∀ p ∈ l, ∀ q ∈ r, o.rk p.1 < o.rk q.1 := List.pairwise_append
theorem asc_mid {o : Ord} {l r : KV} {k v : Int} : Asc o (l ++ (k, v) :: r) ↔ Asc o l ∧ Asc o r ∧ Ahead o l k ∧ Behind o r k := by
  rw [asc_append]
  constructor
  · rintro ⟨h1, h2, h3⟩
    have h2' := List.pairwise_cons.1 h2
    exact ⟨h1, h2'.2, fun p hp => h3 p hp (k, v) (by simp), fun p hp => h2'.1 p hp⟩
  · rintro ⟨h1, h2, h3, h4⟩
    refine ⟨h1, List.pairwise_cons.2 ⟨fun p hp => h4 p hp, h2⟩, fun p hp q hq => ?_⟩
    rcases List.mem_cons.1 hq with rfl | hq
    · exact h3 p hp
    · have := h3 p hp; have := h4 q hq; omega

theorem ins_ahead {o : Ord} {l r : KV} {k v : Int} (h : Ahead o l k) : ins o k v (l ++ r) = l ++ ins o k v r := by
  induction l with
  | nil => rfl
  | cons x l ih =>
    obtain ⟨a, y⟩ := x
    have hx := h (a, y) (by simp)
    simp only at hx
    rw [List.cons_append, ins, if_neg (by omega), if_neg (by omega), ih (fun p hp => h p (by simp [hp]))]
    rfl
theorem del_ahead {o : Ord} {l r : KV} {k : Int} (h : Ahead o l k) : del o k (l ++ r) = l ++ del o k r := by
  induction l with
  | nil => rfl
  | cons x l ih =>
    obtain ⟨a, y⟩ := x
    have hx := h (a, y) (by simp)
    simp only at hx
    rw [List.cons_append, del, if_neg (by omega), if_neg (by omega), ih (fun p hp => h p (by simp [hp]))]
    rfl
theorem look_ahead {o : Ord} {l r : KV} {k : Int} (h : Ahead o l k) : look o k (l ++ r) = look o k r := by
  induction l with
  | nil => rfl
  | cons x l ih =>
    obtain ⟨a, y⟩ := x
    have hx := h (a, y) (by simp)
    simp only at hx
    rw [List.cons_append, look, if_neg (by omega), if_neg (by omega), ih (fun p hp => h p (by simp [hp]))]

/-- Behind a pair that comes behind the number nothing turns. -/
theorem ins_behind {o : Ord} {l r : KV} {k v a x : Int} (h : o.rk k < o.rk a) : ins o k v (l ++ (a, x) :: r) = ins o k v l ++ (a, x) :: r := by
  induction l with
  | nil => simp [ins, h]
  | cons y l ih =>
    obtain ⟨b, z⟩ := y
    simp only [List.cons_append, ins]
    split
    · rfl
    · split
      · rfl
      · rw [ih]; rfl
theorem del_behind {o : Ord} {l r : KV} {k a x : Int} (h : o.rk k < o.rk a) : del o k (l ++ (a, x) :: r) = del o k l ++ (a, x) :: r := by
  induction l with
  | nil => simp [del, h]
  | cons y l ih =>
    obtain ⟨b, z⟩ := y
    simp only [List.cons_append, del]
    split
    · rfl
    · split
      · rfl
      · rw [ih]; rfl
theorem look_behind {o : Ord} {l r : KV} {k a x : Int} (h : o.rk k < o.rk a) : look o k (l ++ (a, x) :: r) = look o k l := by
  induction l with
  | nil => simp [look, h]
  | cons y l ih =>
    obtain ⟨b, z⟩ := y
    simp only [List.cons_append, look]
    split
    · rfl
    · split
      · rfl
      · rw [ih]
theorem ins_here {o : Ord} {l r : KV} {k v a x : Int} (hl : Ahead o l a) (h : o.rk k = o.rk a) : ins o k v (l ++ (a, x) :: r) = l ++ (k, v) :: r := by
  rw [ins_ahead (fun p hp => by rw [h]; exact hl p hp), ins, if_neg (by omega), if_pos h]
theorem del_here {o : Ord} {l r : KV} {k a x : Int} (hl : Ahead o l a) (h : o.rk k = o.rk a) : del o k (l ++ (a, x) :: r) = l ++ r := by
  rw [del_ahead (fun p hp => by rw [h]; exact hl p hp), del, if_neg (by omega), if_pos h]
theorem look_here {o : Ord} {l r : KV} {k a x : Int} (hl : Ahead o l a) (h : o.rk k = o.rk a) : look o k (l ++ (a, x) :: r) = some (a, x) := by
  rw [look_ahead (fun p hp => by rw [h]; exact hl p hp), look, if_neg (by omega), if_pos h]
theorem ins_right {o : Ord} {l r : KV} {k v a x : Int} (hl : Ahead o l a) (h : o.rk a < o.rk k) : ins o k v (l ++ (a, x) :: r) = l ++ (a, x) :: ins o k v r := by
  rw [ins_ahead (fun p hp => by have := hl p hp; omega), ins, if_neg (by omega), if_neg (by omega)]
theorem del_right {o : Ord} {l r : KV} {k a x : Int} (hl : Ahead o l a) (h : o.rk a < o.rk k) : del o k (l ++ (a, x) :: r) = l ++ (a, x) :: del o k r := by
  rw [del_ahead (fun p hp => by have := hl p hp; omega), del, if_neg (by omega), if_neg (by omega)]
theorem look_right {o : Ord} {l r : KV} {k a x : Int} (hl : Ahead o l a) (h : o.rk a < o.rk k) : look o k (l ++ (a, x) :: r) = look o k r := by
  rw [look_ahead (fun p hp => by have := hl p hp; omega), look, if_neg (by omega), if_neg (by omega)]

/-- How many there are, after a step. -/
theorem ins_length {o : Ord} {k v : Int} {l : KV} (h : Asc o l) : (ins o k v l).length = if (look o k l).isSome then l.length else l.length + 1 := by
  induction l with
  | nil => simp [ins, look]
  | cons x l ih =>
    obtain ⟨a, y⟩ := x
    simp only [ins, look]
    split
    · simp
    · split
      · simp
      · have := ih (List.pairwise_cons.1 h).2
        simp only [List.length_cons, this]; split <;> rfl
theorem del_length {o : Ord} {k : Int} {l : KV} : (del o k l).length = if (look o k l).isSome then l.length - 1 else l.length := by
  induction l with
  | nil => simp [del, look]
  | cons x l ih =>
    obtain ⟨a, y⟩ := x
    simp only [del, look]
    split
    · simp
    · split
      · simp
      · simp only [List.length_cons, ih]
        split
        · rename_i h
          cases l with
          | nil => simp [look] at h
          | cons z l => simp
        · rfl
theorem step_length_le {o : Ord} {l : KV} (h : Asc o l) (a : Do) : (step o l a).length ≤ l.length + 1 := by
  unfold step
  split
  · rw [ins_length h]; split <;> omega
  · split
    · rw [del_length]; split <;> omega
    · split <;> simp
theorem foldl_length_le {o : Ord} {l : KV} (h : Asc o l) (acts : List Do) : (acts.foldl (step o) l).length ≤ l.length + acts.length := by
  induction acts generalizing l with
  | nil => simp
  | cons a as ih =>
    have h1 := ih (h.step a)
    have h2 := step_length_le h a
    simp only [List.foldl_cons, List.length_cons]; omega
theorem foldl_take_succ (o : Ord) (l : KV) (acts : List Do) (k : Nat) (d : Do) (h : acts[k]? = some d) : (acts.take (k + 1)).foldl (step o) l = step o ((acts.take k).foldl (step o) l) d := by
  rw [List.take_add_one, h]; simp
theorem foldl_take_length (o : Ord) (l : KV) (hl : Asc o l) (acts : List Do) (k : Nat) : ((acts.take k).foldl (step o) l).length ≤ l.length + acts.length := by
  have h1 := foldl_length_le hl (acts.take k)
  have h2 : (acts.take k).length ≤ acts.length := List.length_take_le' _ _
  omega
theorem run_length_le (o : Ord) (acts : List Do) : (run o acts).length ≤ acts.length := by
  have := foldl_length_le (Asc.nil o) acts
  simpa [run] using this

/-! Binary trees whose nodes bear numbers (of blocks), and paths into them -/

inductive BT where
  | nil
  | node (i : Nat) (l : BT) (k v c : Int) (r : BT)

namespace BT
def root : BT → Option Nat
  | nil => none
  | node i _ _ _ _ _ => some i
def ids : BT → List Nat
  | nil => []
  | node i l _ _ _ r => i :: (ids l ++ ids r)
def kvs : BT → KV
  | nil => []
  | node _ l k v _ r => kvs l ++ (k, v) :: kvs r
def count : BT → Nat
  | nil => 0
  | node _ l _ _ _ r => count l + count r + 1
theorem kvs_length (t : BT) : t.kvs.length = t.count := by
  induction t with
  | nil => rfl
  | node i l k v c r ihl ihr => simp [kvs, count, ihl, ihr]; omega
theorem ids_length (t : BT) : t.ids.length = t.count := by
  induction t with
  | nil => rfl
  | node i l k v c r ihl ihr => simp [ids, count, ihl, ihr]
end BT

/-- A step of a path: the hole is on the left, or on the right. -/
inductive Fr where
  | lf (i : Nat) (k v c : Int) (r : BT)
  | rf (i : Nat) (l : BT) (k v c : Int)

namespace Fr
def id : Fr → Nat
  | lf i .. => i
  | rf i .. => i
def ids : Fr → List Nat
  | lf i _ _ _ r => i :: r.ids
  | rf i l _ _ _ => i :: l.ids
def plug : Fr → BT → BT
  | lf i k v c r, t => .node i t k v c r
  | rf i l k v c, t => .node i l k v c t
end Fr

abbrev Ctx := List Fr

namespace Ctx
def par : Ctx → Option Nat
  | [] => none
  | f :: _ => some f.id
def ids : Ctx → List Nat
  | [] => []
  | f :: c => f.ids ++ ids c
def plug : Ctx → BT → BT
  | [], t => t
  | f :: c, t => plug c (f.plug t)
/-- What comes ahead of the hole, and behind it. -/
def kvsL : Ctx → KV
  | [] => []
  | .lf _ _ _ _ _ :: c => kvsL c
  | .rf _ l k v _ :: c => kvsL c ++ (l.kvs ++ [(k, v)])
def kvsR : Ctx → KV
  | [] => []
  | .lf _ k v _ r :: c => (k, v) :: (r.kvs ++ kvsR c)
  | .rf _ _ _ _ _ :: c => kvsR c
theorem kvs_plug (c : Ctx) (t : BT) : (plug c t).kvs = kvsL c ++ (t.kvs ++ kvsR c) := by
  induction c generalizing t with
  | nil => simp [plug, kvsL, kvsR]
  | cons f c ih =>
    cases f <;> simp [plug, ih, Fr.plug, BT.kvs, kvsL, kvsR]
theorem ids_plug (c : Ctx) (t : BT) : (plug c t).ids.Perm (c.ids ++ t.ids) := by
  induction c generalizing t with
  | nil => exact List.Perm.refl _
  | cons f c ih =>
    refine (ih (f.plug t)).trans ?_
    cases f with
    | lf i k v cc r =>
      simp only [Fr.plug, BT.ids, ids, Fr.ids]
      have h1 : (Ctx.ids c ++ i :: (t.ids ++ r.ids)).Perm (i :: (Ctx.ids c ++ (t.ids ++ r.ids))) := List.perm_middle
      refine h1.trans ?_
      simp only [List.cons_append]
      refine List.Perm.cons i ?_
      have h2 : (Ctx.ids c ++ (t.ids ++ r.ids)).Perm ((t.ids ++ r.ids) ++ Ctx.ids c) := List.perm_append_comm
      refine h2.trans ?_
      have h3 : (t.ids ++ r.ids ++ Ctx.ids c) = t.ids ++ (r.ids ++ Ctx.ids c) := List.append_assoc _ _ _
      rw [h3]
      exact List.perm_append_comm
    | rf i l k v cc =>
      simp only [Fr.plug, BT.ids, ids, Fr.ids]
      have h1 : (Ctx.ids c ++ i :: (l.ids ++ t.ids)).Perm (i :: (Ctx.ids c ++ (l.ids ++ t.ids))) := List.perm_middle
      refine h1.trans ?_
      simp only [List.cons_append]
      refine List.Perm.cons i ?_
      rw [← List.append_assoc]
      refine List.Perm.append_right _ ?_
      exact List.perm_append_comm
end Ctx

end Go.Proofs.Ytpmikeeeocnfnaa
