/-
  Several texts as one (Pure, Look, ListPure, MovePure, Seek, InOrd, ShapePure): each says its own in its remarks.
-/

namespace Go.Proofs.Ytpkgmgebhnhhjaa

/-! Orders -/

structure Ord where
  kind : Int
  m : Int

/-- The number by which an order compares. -/
def Ord.rk (o : Ord) (a : Int) : Int := if o.kind = 1 then -a else if o.kind = 2 then a % o.m else a

/-- -1, 0 or 1. -/
def sg (x y : Int) : Int := if x < y then -1 else if y < x then 1 else 0

def Ord.cmp (o : Ord) (a b : Int) : Int := sg (o.rk a) (o.rk b)

def Ord.plain (o : Ord) : Prop := o.kind = 0 ∨ o.kind = 1
def Ord.fine (o : Ord) : Prop := o.kind = 0 ∨ o.kind = 1 ∨ (o.kind = 2 ∧ 1 ≤ o.m ∧ o.m ≤ 1000)

theorem sg_neg {x y : Int} : sg x y < 0 ↔ x < y := by unfold sg; split <;> (try split) <;> omega
theorem sg_pos {x y : Int} : 0 < sg x y ↔ y < x := by unfold sg; split <;> (try split) <;> omega
theorem sg_zero {x y : Int} : sg x y = 0 ↔ x = y := by unfold sg; split <;> (try split) <;> omega
theorem sg_bd (x y : Int) : -1 ≤ sg x y ∧ sg x y ≤ 1 := by unfold sg; split <;> (try split) <;> omega
theorem sg_cases (x y : Int) : (x < y ∧ sg x y = -1) ∨ (x = y ∧ sg x y = 0) ∨ (y < x ∧ sg x y = 1) := by unfold sg; split <;> (try split) <;> omega

/-! The reference: pairs in order -/

abbrev KV := List (Int × Int)

/-- A pair is put in. -/
def ins (o : Ord) (k v : Int) : KV → KV
  | [] => [(k, v)]
  | (a, x) :: l => if o.rk k < o.rk a then (k, v) :: (a, x) :: l else if o.rk k = o.rk a then (k, v) :: l else (a, x) :: ins o k v l

/-- A number is taken out. -/
def del (o : Ord) (k : Int) : KV → KV
  | [] => []
  | (a, x) :: l => if o.rk k < o.rk a then (a, x) :: l else if o.rk k = o.rk a then l else (a, x) :: del o k l

/-- The pair of a number. -/
def look (o : Ord) (k : Int) : KV → Option (Int × Int)
  | [] => none
  | (a, x) :: l => if o.rk k < o.rk a then none else if o.rk k = o.rk a then some (a, x) else look o k l

structure Do where
  op : Int
  key : Int
  val : Int

def step (o : Ord) (l : KV) (a : Do) : KV := if a.op = 1 then ins o a.key a.val l else if a.op = 2 then del o a.key l else if a.op = 3 then [] else l

def run (o : Ord) (acts : List Do) : KV := acts.foldl (step o) []

/-- In order, no two the same. -/
def Asc (o : Ord) (l : KV) : Prop := l.Pairwise fun x y => o.rk x.1 < o.rk y.1

theorem Asc.nil (o : Ord) : Asc o [] := List.Pairwise.nil

theorem mem_ins {o : Ord} {k v : Int} {l : KV} {p : Int × Int} (h : p ∈ ins o k v l) : p = (k, v) ∨ p ∈ l := by
  induction l with
  | nil => simp [ins] at h; exact .inl h
  | cons x l ih =>
    obtain ⟨a, y⟩ := x
    simp only [ins] at h
    split at h
    · simpa using h
    · split at h
      · simp at h; rcases h with h | h
        · exact .inl h
        · exact .inr (by simp [h])
      · simp at h; rcases h with h | h
        · exact .inr (by simp [h])
        · rcases ih h with h | h
          · exact .inl h
          · exact .inr (by simp [h])

theorem mem_del {o : Ord} {k : Int} {l : KV} {p : Int × Int} (h : p ∈ del o k l) : p ∈ l := by
  induction l with
  | nil => simp [del] at h
  | cons x l ih =>
    obtain ⟨a, y⟩ := x
    simp only [del] at h
    split at h
    · exact h
    · split at h
      · simp [h]
      · simp at h; rcases h with h | h
        · simp [h]
        · simp [ih h]

theorem Asc.ins {o : Ord} {k v : Int} {l : KV} (h : Asc o l) : Asc o (ins o k v l) := by
  induction l with
  | nil => simp [Go.Proofs.Ytpkgmgebhnhhjaa.ins, Asc]
  | cons x l ih =>
    obtain ⟨a, y⟩ := x
    have h' := List.pairwise_cons.1 h
    simp only [Go.Proofs.Ytpkgmgebhnhhjaa.ins]
    split
    · rename_i hlt
      refine List.pairwise_cons.2 ⟨fun p hp => ?_, h⟩
      rcases List.mem_cons.1 hp with rfl | hp
      · exact hlt
      · have := h'.1 p hp; simp only at this ⊢; omega
    · split
      · rename_i heq
        refine List.pairwise_cons.2 ⟨fun p hp => ?_, h'.2⟩
        have := h'.1 p hp; simp only at this ⊢; omega
      · refine List.pairwise_cons.2 ⟨fun p hp => ?_, ih h'.2⟩
        rcases mem_ins hp with rfl | hp
        · simp only; omega
        · exact h'.1 p hp

theorem Asc.del {o : Ord} {k : Int} {l : KV} (h : Asc o l) : Asc o (del o k l) := by
  induction l with
  | nil => simp [Go.Proofs.Ytpkgmgebhnhhjaa.del, Asc]
  | cons x l ih =>
    obtain ⟨a, y⟩ := x
    have h' := List.pairwise_cons.1 h
    simp only [Go.Proofs.Ytpkgmgebhnhhjaa.del]
    split
    · exact h
    · split
      · exact h'.2
      · exact List.pairwise_cons.2 ⟨fun p hp => h'.1 p (mem_del hp), ih h'.2⟩

theorem Asc.step {o : Ord} {l : KV} (h : Asc o l) (a : Do) : Asc o (step o l a) := by
  unfold Go.Proofs.Ytpkgmgebhnhhjaa.step
  split
  · exact h.ins
  · split
    · exact h.del
    · split
      · exact Asc.nil o
      · exact h

theorem Asc.foldl {o : Ord} {l : KV} (h : Asc o l) (acts : List Do) : Asc o (acts.foldl (Go.Proofs.Ytpkgmgebhnhhjaa.step o) l) := by
  induction acts generalizing l with
  | nil => exact h
  | cons a as ih => exact ih (h.step a)

theorem Asc.run (o : Ord) (acts : List Do) : Asc o (run o acts) := Asc.foldl (Asc.nil o) acts

/-- All of a list come ahead of a number, or behind it. -/
def Ahead (o : Ord) (l : KV) (k : Int) : Prop := ∀ p ∈ l, o.rk p.1 < o.rk k
def Behind (o : Ord) (l : KV) (k : Int) : Prop := ∀ p ∈ l, o.rk k < o.rk p.1

theorem asc_append {o : Ord} {l r : KV} : Asc o (l ++ r) ↔ Asc o l ∧ Asc o r ∧ ∀ p ∈ l, ∀ q ∈ r, o.rk p.1 < o.rk q.1 := List.pairwise_append
theorem asc_mid {o : Ord} {l r : KV} {k v : Int} : Asc o (l ++ (k, v) :: r) ↔ Asc o l ∧ Asc o r ∧ Ahead o l k ∧ Behind o r k := by
  rw [asc_append]
  constructor
  · rintro ⟨h1, h2, h3⟩
    have h2' := List.pairwise_cons.1 h2
    exact ⟨h1, h2'.2, fun p hp => h3 p hp (k, v) (by simp), fun p hp => h2'.1 p hp⟩
  · rintro ⟨h1, h2, h3, h4⟩
    refine ⟨h1, List.pairwise_cons.2 ⟨fun p hp => h4 p hp, h2⟩, fun p hp q hq => ?_⟩
    rcases List.mem_cons.1 hq with rfl | hq
    · exact h3 p hp
    · have := h3 p hp; have := h4 q hq; omega

theorem ins_ahead {o : Ord} {l r : KV} {k v : Int} (h : Ahead o l k) : ins o k v (l ++ r) = l ++ ins o k v r := by
  induction l with
  | nil => rfl
  | cons x l ih =>
    obtain ⟨a, y⟩ := x
    have hx := h (a, y) (by simp)
    simp only at hx
    rw [List.cons_append, ins, if_neg (by omega), if_neg (by omega), ih (fun p hp => h p (by simp [hp]))]
    rfl
theorem del_ahead {o : Ord} {l r : KV} {k : Int} (h : Ahead o l k) : del o k (l ++ r) = l ++ del o k r := by
  induction l with
  | nil => rfl
  | cons x l ih =>
    obtain ⟨a, y⟩ := x
    have hx := h (a, y) (by simp)
    simp only at hx
    rw [List.cons_append, del, if_neg (by omega), if_neg (by omega), ih (fun p hp => h p (by simp [hp]))]
    rfl
theorem look_ahead {o : Ord} {l r : KV} {k : Int} (h : Ahead o l k) : look o k (l ++ r) = look o k r := by
  induction l with
  | nil => rfl
  | cons x l ih =>
    obtain ⟨a, y⟩ := x
    have hx := h (a, y) (by simp)
    simp only at hx
    rw [List.cons_append, look, if_neg (by omega), if_neg (by omega), ih (fun p hp => h p (by simp [hp]))]

/-- Behind a pair that comes behind the number nothing turns. -/
theorem ins_behind {o : Ord} {l r : KV} {k v a x : Int} (h : o.rk k < o.rk a) : ins o k v (l ++ (a, x) :: r) = ins o k v l ++ (a, x) :: r := by
  induction l with
  | nil => simp [ins, h]
  | cons y l ih =>
    obtain ⟨b, z⟩ := y
    simp only [List.cons_append, ins]
    split
    · rfl
    · split
      · rfl
      · rw [ih]; rfl
theorem del_behind {o : Ord} {l r : KV} {k a x : Int} (h : o.rk k < o.rk a) : del o k (l ++ (a, x) :: r) = del o k l ++ (a, x) :: r := by
  induction l with
  | nil => simp [del, h]
  | cons y l ih =>
    obtain ⟨b, z⟩ := y
    simp only [List.cons_append, del]
    split
    · rfl
    · split
      · rfl
      · rw [ih]; rfl
theorem look_behind {o : Ord} {l r : KV} {k a x : Int} (h : o.rk k < o.rk a) : look o k (l ++ (a, x) :: r) = look o k l := by
  induction l with
  | nil => simp [look, h]
  | cons y l ih =>
    obtain ⟨b, z⟩ := y
    simp only [List.cons_append, look]
    split
    · rfl
    · split
      · rfl
      · rw [ih]
theorem ins_here {o : Ord} {l r : KV} {k v a x : Int} (hl : Ahead o l a) (h : o.rk k = o.rk a) : ins o k v (l ++ (a, x) :: r) = l ++ (k, v) :: r := by
  rw [ins_ahead (fun p hp => by rw [h]; exact hl p hp), ins, if_neg (by omega), if_pos h]
theorem del_here {o : Ord} {l r : KV} {k a x : Int} (hl : Ahead o l a) (h : o.rk k = o.rk a) : del o k (l ++ (a, x) :: r) = l ++ r := by
  rw [del_ahead (fun p hp => by rw [h]; exact hl p hp), del, if_neg (by omega), if_pos h]
theorem look_here {o : Ord} {l r : KV} {k a x : Int} (hl : Ahead o l a) (h : o.rk k = o.rk a) : look o k (l ++ (a, x) :: r) = some (a, x) := by
  rw [look_ahead (fun p hp => by rw [h]; exact hl p hp), look, if_neg (by omega), if_pos h]
theorem ins_right {o : Ord} {l r : KV} {k v a x : Int} (hl : Ahead o l a) (h : o.rk a < o.rk k) : ins o k v (l ++ (a, x) :: r) = l ++ (a, x) :: ins o k v r := by
  rw [ins_ahead (fun p hp => by have := hl p hp; omega), ins, if_neg (by omega), if_neg (by omega)]
theorem del_right {o : Ord} {l r : KV} {k a x : Int} (hl : Ahead o l a) (h : o.rk a < o.rk k) : del o k (l ++ (a, x) :: r) = l ++ (a, x) :: del o k r := by
  rw [del_ahead (fun p hp => by have := hl p hp; omega), del, if_neg (by omega), if_neg (by omega)]
theorem look_right {o : Ord} {l r : KV} {k a x : Int} (hl : Ahead o l a) (h : o.rk a < o.rk k) : look o k (l ++ (a, x) :: r) = look o k r := by
  rw [look_ahead (fun p hp => by have := hl p hp; omega), look, if_neg (by omega), if_neg (by omega)]

/-- How many there are, after a step. -/
theorem ins_length {o : Ord} {k v : Int} {l : KV} (h : Asc o l) : (ins o k v l).length = if (look o k l).isSome then l.length else l.length + 1 := by
  induction l with
  | nil => simp [ins, look]
  | cons x l ih =>
    obtain ⟨a, y⟩ := x
    simp only [ins, look]
    split
    · simp
    · split
      · simp
      · have := ih (List.pairwise_cons.1 h).2
        simp only [List.length_cons, this]; split <;> rfl
theorem del_length {o : Ord} {k : Int} {l : KV} : (del o k l).length = if (look o k l).isSome then l.length - 1 else l.length := by
  induction l with
  | nil => simp [del, look]
  | cons x l ih =>
    obtain ⟨a, y⟩ := x
    simp only [del, look]
    split
    · simp
    · split
      · simp
      · simp only [List.length_cons, ih]
        split
        · rename_i h
          cases l with
          | nil => simp [look] at h
          | cons z l => simp
        · rfl
theorem step_length_le {o : Ord} {l : KV} (h : Asc o l) (a : Do) : (step o l a).length ≤ l.length + 1 := by
  unfold step
  split
  · rw [ins_length h]; split <;> omega
  · split
    · rw [del_length]; split <;> omega
    · split <;> simp
theorem foldl_length_le {o : Ord} {l : KV} (h : Asc o l) (acts : List Do) : (acts.foldl (step o) l).length ≤ l.length + acts.length := by
  induction acts generalizing l with
  | nil => simp
  | cons a as ih =>
    have h1 := ih (h.step a)
    have h2 := step_length_le h a
    simp only [List.foldl_cons, List.length_cons]; omega
theorem foldl_take_succ (o : Ord) (l : KV) (acts : List Do) (k : Nat) (d : Do) (h : acts[k]? = some d) : (acts.take (k + 1)).foldl (step o) l = step o ((acts.take k).foldl (step o) l) d := by
  rw [List.take_add_one, h]; simp
theorem foldl_take_length (o : Ord) (l : KV) (hl : Asc o l) (acts : List Do) (k : Nat) : ((acts.take k).foldl (step o) l).length ≤ l.length + acts.length := by
  have h1 := foldl_length_le hl (acts.take k)
  have h2 : (acts.take k).length ≤ acts.length := List.length_take_le' _ _
  omega
theorem run_length_le (o : Ord) (acts : List Do) : (run o acts).length ≤ acts.length := by
  have := foldl_length_le (Asc.nil o) acts
  simpa [run] using this

/-! Binary trees whose nodes bear numbers (of blocks), and paths into them -/

inductive BT where
  | nil
  | node (i : Nat) (l : BT) (k v c : Int) (r : BT)

namespace BT
def root : BT → Option Nat
  | nil => none
  | node i _ _ _ _ _ => some i
def ids : BT → List Nat
  | nil => []
  | node i l _ _ _ r => i :: (ids l ++ ids r)
def kvs : BT → KV
  | nil => []
  | node _ l k v _ r => kvs l ++ (k, v) :: kvs r
def count : BT → Nat
  | nil => 0
  | node _ l _ _ _ r => count l + count r + 1
theorem kvs_length (t : BT) : t.kvs.length = t.count := by
  induction t with
  | nil => rfl
  | node i l k v c r ihl ihr => simp [kvs, count, ihl, ihr]; omega
theorem ids_length (t : BT) : t.ids.length = t.count := by
  induction t with
  | nil => rfl
  | node i l k v c r ihl ihr => simp [ids, count, ihl, ihr]
end BT

/-- A step of a path: the hole is on the left, or on the right. -/
inductive Fr where
  | lf (i : Nat) (k v c : Int) (r : BT)
  | rf (i : Nat) (l : BT) (k v c : Int)

namespace Fr
def id : Fr → Nat
  | lf i .. => i
  | rf i .. => i
def ids : Fr → List Nat
  | lf i _ _ _ r => i :: r.ids
  | rf i l _ _ _ => i :: l.ids
def plug : Fr → BT → BT
  | lf i k v c r, t => .node i t k v c r
  | rf i l k v c, t => .node i l k v c t
end Fr

abbrev Ctx := List Fr

namespace Ctx
def par : Ctx → Option Nat
  | [] => none
  | f :: _ => some f.id
def ids : Ctx → List Nat
  | [] => []
  | f :: c => f.ids ++ ids c
def plug : Ctx → BT → BT
  | [], t => t
  | f :: c, t => plug c (f.plug t)
/-- What comes ahead of the hole, and behind it. -/
def kvsL : Ctx → KV
  | [] => []
  | .lf _ _ _ _ _ :: c => kvsL c
  | .rf _ l k v _ :: c => kvsL c ++ (l.kvs ++ [(k, v)])
def kvsR : Ctx → KV
  | [] => []
  | .lf _ k v _ r :: c => (k, v) :: (r.kvs ++ kvsR c)
  | .rf _ _ _ _ _ :: c => kvsR c
theorem kvs_plug (c : Ctx) (t : BT) : (plug c t).kvs = kvsL c ++ (t.kvs ++ kvsR c) := by
  induction c generalizing t with
  | nil => simp [plug, kvsL, kvsR]
  | cons f c ih =>
    cases f <;> simp [plug, ih, Fr.plug, BT.kvs, kvsL, kvsR]
theorem ids_plug (c : Ctx) (t : BT) : (plug c t).ids.Perm (c.ids ++ t.ids) := by
  induction c generalizing t with
  | nil => exact List.Perm.refl _
  | cons f c ih =>
    refine (ih (f.plug t)).trans ?_
    cases f with
    | lf i k v cc r =>
      simp only [Fr.plug, BT.ids, ids, Fr.ids]
      have h1 : (Ctx.ids c ++ i :: (t.ids ++ r.ids)).Perm (i :: (Ctx.ids c ++ (t.ids ++ r.ids))) := List.perm_middle
      refine h1.trans ?_
      simp only [List.cons_append]
      refine List.Perm.cons i ?_
      have h2 : (Ctx.ids c ++ (t.ids ++ r.ids)).Perm ((t.ids ++ r.ids) ++ Ctx.ids c) := List.perm_append_comm
      refine h2.trans ?_
      have h3 : (t.ids ++ r.ids ++ Ctx.ids c) = t.ids ++ (r.ids ++ Ctx.ids c) := List.append_assoc _ _ _
      rw [h3]
      exact List.perm_append_comm
    | rf i l k v cc =>
      simp only [Fr.plug, BT.ids, ids, Fr.ids]
      have h1 : (Ctx.ids c ++ i :: (l.ids ++ t.ids)).Perm (i :: (Ctx.ids c ++ (l.ids ++ t.ids))) := List.perm_middle
      refine h1.trans ?_
      simp only [List.cons_append]
      refine List.Perm.cons i ?_
      rw [← List.append_assoc]
      refine List.Perm.append_right _ ?_
      exact List.perm_append_comm
end Ctx

end Go.Proofs.Ytpkgmgebhnhhjaa

namespace Go.Proofs.Ytpkgmgebhnhhjaa

theorem look_none_of_behind {o : Ord} {k : Int} {l : KV} (h : Behind o l k) : look o k l = none := by
  cases l with
  | nil => rfl
  | cons x l =>
    obtain ⟨a, y⟩ := x
    have := h (a, y) (by simp)
    simp only at this
    rw [look, if_pos this]
theorem look_ins_same {o : Ord} {k v : Int} {l : KV} : look o k (ins o k v l) = some (k, v) := by
  induction l with
  | nil => simp [ins, look]
  | cons x l ih =>
    obtain ⟨a, y⟩ := x
    simp only [ins]
    split
    · simp [look]
    · split
      · simp [look]
      · rw [look, if_neg (by omega), if_neg (by omega), ih]
theorem look_ins_other {o : Ord} {j k v : Int} {l : KV} (h : o.rk j ≠ o.rk k) : look o j (ins o k v l) = look o j l := by
  induction l with
  | nil => simp [ins, look, h]
  | cons x l ih =>
    obtain ⟨a, y⟩ := x
    simp only [ins]
    split
    · rename_i hlt
      rw [look]
      split
      · rw [look, if_pos (by omega)]
      · rfl
    · split
      · rename_i he
        rw [look, look]
        split
        · rw [if_pos (by omega)]
        · rw [if_neg (by omega), if_neg (by omega)]
      · rw [look, look, ih]
theorem look_del_same {o : Ord} {k : Int} {l : KV} (hs : Asc o l) : look o k (del o k l) = none := by
  induction l with
  | nil => rfl
  | cons x l ih =>
    obtain ⟨a, y⟩ := x
    have h' := List.pairwise_cons.1 hs
    simp only [del]
    split
    · rename_i hlt; rw [look, if_pos hlt]
    · split
      · rename_i he
        exact look_none_of_behind (fun p hp => by have := h'.1 p hp; simp only at this; omega)
      · rw [look, if_neg (by omega), if_neg (by omega), ih h'.2]
theorem look_del_other {o : Ord} {j k : Int} {l : KV} (hs : Asc o l) (h : o.rk j ≠ o.rk k) : look o j (del o k l) = look o j l := by
  induction l with
  | nil => rfl
  | cons x l ih =>
    obtain ⟨a, y⟩ := x
    have h' := List.pairwise_cons.1 hs
    simp only [del]
    split
    · rfl
    · split
      · rename_i he
        rw [look]
        split
        · rename_i hlt
          exact look_none_of_behind (fun p hp => by have := h'.1 p hp; simp only at this; omega)
        · rw [if_neg (by omega)]
      · rw [look, look, ih h'.2]
theorem run_append (o : Ord) (acts more : List Do) : run o (acts ++ more) = more.foldl (step o) (run o acts) := by simp [run]
theorem rk_inj {o : Ord} (ho : o.plain) {a b : Int} (h : o.rk a = o.rk b) : a = b := by
  rcases ho with h0 | h0 <;> simp [Ord.rk, h0] at h <;> omega
theorem Ord.plain.fine {o : Ord} (h : o.plain) : o.fine := by
  rcases h with h | h
  · exact .inl h
  · exact .inr (.inl h)
theorem step_put (o : Ord) (l : KV) (k v : Int) : step o l ⟨1, k, v⟩ = ins o k v l := by simp [step]
theorem step_rem (o : Ord) (l : KV) (k v : Int) : step o l ⟨2, k, v⟩ = del o k l := by simp [step]
theorem step_clr (o : Ord) (l : KV) (k v : Int) : step o l ⟨3, k, v⟩ = [] := by simp [step]

end Go.Proofs.Ytpkgmgebhnhhjaa

namespace Go.Proofs.Ytpkgmgebhnhhjaa

/-- The place of the first pair that does not come ahead of a number. -/
def plc (o : Ord) (k : Int) : KV → Nat
  | [] => 0
  | (a, _) :: l => if o.rk a < o.rk k then plc o k l + 1 else 0
/-- Is the pair at that place the one of the number? -/
def hasK (o : Ord) (k : Int) (l : KV) : Bool := match l[plc o k l]? with
  | some p => decide (o.rk p.1 = o.rk k)
  | none => false
theorem plc_le (o : Ord) (k : Int) (l : KV) : plc o k l ≤ l.length := by
  induction l with
  | nil => simp [plc]
  | cons x l ih =>
    obtain ⟨a, y⟩ := x
    simp only [plc, List.length_cons]; split <;> omega
theorem plc_lt {o : Ord} {k : Int} {l : KV} {i : Nat} {p : Int × Int} (hi : i < plc o k l) (hp : l[i]? = some p) : o.rk p.1 < o.rk k := by
  induction l generalizing i with
  | nil => simp at hp
  | cons x l ih =>
    obtain ⟨a, y⟩ := x
    simp only [plc] at hi
    split at hi
    · cases i with
      | zero => simp at hp; subst hp; assumption
      | succ i => simp at hp; exact ih (by omega) hp
    · omega
theorem plc_stop {o : Ord} {k : Int} {l : KV} {p : Int × Int} (hp : l[plc o k l]? = some p) : ¬ o.rk p.1 < o.rk k := by
  induction l with
  | nil => simp at hp
  | cons x l ih =>
    obtain ⟨a, y⟩ := x
    simp only [plc] at hp
    split at hp
    · simp at hp; exact ih hp
    · simp at hp; subst hp; assumption
theorem hasK_cons {o : Ord} {k a y : Int} {l : KV} : hasK o k ((a, y) :: l) = if o.rk a < o.rk k then hasK o k l else decide (o.rk a = o.rk k) := by
  unfold hasK
  simp only [plc]
  by_cases h : o.rk a < o.rk k
  · simp [h]
  · simp [h]
theorem ins_plc (o : Ord) (k v : Int) (l : KV) : ins o k v l = l.take (plc o k l) ++ (k, v) :: l.drop (plc o k l + if hasK o k l then 1 else 0) := by
  induction l with
  | nil => simp [ins, plc]
  | cons x l ih =>
    obtain ⟨a, y⟩ := x
    rw [hasK_cons]
    simp only [ins, plc]
    rcases Int.lt_trichotomy (o.rk k) (o.rk a) with h | h | h
    · have h2 : ¬ o.rk a < o.rk k := by omega
      have h3 : ¬ o.rk a = o.rk k := by omega
      simp [h, h2, h3]
    · simp [h]
    · have h2 : ¬ o.rk k < o.rk a := by omega
      have h3 : ¬ o.rk k = o.rk a := by omega
      simp only [h, h2, h3, if_true, if_false]
      rw [ih, Nat.add_right_comm]
      simp
theorem del_plc (o : Ord) (k : Int) (l : KV) : del o k l = if hasK o k l then l.take (plc o k l) ++ l.drop (plc o k l + 1) else l := by
  induction l with
  | nil => simp [del, hasK]
  | cons x l ih =>
    obtain ⟨a, y⟩ := x
    rw [hasK_cons]
    simp only [del, plc]
    rcases Int.lt_trichotomy (o.rk k) (o.rk a) with h | h | h
    · have h2 : ¬ o.rk a < o.rk k := by omega
      have h3 : ¬ o.rk a = o.rk k := by omega
      simp [h, h2, h3]
    · simp [h]
    · have h2 : ¬ o.rk k < o.rk a := by omega
      have h3 : ¬ o.rk k = o.rk a := by omega
      simp only [h, h2, h3, if_true, if_false]
      rw [ih]
      split <;> simp
theorem look_plc (o : Ord) (k : Int) (l : KV) : look o k l = if hasK o k l then l[plc o k l]? else none := by
  induction l with
  | nil => simp [look, hasK]
  | cons x l ih =>
    obtain ⟨a, y⟩ := x
    rw [hasK_cons]
    simp only [look, plc]
    rcases Int.lt_trichotomy (o.rk k) (o.rk a) with h | h | h
    · have h2 : ¬ o.rk a < o.rk k := by omega
      have h3 : ¬ o.rk a = o.rk k := by omega
      simp [h, h2, h3]
    · simp [h]
    · have h2 : ¬ o.rk k < o.rk a := by omega
      have h3 : ¬ o.rk k = o.rk a := by omega
      simp only [h, h2, h3, if_true, if_false]
      rw [ih]
      simp
theorem hasK_some {o : Ord} {k : Int} {l : KV} (h : hasK o k l = true) : ∃ p, l[plc o k l]? = some p ∧ o.rk p.1 = o.rk k := by
  unfold hasK at h
  cases hp : l[plc o k l]? with
  | none => rw [hp] at h; cases h
  | some p => rw [hp] at h; exact ⟨p, rfl, by simpa using h⟩

/-- What is found depends on the number's rank alone. -/
theorem look_congr {o : Ord} {j k : Int} (h : o.rk j = o.rk k) (l : KV) : look o j l = look o k l := by
  induction l with
  | nil => rfl
  | cons x l ih =>
    obtain ⟨a, y⟩ := x
    simp only [look, h, ih]
theorem look_rk {o : Ord} {k : Int} {l : KV} {p : Int × Int} (h : look o k l = some p) : o.rk p.1 = o.rk k := by
  induction l with
  | nil => simp [look] at h
  | cons x l ih =>
    obtain ⟨a, y⟩ := x
    simp only [look] at h
    split at h
    · cases h
    · split at h
      · rename_i he
        injection h with h; subst h; exact he.symm
      · exact ih h
theorem asc_behind {o : Ord} {a y : Int} {l : KV} (h : Asc o ((a, y) :: l)) : Behind o l a := fun p hp => (List.pairwise_cons.1 h).1 p hp
/-- Two lists in order in which the same is found are the same. -/
theorem asc_ext {o : Ord} {l r : KV} (hl : Asc o l) (hr : Asc o r) (h : ∀ k, look o k l = look o k r) : l = r := by
  induction l generalizing r with
  | nil =>
    cases r with
    | nil => rfl
    | cons x r =>
      obtain ⟨a, y⟩ := x
      have := h a
      simp [look] at this
  | cons x l ih =>
    obtain ⟨a, y⟩ := x
    cases r with
    | nil =>
      have := h a
      simp [look] at this
    | cons z r =>
      obtain ⟨b, u⟩ := z
      have ha := h a
      have hb := h b
      simp only [look, Int.lt_irrefl, if_false, if_true] at ha hb
      have bl := asc_behind hl
      have br := asc_behind hr
      rcases Int.lt_trichotomy (o.rk a) (o.rk b) with c | c | c
      · rw [if_pos c] at ha; cases ha
      · rw [if_neg (by omega), if_pos c] at ha
        injection ha with ha
        rw [ha]
        congr 1
        refine ih (List.pairwise_cons.1 hl).2 (List.pairwise_cons.1 hr).2 (fun k => ?_)
        rcases Int.lt_or_le (o.rk a) (o.rk k) with e | e
        · have := h k
          simp only [look] at this
          rw [if_neg (by omega), if_neg (by omega), if_neg (by omega), if_neg (by omega)] at this
          exact this
        · rw [look_none_of_behind (fun p hp => by have := bl p hp; omega), look_none_of_behind (fun p hp => by have := br p hp; omega)]
      · rw [if_pos c] at hb; cases hb

/-! The laws of lists -/

theorem ins_ins {o : Ord} {k v x : Int} {l : KV} : ins o k x (ins o k v l) = ins o k x l := by
  induction l with
  | nil => simp [ins]
  | cons p l ih =>
    obtain ⟨a, y⟩ := p
    by_cases h1 : o.rk k < o.rk a
    · simp [ins, h1]
    · by_cases h2 : o.rk k = o.rk a
      · simp [ins, h2]
      · simp [ins, h1, h2, ih]
/-- What is found behind a step, by the number's rank. -/
def stepLook (o : Ord) (a : Do) (k : Int) (x : Option (Int × Int)) : Option (Int × Int) :=
  if a.op = 1 then (if o.rk k = o.rk a.key then some (a.key, a.val) else x) else if a.op = 2 then (if o.rk k = o.rk a.key then none else x) else if a.op = 3 then none else x
theorem look_step {o : Ord} {l : KV} (hl : Asc o l) (a : Do) (k : Int) : look o k (step o l a) = stepLook o a k (look o k l) := by
  unfold step stepLook
  split
  · split
    · rename_i h
      rw [look_congr h, look_ins_same]
    · rename_i h
      exact look_ins_other h
  · split
    · split
      · rename_i h
        rw [look_congr h, look_del_same hl]
      · rename_i h
        exact look_del_other hl h
    · split <;> rfl
theorem step_comm {o : Ord} (ho : o.plain) {l : KV} (hl : Asc o l) (a b : Do) (hk : a.key ≠ b.key) (ha : a.op ≠ 3) (hb : b.op ≠ 3) : step o (step o l a) b = step o (step o l b) a := by
  refine asc_ext ((hl.step a).step b) ((hl.step b).step a) (fun k => ?_)
  rw [look_step (hl.step a), look_step hl, look_step (hl.step b), look_step hl]
  have hne : o.rk a.key ≠ o.rk b.key := fun e => hk (rk_inj ho e)
  unfold stepLook
  by_cases h1 : o.rk k = o.rk a.key
  · have h2 : o.rk k ≠ o.rk b.key := fun e => hne (h1.symm.trans e)
    simp only [h1, ha, hb, hne, if_true, if_false]
    split <;> split <;> first | rfl | (split <;> rfl)
  · simp only [h1, ha, hb, if_false]
    by_cases h2 : o.rk k = o.rk b.key <;> simp only [h2, if_true, if_false] <;> (split <;> (try split) <;> (try split) <;> (try split) <;> rfl)
theorem undone {o : Ord} {l : KV} (hl : Asc o l) {k : Int} (v : Int) (h : look o k l = none) : del o k (ins o k v l) = l := by
  refine asc_ext hl.ins.del hl (fun j => ?_)
  by_cases e : o.rk j = o.rk k
  · rw [look_congr e, look_del_same hl.ins, look_congr e, h]
  · rw [look_del_other hl.ins e, look_ins_other e]

/-! Upwards and downwards -/

def oUp : Ord := ⟨0, 0⟩
def oDown : Ord := ⟨1, 0⟩
theorem rk_up (a : Int) : oUp.rk a = a := rfl
theorem rk_down (a : Int) : oDown.rk a = -a := rfl
theorem asc_rev {l : KV} (h : Asc oUp l) : Asc oDown l.reverse := by
  unfold Asc at *
  rw [List.pairwise_reverse]
  exact h.imp fun h => by rw [rk_up, rk_up] at h; rw [rk_down, rk_down]; omega
theorem look_mem {o : Ord} {l : KV} (hl : Asc o l) {k : Int} {p : Int × Int} : look o k l = some p ↔ p ∈ l ∧ o.rk p.1 = o.rk k := by
  induction l with
  | nil => simp [look]
  | cons x l ih =>
    obtain ⟨a, y⟩ := x
    have hb := asc_behind hl
    have ih := ih (List.pairwise_cons.1 hl).2
    simp only [look]
    rcases Int.lt_trichotomy (o.rk k) (o.rk a) with c | c | c
    · rw [if_pos c]
      constructor
      · intro h; cases h
      · rintro ⟨h, e⟩
        rcases List.mem_cons.1 h with rfl | h
        · simp only at e; omega
        · have := hb p h; omega
    · rw [if_neg (by omega), if_pos c]
      constructor
      · intro h; injection h with h; subst h; exact ⟨by simp, c.symm⟩
      · rintro ⟨h, e⟩
        rcases List.mem_cons.1 h with rfl | h
        · rfl
        · have := hb p h; omega
    · rw [if_neg (by omega), if_neg (by omega), ih]
      constructor
      · rintro ⟨h, e⟩; exact ⟨by simp [h], e⟩
      · rintro ⟨h, e⟩
        rcases List.mem_cons.1 h with rfl | h
        · simp only at e; omega
        · exact ⟨h, e⟩
theorem look_rev {l : KV} (h : Asc oUp l) (k : Int) : look oDown k l.reverse = look oUp k l := by
  apply Option.ext
  intro p
  rw [look_mem (asc_rev h), look_mem h, List.mem_reverse, rk_down, rk_down, rk_up, rk_up]
  constructor <;> (rintro ⟨h, e⟩; exact ⟨h, by omega⟩)
theorem step_rev {l : KV} (h : Asc oUp l) (a : Do) : step oDown l.reverse a = (step oUp l a).reverse := by
  refine asc_ext ((asc_rev h).step a) (asc_rev (h.step a)) (fun k => ?_)
  rw [look_step (asc_rev h), look_rev h, look_rev (h.step a), look_step h]
  unfold stepLook
  rw [rk_down, rk_down, rk_up, rk_up]
  have e : (-k = -a.key) = (k = a.key) := by apply propext; omega
  simp only [e]
theorem run_rev (acts : List Do) : run oDown acts = (run oUp acts).reverse := by
  have g : ∀ (acts : List Do) (l : KV), Asc oUp l → acts.foldl (step oDown) l.reverse = (acts.foldl (step oUp) l).reverse := by
    intro acts
    induction acts with
    | nil => intro l _; rfl
    | cons a acts ih =>
      intro l hl
      simp only [List.foldl_cons]
      rw [step_rev hl, ih _ (hl.step a)]
  simpa [run] using g acts [] (Asc.nil _)
theorem run_cleared (o : Ord) (acts more : List Do) (k v : Int) : run o ((acts ++ [⟨3, k, v⟩]) ++ more) = run o more := by
  rw [run_append, run_append]
  simp [step_clr, run]
theorem run_snoc (o : Ord) (acts : List Do) (a : Do) : run o (acts ++ [a]) = step o (run o acts) a := by rw [run_append]; rfl
theorem run_snoc2 (o : Ord) (acts : List Do) (a b : Do) : run o (acts ++ [a, b]) = step o (step o (run o acts) a) b := by rw [run_append]; rfl
theorem asc_next {o : Ord} {l : KV} (h : Asc o l) {k : Nat} {p q : Int × Int} (hp : l[k]? = some p) (hq : l[k + 1]? = some q) : o.rk p.1 < o.rk q.1 := by
  have h1 := List.getElem?_eq_some_iff.1 hp
  have h2 := List.getElem?_eq_some_iff.1 hq
  obtain ⟨e1, rfl⟩ := h1
  obtain ⟨e2, rfl⟩ := h2
  exact List.pairwise_iff_getElem.1 h k (k + 1) e1 e2 (by omega)

end Go.Proofs.Ytpkgmgebhnhhjaa

namespace Go.Proofs.Ytpkgmgebhnhhjaa

/-- Is a key so? (A move bears the divisor as key, the rest as value.) -/
def good (m : Do) (k : Int) : Bool := decide (k % m.key = m.val)
/-- The first place from j on whose key is so; the place behind the last one if there is none. -/
def up (m : Do) (l : KV) (j : Nat) : Nat := j + (l.drop j).findIdx fun x => good m x.1
/-- How many pairs there are up to the last one, of the first q, whose key is so. -/
def dn (m : Do) (l : KV) : Nat → Nat
  | 0 => 0
  | q + 1 => match l[q]? with
    | some x => if good m x.1 then q + 1 else dn m l q
    | none => dn m l q
theorem up_end (m : Do) (l : KV) (j : Nat) (h : l.length ≤ j) : up m l j = j := by
  unfold up; rw [List.drop_of_length_le h]; rfl
theorem up_here {m : Do} {l : KV} {j : Nat} {x : Int × Int} (hx : l[j]? = some x) (h : good m x.1 = true) : up m l j = j := by
  obtain ⟨hj, rfl⟩ := List.getElem?_eq_some_iff.1 hx
  unfold up; rw [List.drop_eq_getElem_cons hj, List.findIdx_cons, h]; rfl
theorem up_on {m : Do} {l : KV} {j : Nat} {x : Int × Int} (hx : l[j]? = some x) (h : good m x.1 = false) : up m l j = up m l (j + 1) := by
  obtain ⟨hj, rfl⟩ := List.getElem?_eq_some_iff.1 hx
  unfold up; rw [List.drop_eq_getElem_cons hj, List.findIdx_cons, h]; simp; omega
theorem up_le (m : Do) (l : KV) (j : Nat) (h : j ≤ l.length) : up m l j ≤ l.length := by
  unfold up
  have := List.findIdx_le_length (xs := l.drop j) (p := fun x => good m x.1)
  rw [List.length_drop] at this; omega
theorem up_ge (m : Do) (l : KV) (j : Nat) : j ≤ up m l j := by unfold up; omega
theorem dn_le (m : Do) (l : KV) (q : Nat) : dn m l q ≤ q := by
  induction q with
  | zero => simp [dn]
  | succ q ih =>
    unfold dn
    split
    · split <;> omega
    · omega
theorem dn_here {m : Do} {l : KV} {q : Nat} {x : Int × Int} (hx : l[q]? = some x) (h : good m x.1 = true) : dn m l (q + 1) = q + 1 := by
  unfold dn; rw [hx]; simp [h]
theorem dn_on {m : Do} {l : KV} {q : Nat} {x : Int × Int} (hx : l[q]? = some x) (h : good m x.1 = false) : dn m l (q + 1) = dn m l q := by
  conv => lhs; unfold dn
  rw [hx]; simp [h]

/-- Where an iterator stands behind a move. -/
def mvPos (l : KV) (p : Nat) (m : Do) : Nat :=
  if m.op = 1 then min (p + 1) (l.length + 1) else if m.op = 2 then p - 1 else if m.op = 3 then 1 else if m.op = 4 then l.length
  else if m.op = 5 then 0 else if m.op = 6 then l.length + 1 else if m.op = 7 then up m l (min p l.length) + 1 else if m.op = 8 then dn m l (p - 1) else p
/-- Does it tell what it stands at? -/
def mvTell (m : Do) : Bool := decide (m.op = 1 ∨ m.op = 2 ∨ m.op = 3 ∨ m.op = 4 ∨ m.op = 7 ∨ m.op = 8)
def seenAt (l : KV) (p : Nat) : Option (Int × Int) := if p = 0 then none else l[p - 1]?
def mvSeen (l : KV) (p : Nat) (m : Do) : Option (Int × Int) := if mvTell m then seenAt l (mvPos l p m) else none
def goFrom (l : KV) : Nat → List Do → Nat
  | p, [] => p
  | p, m :: ms => goFrom l (mvPos l p m) ms
def walkFrom (l : KV) : Nat → List Do → List (Option (Int × Int))
  | _, [] => []
  | p, m :: ms => mvSeen l p m :: walkFrom l (mvPos l p m) ms
theorem mvPos_le {l : KV} {p : Nat} (h : p ≤ l.length + 1) (m : Do) : mvPos l p m ≤ l.length + 1 := by
  unfold mvPos
  have h1 := up_le m l (min p l.length) (by omega)
  have h2 := dn_le m l (p - 1)
  repeat' split
  all_goals omega
theorem goFrom_le {l : KV} (ms : List Do) {p : Nat} (h : p ≤ l.length + 1) : goFrom l p ms ≤ l.length + 1 := by
  induction ms generalizing p with
  | nil => exact h
  | cons m ms ih => exact ih (mvPos_le h m)
theorem walkFrom_length (l : KV) (p : Nat) (ms : List Do) : (walkFrom l p ms).length = ms.length := by
  induction ms generalizing p with
  | nil => rfl
  | cons m ms ih => simp [walkFrom, ih]
theorem walkFrom_append (l : KV) (p : Nat) (a b : List Do) : walkFrom l p (a ++ b) = walkFrom l p a ++ walkFrom l (goFrom l p a) b := by
  induction a generalizing p with
  | nil => rfl
  | cons m a ih => simp [walkFrom, goFrom, ih]
theorem goFrom_append (l : KV) (p : Nat) (a b : List Do) : goFrom l p (a ++ b) = goFrom l (goFrom l p a) b := by
  induction a generalizing p with
  | nil => rfl
  | cons m a ih => simp [goFrom, ih]
theorem walkFrom_take_succ (l : KV) (p : Nat) (ms : List Do) (k : Nat) (m : Do) (h : ms[k]? = some m) :
    walkFrom l p (ms.take (k + 1)) = walkFrom l p (ms.take k) ++ [mvSeen l (goFrom l p (ms.take k)) m] ∧ goFrom l p (ms.take (k + 1)) = mvPos l (goFrom l p (ms.take k)) m := by
  rw [List.take_add_one, h]
  simp only [Option.toList_some]
  rw [walkFrom_append, goFrom_append]
  exact ⟨rfl, rfl⟩

/-! What the laws say of walks -/

theorem mvPos_next (l : KV) (p : Nat) (a b : Int) : mvPos l p ⟨1, a, b⟩ = min (p + 1) (l.length + 1) := rfl
theorem mvPos_prev (l : KV) (p : Nat) (a b : Int) : mvPos l p ⟨2, a, b⟩ = p - 1 := rfl
theorem fwd_get (l : KV) (p n k : Nat) (hk : k < n) (hp : p + k ≤ l.length) : (walkFrom l p (List.replicate n ⟨1, 0, 0⟩))[k]? = some (l[p + k]?) := by
  induction n generalizing p k with
  | zero => omega
  | succ n ih =>
    rw [List.replicate_succ, walkFrom]
    cases k with
    | zero =>
      simp only [List.getElem?_cons_zero, Nat.add_zero]
      congr 1
      unfold mvSeen seenAt mvTell
      rw [mvPos_next, show min (p + 1) (l.length + 1) = p + 1 by omega]
      simp
    | succ k =>
      rw [List.getElem?_cons_succ, mvPos_next, show min (p + 1) (l.length + 1) = p + 1 by omega, ih (p + 1) k (by omega) (by omega)]
      congr 2; omega
theorem bck_get (l : KV) (p n k : Nat) (hk : k < n) (hp : k + 1 ≤ p) (hl : p ≤ l.length + 1) : (walkFrom l p (List.replicate n ⟨2, 0, 0⟩))[k]? = some (seenAt l (p - 1 - k)) := by
  induction n generalizing p k with
  | zero => omega
  | succ n ih =>
    rw [List.replicate_succ, walkFrom]
    cases k with
    | zero =>
      simp only [List.getElem?_cons_zero, Nat.sub_zero]
      rfl
    | succ k =>
      rw [List.getElem?_cons_succ, mvPos_prev, ih (p - 1) k (by omega) (by omega) (by omega)]
      congr 2; omega
theorem walk_ended (l : KV) (p q : Nat) (a b c d : Int) : walkFrom l p [⟨3, a, b⟩, ⟨4, c, d⟩] = walkFrom l q [⟨3, a, b⟩, ⟨4, c, d⟩] := rfl
theorem walk_begun (l : KV) (p q : Nat) (a b : Int) (ms : List Do) : walkFrom l p (⟨5, a, b⟩ :: ms) = walkFrom l q (⟨5, a, b⟩ :: ms) := rfl

end Go.Proofs.Ytpkgmgebhnhhjaa

namespace Go.Proofs.Ytpkgmgebhnhhjaa

/-- The node of a number, with the path to it. -/
def seek (o : Ord) (k : Int) : Ctx → BT → Option (Ctx × BT)
  | _, .nil => none
  | c, .node i l k' v b r => if o.rk k = o.rk k' then some (c, .node i l k' v b r) else if o.rk k < o.rk k' then seek o k (.lf i k' v b r :: c) l else seek o k (.rf i l k' v b :: c) r
theorem seek_here {o : Ord} {k : Int} {c : Ctx} {i : Nat} {l r : BT} {k' v b : Int} (h : o.rk k = o.rk k') : seek o k c (.node i l k' v b r) = some (c, .node i l k' v b r) := by rw [seek, if_pos h]
theorem seek_left {o : Ord} {k : Int} {c : Ctx} {i : Nat} {l r : BT} {k' v b : Int} (h : o.rk k < o.rk k') : seek o k c (.node i l k' v b r) = seek o k (.lf i k' v b r :: c) l := by rw [seek, if_neg (by omega), if_pos h]
theorem seek_right {o : Ord} {k : Int} {c : Ctx} {i : Nat} {l r : BT} {k' v b : Int} (h : o.rk k' < o.rk k) : seek o k c (.node i l k' v b r) = seek o k (.rf i l k' v b :: c) r := by rw [seek, if_neg (by omega), if_neg (by omega)]

/-- A node of the tree: its key and value are what the reference finds. -/
theorem seek_look {o : Ord} {k : Int} {c : Ctx} {t : BT} (h : Asc o t.kvs) :
    (∃ c' i l k' v b r, seek o k c t = some (c', .node i l k' v b r) ∧ look o k t.kvs = some (k', v) ∧ Ctx.plug c' (.node i l k' v b r) = Ctx.plug c t ∧ o.rk k = o.rk k') ∨ (seek o k c t = none ∧ look o k t.kvs = none) := by
  induction t generalizing c with
  | nil => exact .inr ⟨rfl, rfl⟩
  | node i l k' v' b r ihl ihr =>
    have hm := asc_mid.1 h
    rcases Int.lt_trichotomy (o.rk k) (o.rk k') with hlt | he | hgt
    · rw [seek_left hlt]
      simp only [BT.kvs]
      rw [look_behind hlt]
      exact ihl hm.1
    · rw [seek_here he]
      simp only [BT.kvs]
      rw [look_here hm.2.2.1 he]
      exact .inl ⟨c, i, l, k', v', b, r, rfl, rfl, rfl, he⟩
    · rw [seek_right hgt]
      simp only [BT.kvs]
      rw [look_right hm.2.2.1 hgt]
      exact ihr hm.2.1

/-- The block of the node that was found. -/
def seekId (o : Ord) (k : Int) (t : BT) : Option Nat := (seek o k [] t).bind fun x => x.2.root

end Go.Proofs.Ytpkgmgebhnhhjaa

namespace Go.Proofs.Ytpkgmgebhnhhjaa

theorem head_app {α : Type} {a b : List α} (h : a ≠ []) : (a ++ b).head? = a.head? := by
  cases a with
  | nil => exact absurd rfl h
  | cons x a => rfl
theorem last_app {α : Type} {a b : List α} (h : b ≠ []) : (a ++ b).getLast? = b.getLast? := by
  rw [List.getLast?_append]
  cases hb : b.getLast? with
  | none => exact absurd (List.getLast?_eq_none_iff.1 hb) h
  | some x => rfl

namespace BT
def ord : BT → List Nat
  | nil => []
  | node i l _ _ _ r => ord l ++ i :: ord r
theorem ord_length (t : BT) : t.ord.length = t.count := by
  induction t with
  | nil => rfl
  | node i l k v c r ihl ihr => simp [ord, count, ihl, ihr]; omega
theorem mem_ord {t : BT} {b : Nat} : b ∈ t.ord ↔ b ∈ t.ids := by
  induction t with
  | nil => simp [ord, ids]
  | node i l k v c r ihl ihr =>
    simp only [ord, ids, List.mem_append, List.mem_cons, ihl, ihr]
    constructor <;> intro h <;> rcases h with h | h | h <;> simp [h]
/-- The first node, and the last one. -/
def lo (t : BT) : Option Nat := t.ord.head?
def hi (t : BT) : Option Nat := t.ord.getLast?
theorem ord_ne {t : BT} (h : t ≠ nil) : t.ord ≠ [] := by
  cases t with
  | nil => exact absurd rfl h
  | node i l k v c r => simp [ord]
theorem lo_nil {i : Nat} {k v c : Int} {r : BT} : (node i nil k v c r).lo = some i := rfl
theorem lo_node {i : Nat} {k v c : Int} {l r : BT} (h : l ≠ nil) : (node i l k v c r).lo = l.lo := by
  unfold lo; rw [ord, head_app (ord_ne h)]
theorem hi_nil {i : Nat} {k v c : Int} {l : BT} : (node i l k v c nil).hi = some i := by
  unfold hi; simp [ord]
theorem hi_node {i : Nat} {k v c : Int} {l r : BT} (h : r ≠ nil) : (node i l k v c r).hi = r.hi := by
  unfold hi
  have hr := ord_ne h
  rw [ord, show l.ord ++ i :: r.ord = (l.ord ++ [i]) ++ r.ord by simp, last_app hr]
theorem lo_none {t : BT} (h : t = nil) : t.lo = none := by subst h; rfl
end BT

namespace Ctx
def ordL : Ctx → List Nat
  | [] => []
  | .lf _ _ _ _ _ :: c => ordL c
  | .rf i l _ _ _ :: c => ordL c ++ (l.ord ++ [i])
def ordR : Ctx → List Nat
  | [] => []
  | .lf i _ _ _ r :: c => i :: (r.ord ++ ordR c)
  | .rf _ _ _ _ _ :: c => ordR c
theorem ord_plug (c : Ctx) (t : BT) : (plug c t).ord = ordL c ++ (t.ord ++ ordR c) := by
  induction c generalizing t with
  | nil => simp [plug, ordL, ordR]
  | cons f c ih => cases f <;> simp [plug, ih, Fr.plug, BT.ord, ordL, ordR]
theorem ordL_length (c : Ctx) : (ordL c).length = (kvsL c).length := by
  induction c with
  | nil => rfl
  | cons f c ih => cases f <;> simp [ordL, kvsL, ih, BT.ord_length, BT.kvs_length]
/-- The first node above that the hole comes ahead of, or behind. -/
def upR : Ctx → Option Nat
  | [] => none
  | .lf i _ _ _ _ :: _ => some i
  | .rf _ _ _ _ _ :: c => upR c
def upL : Ctx → Option Nat
  | [] => none
  | .rf i _ _ _ _ :: _ => some i
  | .lf _ _ _ _ _ :: c => upL c
theorem upR_eq (c : Ctx) : upR c = (ordR c).head? := by
  induction c with
  | nil => rfl
  | cons f c ih => cases f <;> simp [upR, ordR, ih]
theorem upL_eq (c : Ctx) : upL c = (ordL c).getLast? := by
  induction c with
  | nil => rfl
  | cons f c ih => cases f <;> simp [upL, ordL, ih]
end Ctx

/-- The node behind one, and the one ahead of it. -/
def nextId (c : Ctx) (r : BT) : Option Nat := match r with
  | .nil => Ctx.upR c
  | .node i l k v b r => (BT.node i l k v b r).lo
def prevId (c : Ctx) (l : BT) : Option Nat := match l with
  | .nil => Ctx.upL c
  | .node i l k v b r => (BT.node i l k v b r).hi
theorem nextId_eq (c : Ctx) (r : BT) : nextId c r = (r.ord ++ Ctx.ordR c).head? := by
  cases r with
  | nil => exact Ctx.upR_eq c
  | node i l k v b r => simp only [nextId, BT.lo]; rw [head_app (by simp [BT.ord])]
theorem prevId_eq (c : Ctx) (l : BT) : prevId c l = (Ctx.ordL c ++ l.ord).getLast? := by
  cases l with
  | nil => simp [prevId, Ctx.upL_eq, BT.ord]
  | node i l k v b r =>
    simp only [prevId, BT.hi]
    rw [last_app (by simp [BT.ord])]

/-- The place that a node has in order, as a path. -/
theorem place_at {t : BT} {p : Nat} (hp : p < t.count) (c0 : Ctx) : ∃ c i l k v b r, Ctx.plug c (.node i l k v b r) = Ctx.plug c0 t ∧ (Ctx.ordL c ++ l.ord).length = (Ctx.ordL c0).length + p := by
  induction t generalizing c0 p with
  | nil => simp [BT.count] at hp
  | node i l k v b r ihl ihr =>
    simp only [BT.count] at hp
    rcases Nat.lt_trichotomy p l.count with h | h | h
    · obtain ⟨c, j, l', k', v', b', r', e, hn⟩ := ihl h (.lf i k v b r :: c0)
      exact ⟨c, j, l', k', v', b', r', e, hn⟩
    · exact ⟨c0, i, l, k, v, b, r, rfl, by rw [List.length_append, BT.ord_length, h]⟩
    · obtain ⟨c, j, l', k', v', b', r', e, hn⟩ := ihr (p := p - l.count - 1) (by omega) (.rf i l k v b :: c0)
      refine ⟨c, j, l', k', v', b', r', e, ?_⟩
      rw [hn]
      simp only [Ctx.ordL, List.length_append, BT.ord_length, List.length_cons, List.length_nil]
      omega
/-- What is told of a node at a place. -/
theorem at_place {t : BT} {p : Nat} {c : Ctx} {i : Nat} {l r : BT} {k v b : Int} (e : Ctx.plug c (.node i l k v b r) = t) (hn : (Ctx.ordL c ++ l.ord).length = p) :
    t.ord[p]? = some i ∧ t.kvs[p]? = some (k, v) ∧ nextId c r = t.ord[p + 1]? ∧ prevId c l = if p = 0 then none else t.ord[p - 1]? := by
  subst e hn
  have h1 : (Ctx.plug c (.node i l k v b r)).ord = (Ctx.ordL c ++ l.ord) ++ i :: (r.ord ++ Ctx.ordR c) := by rw [Ctx.ord_plug]; simp [BT.ord]
  have h2 : (Ctx.plug c (.node i l k v b r)).kvs = (Ctx.kvsL c ++ l.kvs) ++ (k, v) :: (r.kvs ++ Ctx.kvsR c) := by rw [Ctx.kvs_plug]; simp [BT.kvs]
  have h3 : (Ctx.kvsL c ++ l.kvs).length = (Ctx.ordL c ++ l.ord).length := by rw [List.length_append, List.length_append, BT.kvs_length, BT.ord_length, Ctx.ordL_length]
  refine ⟨?_, ?_, ?_, ?_⟩
  · rw [h1]; simp
  · rw [h2, ← h3]; simp
  · rw [h1, nextId_eq]
    rw [List.getElem?_append_right (by omega)]
    rw [show (Ctx.ordL c ++ l.ord).length + 1 - (Ctx.ordL c ++ l.ord).length = 1 from by omega]
    rw [List.getElem?_cons_succ, List.head?_eq_getElem?]
  · rw [h1, prevId_eq]
    generalize Ctx.ordL c ++ l.ord = x
    split
    · rename_i h0
      have : x = [] := List.length_eq_zero_iff.1 h0
      subst this; rfl
    · rw [List.getElem?_append_left (by omega), List.getLast?_eq_getElem?]
theorem lo_at (t : BT) : t.lo = t.ord[0]? := List.head?_eq_getElem?
theorem hi_at (t : BT) : t.hi = t.ord[t.ord.length - 1]? := List.getLast?_eq_getElem?

end Go.Proofs.Ytpkgmgebhnhhjaa

namespace Go.Proofs.Ytpkgmgebhnhhjaa

/-- A node as it is told. -/
structure Kn where
  key : Int
  val : Int
  up : Int
  left : Int
  right : Int
  size : Int

/-- The number of a tree's first node, if it stands at n. -/
def numAt (n : Nat) : BT → Int
  | .nil => -1
  | .node .. => (n : Int)
/-- The nodes at and below one, the first numbered n. -/
def knots (n : Nat) (u : Int) : BT → List Kn
  | .nil => []
  | .node _ l k v _ r => ⟨k, v, u, numAt (n + 1) l, numAt (n + 1 + l.count) r, (l.count + r.count + 1 : Nat)⟩ :: (knots (n + 1) n l ++ knots (n + 1 + l.count) n r)
theorem knots_length (n : Nat) (u : Int) (t : BT) : (knots n u t).length = t.count := by
  induction t generalizing n u with
  | nil => rfl
  | node i l k v c r ihl ihr => simp [knots, ihl, ihr, BT.count]

def BT.height : BT → Nat
  | .nil => 0
  | .node _ l _ _ _ r => max l.height r.height + 1
theorem BT.height_le (t : BT) : t.height ≤ t.count := by
  induction t with
  | nil => simp [BT.height, BT.count]
  | node i l k v c r ihl ihr => simp only [BT.height, BT.count]; omega

/-- A list of nodes holds a tree, from a number on. -/
def SubAt (K : List Kn) (a : Int) (u : Int) : BT → Prop
  | .nil => a = -1
  | .node _ l k v _ r => ∃ n : Nat, a = n ∧ ∃ la ra : Int, K[n]? = some ⟨k, v, u, la, ra, (l.count + r.count + 1 : Nat)⟩ ∧ SubAt K la n l ∧ SubAt K ra n r

theorem subAt_knots (t : BT) (n : Nat) (u : Int) (pre post : List Kn) (hn : pre.length = n) : SubAt (pre ++ (knots n u t ++ post)) (numAt n t) u t := by
  induction t generalizing n u pre post with
  | nil => rfl
  | node i l k v c r ihl ihr =>
    refine ⟨n, rfl, numAt (n + 1) l, numAt (n + 1 + l.count) r, ?_, ?_, ?_⟩
    · rw [List.getElem?_append_right (by omega), hn, Nat.sub_self]; rfl
    · have h := ihl (n + 1) n (pre ++ [⟨k, v, u, numAt (n + 1) l, numAt (n + 1 + l.count) r, (l.count + r.count + 1 : Nat)⟩]) (knots (n + 1 + l.count) n r ++ post) (by simp [hn])
      simpa [knots] using h
    · have h := ihr (n + 1 + l.count) n (pre ++ ⟨k, v, u, numAt (n + 1) l, numAt (n + 1 + l.count) r, (l.count + r.count + 1 : Nat)⟩ :: knots (n + 1) n l) post (by simp [hn, knots_length]; omega)
      simpa [knots] using h

/-- What holds of all nodes of a tree. -/
def BT.All (p : BT → BT → Prop) : BT → Prop
  | .nil => True
  | .node _ l _ _ _ r => p l r ∧ l.All p ∧ r.All p
theorem subAt_all {K : List Kn} {p : BT → BT → Prop} (t : BT) (n : Nat) (u : Int) (pre post : List Kn) (hn : pre.length = n) (hK : K = pre ++ (knots n u t ++ post)) (h : t.All p) :
    ∀ x ∈ knots n u t, ∃ (l r : BT) (m : Int), p l r ∧ SubAt K x.left m l ∧ SubAt K x.right m r ∧ l.count + r.count < K.length := by
  induction t generalizing n u pre post with
  | nil => intro x hx; simp [knots] at hx
  | node i l k v c r ihl ihr =>
    intro x hx
    have hs : SubAt K (numAt n (.node i l k v c r)) u (.node i l k v c r) := by rw [hK]; exact subAt_knots _ n u pre post hn
    obtain ⟨h0, hl, hr⟩ := h
    simp only [knots, List.mem_cons, List.mem_append] at hx
    rcases hx with rfl | hx | hx
    · obtain ⟨n', e, la, ra, hg, s1, s2⟩ := hs
      simp only [numAt] at e
      have e : n = n' := by omega
      subst e
      refine ⟨l, r, n, h0, ?_, ?_, ?_⟩
      · have h := subAt_knots l (n + 1) n (pre ++ [⟨k, v, u, numAt (n + 1) l, numAt (n + 1 + l.count) r, (l.count + r.count + 1 : Nat)⟩]) (knots (n + 1 + l.count) n r ++ post) (by simp [hn])
        rw [hK]; simpa [knots] using h
      · have h := subAt_knots r (n + 1 + l.count) n (pre ++ ⟨k, v, u, numAt (n + 1) l, numAt (n + 1 + l.count) r, (l.count + r.count + 1 : Nat)⟩ :: knots (n + 1) n l) post (by simp [hn, knots_length]; omega)
        rw [hK]; simpa [knots] using h
      · rw [hK]; simp [knots, knots_length]; omega
    · refine ihl (n + 1) n (pre ++ [⟨k, v, u, numAt (n + 1) l, numAt (n + 1 + l.count) r, (l.count + r.count + 1 : Nat)⟩]) (knots (n + 1 + l.count) n r ++ post) (by simp [hn]) ?_ hl x hx
      rw [hK]; simp [knots]
    · refine ihr (n + 1 + l.count) n (pre ++ ⟨k, v, u, numAt (n + 1) l, numAt (n + 1 + l.count) r, (l.count + r.count + 1 : Nat)⟩ :: knots (n + 1) n l) post (by simp [hn, knots_length]; omega) ?_ hr x hx
      rw [hK]; simp [knots]

end Go.Proofs.Ytpkgmgebhnhhjaa
