/-
  Several texts as one (Pure, Look, ListPure): each says its own in its remarks.
-/

namespace Go.Proofs.Ytgakapigpiaoiaa
structure Ord where
  kind : Int
  m : Int
def Ord.rk (o : Ord) (a : Int) : Int := if o.kind = 1 then -a else if o.kind = 2 then a % o.m else a
def sg (x y : Int) : Int := if x < y then -1 else if y < x then 1 else 0
def Ord.cmp (o : Ord) (a b : Int) : Int := sg (o.rk a) (o.rk b)
def Ord.plain (o : Ord) : Prop := o.kind = 0 ∨ o.kind = 1
def Ord.fine (o : Ord) : Prop := o.kind = 0 ∨ o.kind = 1 ∨ (o.kind = 2 ∧ 1 ≤ o.m ∧ o.m ≤ 1000)
theorem sg_cases (x y : Int) : (x < y ∧ sg x y = -1) ∨ (x = y ∧ sg x y = 0) ∨ (y < x ∧ sg x y = 1) := by unfold sg; split <;> (try split) <;> omega
abbrev KV := List (Int × Int)
def ins (o : Ord) (k v : Int) : KV → KV
  | [] => [(k, v)]
  | (a, x) :: l => if o.rk k < o.rk a then (k, v) :: (a, x) :: l else if o.rk k = o.rk a then (k, v) :: l else (a, x) :: ins o k v l
def del (o : Ord) (k : Int) : KV → KV
  | [] => []
  | (a, x) :: l => if o.rk k < o.rk a then (a, x) :: l else if o.rk k = o.rk a then l else (a, x) :: del o k l
def look (o : Ord) (k : Int) : KV → Option (Int × Int)
  | [] => none
  | (a, x) :: l => if o.rk k < o.rk a then none else if o.rk k = o.rk a then some (a, x) else look o k l
structure Do where
  op : Int
  key : Int
  val : Int
def step (o : Ord) (l : KV) (a : Do) : KV := if a.op = 1 then ins o a.key a.val l else if a.op = 2 then del o a.key l else if a.op = 3 then [] else l
def run (o : Ord) (acts : List Do) : KV := acts.foldl (step o) []
def Asc (o : Ord) (l : KV) : Prop := l.Pairwise fun x y => o.rk x.1 < o.rk y.1
theorem Asc.nil (o : Ord) : Asc o [] := List.Pairwise.nil
theorem mem_ins {o : Ord} {k v : Int} {l : KV} {p : Int × Int} (h : p ∈ ins o k v l) : p = (k, v) ∨ p ∈ l := by
  induction l with
  | nil => simp [ins] at h; exact .inl h
  | cons x l ih =>
    obtain ⟨a, y⟩ := x
    simp only [ins] at h
    split at h
    · simpa using h
    · split at h
      · simp at h; rcases h with h | h
        · exact .inl h
        · exact .inr (by simp [h])
      · simp at h; rcases h with h | h
        · exact .inr (by simp [h])
        · rcases ih h with h | h
          · exact .inl h
          · exact .inr (by simp [h])
theorem mem_del {o : Ord} {k : Int} {l : KV} {p : Int × Int} (h : p ∈ del o k l) : p ∈ l := by
  induction l with
  | nil => simp [del] at h
  | cons x l ih =>
    obtain ⟨a, y⟩ := x
    simp only [del] at h
    split at h
    · exact h
    · split at h
      · simp [h]
      · simp at h; rcases h with h | h
        · simp [h]
        · simp [ih h]
theorem Asc.ins {o : Ord} {k v : Int} {l : KV} (h : Asc o l) : Asc o (ins o k v l) := by
  induction l with
  | nil => simp [Go.Proofs.Ytgakapigpiaoiaa.ins, Asc]
  | cons x l ih =>
    obtain ⟨a, y⟩ := x
    have h' := List.pairwise_cons.1 h
    simp only [Go.Proofs.Ytgakapigpiaoiaa.ins]
    split
    · rename_i hlt
      refine List.pairwise_cons.2 ⟨fun p hp => ?_, h⟩
      rcases List.mem_cons.1 hp with rfl | hp
      · exact hlt
      · have := h'.1 p hp; simp only at this ⊢; omega
    · split
      · rename_i heq
        refine List.pairwise_cons.2 ⟨fun p hp => ?_, h'.2⟩
        have := h'.1 p hp; simp only at this ⊢; omega
      · refine List.pairwise_cons.2 ⟨fun p hp => ?_, ih h'.2⟩
        rcases mem_ins hp with rfl | hp
        · simp only; omega
        · exact h'.1 p hp
theorem Asc.del {o : Ord} {k : Int} {l : KV} (h : Asc o l) : Asc o (del o k l) := by
  induction l with
  | nil => simp [Go.Proofs.Ytgakapigpiaoiaa.del, Asc]
  | cons x l ih =>
    obtain ⟨a, y⟩ := x
    have h' := List.pairwise_cons.1 h
    simp only [Go.Proofs.Ytgakapigpiaoiaa.del]
    split
    · exact h
    · split
      · exact h'.2
      · exact List.pairwise_cons.2 ⟨fun p hp => h'.1 p (mem_del hp), ih h'.2⟩
theorem Asc.step {o : Ord} {l : KV} (h : Asc o l) (a : Do) : Asc o (step o l a) := by
  unfold Go.Proofs.Ytgakapigpiaoiaa.step
  split
  · exact h.ins
  · split
    · exact h.del
    · split
      · exact Asc.nil o
      · exact h
theorem Asc.foldl {o : Ord} {l : KV} (h : Asc o l) (acts : List Do) : Asc o (acts.foldl (Go.Proofs.Ytgakapigpiaoiaa.step o) l) := by
  induction acts generalizing l with
  | nil => exact h
  | cons a as ih => exact ih (h.step a)
theorem Asc.run (o : Ord) (acts : List Do) : Asc o (run o acts) := Asc.foldl (Asc.nil o) acts
def Ahead (o : Ord) (l : KV) (k : Int) : Prop := ∀ p ∈ l, o.rk p.1 < o.rk k
def Behind (o : Ord) (l : KV) (k : Int) : Prop := ∀ p ∈ l, o.rk k < o.rk p.1
theorem asc_append {o : Ord} {l r : KV} : Asc o (l ++ r) ↔ Asc o l ∧ Asc o r ∧ ∀ p ∈ l, ∀ q ∈ r, o.rk p.1 < o.rk q.1 := List.pairwise_append
theorem asc_mid {o : Ord} {l r : KV} {k v : Int} : Asc o (l ++ (k, v) :: r) ↔ Asc o l ∧ Asc o r ∧ Ahead o l k ∧ Behind o r k := by
  rw [asc_append]
  constructor
  · rintro ⟨h1, h2, h3⟩
    have h2' := List.pairwise_cons.1 h2
    exact ⟨h1, h2'.2, fun p hp => h3 p hp (k, v) (by simp), fun p hp => h2'.1 p hp⟩
  · rintro ⟨h1, h2, h3, h4⟩
    refine ⟨h1, List.pairwise_cons.2 ⟨fun p hp => h4 p hp, h2⟩, fun p hp q hq => ?_⟩
    rcases List.mem_cons.1 hq with rfl | hq
    · exact h3 p hp
    · have := h3 p hp; have := h4 q hq; omega
theorem ins_ahead {o : Ord} {l r : KV} {k v : Int} (h : Ahead o l k) : ins o k v (l ++ r) = l ++ ins o k v r := by
  induction l with
  | nil => rfl
  | cons x l ih =>
    obtain ⟨a, y⟩ := x
    have hx := h (a, y) (by simp)
    simp only at hx
    rw [List.cons_append, ins, if_neg (by omega), if_neg (by omega), ih (fun p hp => h p (by simp [hp]))]
    rfl
theorem del_ahead {o : Ord} {l r : KV} {k : Int} (h : Ahead o l k) : del o k (l ++ r) = l ++ del o k r := by
  induction l with
  | nil => rfl
  | cons x l ih =>
    obtain ⟨a, y⟩ := x
    have hx := h (a, y) (by simp)
    simp only at hx
    rw [List.cons_append, del, if_neg (by omega), if_neg (by omega), ih (fun p hp => h p (by simp [hp]))]
    rfl
theorem look_ahead {o : Ord} {l r : KV} {k : Int} (h : Ahead o l k) : look o k (l ++ r) = look o k r := by
  induction l with
  | nil => rfl
  | cons x l ih =>
    obtain ⟨a, y⟩ := x
    have hx := h (a, y) (by simp)
    simp only at hx
    rw [List.cons_append, look, if_neg (by omega), if_neg (by omega), ih (fun p hp => h p (by simp [hp]))]
theorem ins_here {o : Ord} {l r : KV} {k v a x : Int} (hl : Ahead o l a) (h : o.rk k = o.rk a) : ins o k v (l ++ (a, x) :: r) = l ++ (k, v) :: r := by
  rw [ins_ahead (fun p hp => by rw [h]; exact hl p hp), ins, if_neg (by omega), if_pos h]
theorem del_here {o : Ord} {l r : KV} {k a x : Int} (hl : Ahead o l a) (h : o.rk k = o.rk a) : del o k (l ++ (a, x) :: r) = l ++ r := by
  rw [del_ahead (fun p hp => by rw [h]; exact hl p hp), del, if_neg (by omega), if_pos h]
theorem look_here {o : Ord} {l r : KV} {k a x : Int} (hl : Ahead o l a) (h : o.rk k = o.rk a) : look o k (l ++ (a, x) :: r) = some (a, x) := by
  rw [look_ahead (fun p hp => by rw [h]; exact hl p hp), look, if_neg (by omega), if_pos h]
theorem ins_length {o : Ord} {k v : Int} {l : KV} (h : Asc o l) : (ins o k v l).length = if (look o k l).isSome then l.length else l.length + 1 := by
  induction l with
  | nil => simp [ins, look]
  | cons x l ih =>
    obtain ⟨a, y⟩ := x
    simp only [ins, look]
    split
    · simp
    · split
      · simp
      · have := ih (List.pairwise_cons.1 h).2
        simp only [List.length_cons, this]; split <;> rfl
theorem del_length {o : Ord} {k : Int} {l : KV} : (del o k l).length = if (look o k l).isSome then l.length - 1 else l.length := by
  induction l with
  | nil => simp [del, look]
  | cons x l ih =>
    obtain ⟨a, y⟩ := x
    simp only [del, look]
    split
    · simp
    · split
      · simp
      · simp only [List.length_cons, ih]
        split
        · rename_i h
          cases l with
          | nil => simp [look] at h
          | cons z l => simp
        · rfl
theorem step_length_le {o : Ord} {l : KV} (h : Asc o l) (a : Do) : (step o l a).length ≤ l.length + 1 := by
  unfold step
  split
  · rw [ins_length h]; split <;> omega
  · split
    · rw [del_length]; split <;> omega
    · split <;> simp
theorem foldl_length_le {o : Ord} {l : KV} (h : Asc o l) (acts : List Do) : (acts.foldl (step o) l).length ≤ l.length + acts.length := by
  induction acts generalizing l with
  | nil => simp
  | cons a as ih =>
    have h1 := ih (h.step a)
    have h2 := step_length_le h a
    simp only [List.foldl_cons, List.length_cons]; omega
theorem foldl_take_succ (o : Ord) (l : KV) (acts : List Do) (k : Nat) (d : Do) (h : acts[k]? = some d) : (acts.take (k + 1)).foldl (step o) l = step o ((acts.take k).foldl (step o) l) d := by
  rw [List.take_add_one, h]; simp
theorem foldl_take_length (o : Ord) (l : KV) (hl : Asc o l) (acts : List Do) (k : Nat) : ((acts.take k).foldl (step o) l).length ≤ l.length + acts.length := by
  have h1 := foldl_length_le hl (acts.take k)
  have h2 : (acts.take k).length ≤ acts.length := List.length_take_le' _ _
  omega
theorem run_length_le (o : Ord) (acts : List Do) : (run o acts).length ≤ acts.length := by
  have := foldl_length_le (Asc.nil o) acts
  simpa [run] using this
inductive BT where
  | nil
  | node (i : Nat) (l : BT) (k v c : Int) (r : BT)
namespace BT
def root : BT → Option Nat
  | nil => none
  | node i _ _ _ _ _ => some i
def ids : BT → List Nat
  | nil => []
  | node i l _ _ _ r => i :: (ids l ++ ids r)
end BT
inductive Fr where
  | lf (i : Nat) (k v c : Int) (r : BT)
  | rf (i : Nat) (l : BT) (k v c : Int)
namespace Fr
def id : Fr → Nat
  | lf i .. => i
  | rf i .. => i
def ids : Fr → List Nat
  | lf i _ _ _ r => i :: r.ids
  | rf i l _ _ _ => i :: l.ids
def plug : Fr → BT → BT
  | lf i k v c r, t => .node i t k v c r
  | rf i l k v c, t => .node i l k v c t
end Fr
abbrev Ctx := List Fr
namespace Ctx
def par : Ctx → Option Nat
  | [] => none
  | f :: _ => some f.id
def ids : Ctx → List Nat
  | [] => []
  | f :: c => f.ids ++ ids c
def plug : Ctx → BT → BT
  | [], t => t
  | f :: c, t => plug c (f.plug t)
theorem ids_plug (c : Ctx) (t : BT) : (plug c t).ids.Perm (c.ids ++ t.ids) := by
  induction c generalizing t with
  | nil => exact List.Perm.refl _
  | cons f c ih =>
    refine (ih (f.plug t)).trans ?_
    cases f with
    | lf i k v cc r =>
      simp only [Fr.plug, BT.ids, ids, Fr.ids]
      have h1 : (Ctx.ids c ++ i :: (t.ids ++ r.ids)).Perm (i :: (Ctx.ids c ++ (t.ids ++ r.ids))) := List.perm_middle
      refine h1.trans ?_
      simp only [List.cons_append]
      refine List.Perm.cons i ?_
      have h2 : (Ctx.ids c ++ (t.ids ++ r.ids)).Perm ((t.ids ++ r.ids) ++ Ctx.ids c) := List.perm_append_comm
      refine h2.trans ?_
      have h3 : (t.ids ++ r.ids ++ Ctx.ids c) = t.ids ++ (r.ids ++ Ctx.ids c) := List.append_assoc _ _ _
      rw [h3]
      exact List.perm_append_comm
    | rf i l k v cc =>
      simp only [Fr.plug, BT.ids, ids, Fr.ids]
      have h1 : (Ctx.ids c ++ i :: (l.ids ++ t.ids)).Perm (i :: (Ctx.ids c ++ (l.ids ++ t.ids))) := List.perm_middle
      refine h1.trans ?_
      simp only [List.cons_append]
      refine List.Perm.cons i ?_
      rw [← List.append_assoc]
      refine List.Perm.append_right _ ?_
      exact List.perm_append_comm
end Ctx
end Go.Proofs.Ytgakapigpiaoiaa

namespace Go.Proofs.Ytgakapigpiaoiaa
theorem look_none_of_behind {o : Ord} {k : Int} {l : KV} (h : Behind o l k) : look o k l = none := by
  cases l with
  | nil => rfl
  | cons x l =>
    obtain ⟨a, y⟩ := x
    have := h (a, y) (by simp)
    simp only at this
    rw [look, if_pos this]
theorem Ord.plain.fine {o : Ord} (h : o.plain) : o.fine := by
  rcases h with h | h
  · exact .inl h
  · exact .inr (.inl h)
end Go.Proofs.Ytgakapigpiaoiaa

namespace Go.Proofs.Ytgakapigpiaoiaa
def plc (o : Ord) (k : Int) : KV → Nat
  | [] => 0
  | (a, _) :: l => if o.rk a < o.rk k then plc o k l + 1 else 0
def hasK (o : Ord) (k : Int) (l : KV) : Bool := match l[plc o k l]? with
  | some p => decide (o.rk p.1 = o.rk k)
  | none => false
theorem hasK_cons {o : Ord} {k a y : Int} {l : KV} : hasK o k ((a, y) :: l) = if o.rk a < o.rk k then hasK o k l else decide (o.rk a = o.rk k) := by
  unfold hasK
  simp only [plc]
  by_cases h : o.rk a < o.rk k
  · simp [h]
  · simp [h]
theorem del_plc (o : Ord) (k : Int) (l : KV) : del o k l = if hasK o k l then l.take (plc o k l) ++ l.drop (plc o k l + 1) else l := by
  induction l with
  | nil => simp [del, hasK]
  | cons x l ih =>
    obtain ⟨a, y⟩ := x
    rw [hasK_cons]
    simp only [del, plc]
    rcases Int.lt_trichotomy (o.rk k) (o.rk a) with h | h | h
    · have h2 : ¬ o.rk a < o.rk k := by omega
      have h3 : ¬ o.rk a = o.rk k := by omega
      simp [h, h2, h3]
    · simp [h]
    · have h2 : ¬ o.rk k < o.rk a := by omega
      have h3 : ¬ o.rk k = o.rk a := by omega
      simp only [h, h2, h3, if_true, if_false]
      rw [ih]
      split <;> simp
theorem look_plc (o : Ord) (k : Int) (l : KV) : look o k l = if hasK o k l then l[plc o k l]? else none := by
  induction l with
  | nil => simp [look, hasK]
  | cons x l ih =>
    obtain ⟨a, y⟩ := x
    rw [hasK_cons]
    simp only [look, plc]
    rcases Int.lt_trichotomy (o.rk k) (o.rk a) with h | h | h
    · have h2 : ¬ o.rk a < o.rk k := by omega
      have h3 : ¬ o.rk a = o.rk k := by omega
      simp [h, h2, h3]
    · simp [h]
    · have h2 : ¬ o.rk k < o.rk a := by omega
      have h3 : ¬ o.rk k = o.rk a := by omega
      simp only [h, h2, h3, if_true, if_false]
      rw [ih]
      simp
theorem hasK_some {o : Ord} {k : Int} {l : KV} (h : hasK o k l = true) : ∃ p, l[plc o k l]? = some p ∧ o.rk p.1 = o.rk k := by
  unfold hasK at h
  cases hp : l[plc o k l]? with
  | none => rw [hp] at h; cases h
  | some p => rw [hp] at h; exact ⟨p, rfl, by simpa using h⟩
end Go.Proofs.Ytgakapigpiaoiaa
