/-
  The plain side of moving over pairs: an iterator stands at a place, from 0 (ahead of the first pair) to one more than there are.
-/
import Derived.Test.YtpmikeeeocnfnaaListPure
namespace Go.Proofs.Ytpmikeeeocnfnaa

/-- Is a key so? (A move bears the divisor as key, the rest as value.) -/
def good (m : Do) (k : Int) : Bool := decide (k % m.key = m.val)
/-- The first place from j on whose key is so; the place behind the last one if there is none. -/
def up (m : Do) (l : KV) (j : Nat) : Nat := j + (l.drop j).findIdx fun x => good m x.1
/-- How many pairs there are up to the last one, of the first q, whose key is so. -/
def dn (m : Do) (l : KV) : Nat → Nat
  | 0 => 0
  | q + 1 => match l[q]? with
    | some x => if good m x.1 then q + 1 else dn m l q
    | none => dn m l q
theorem up_end (m : Do) (l : KV) (j : Nat) (h : l.length ≤ j) : up m l j = j := by
  unfold up; rw [List.drop_of_length_le h]; rfl
theorem up_here {m : Do} {l : KV} {j : Nat} {x : Int × Int} (hx : l[j]? = some x) (h : good m x.1 = true) : up m l j = j := by
  obtain ⟨hj, rfl⟩ := List.getElem?_eq_some_iff.1 hx
  unfold up; rw [List.drop_eq_getElem_cons hj, List.findIdx_cons, h]; rfl
theorem up_on {m : Do} {l : KV} {j : Nat} {x : Int × Int} (hx : l[j]? = some x) (h : good m x.1 = false) : up m l j = up m l (j + 1) := by
  obtain ⟨hj, rfl⟩ := List.getElem?_eq_some_iff.1 hx
  unfold up; rw [List.drop_eq_getElem_cons hj, List.findIdx_cons, h]; simp; omega
theorem up_le (m : Do) (l : KV) (j : Nat) (h : j ≤ l.length) : up m l j ≤ l.length := by
  unfold up
  have := List.findIdx_le_length (xs := l.drop j) (p := fun x => good m x.1)
  rw [List.length_drop] at this; omega
theorem up_ge (m : Do) (l : KV) (j : Nat) : j ≤ up m l j := by unfold up; omega
theorem dn_le (m : Do) (l : KV) (q : Nat) : dn m l q ≤ q := by
  induction q with
  | zero => simp [dn]
  | succ q ih =>
    unfold dn
    split
    · split <;> omega
    · omega
theorem dn_here {m : Do} {l : KV} {q : Nat} {x : Int × Int} (hx : l[q]? = some x) (h : good m x.1 = true) : dn m l (q + 1) = q + 1 := by
  unfold dn; rw [hx]; simp [h]
theorem dn_on {m : Do} {l : KV} {q : Nat} {x : Int × Int} (hx : l[q]? = some x) (h : good m x.1 = false) : dn m l (q + 1) = dn m l q := by
  conv => lhs; unfold dn
  rw [hx]; simp [h]

/-- Where an iterator stands behind a move. -/
def mvPos (l : KV) (p : Nat) (m : Do) : Nat :=
  if m.op = 1 then min (p + 1) (l.length + 1) else if m.op = 2 then p - 1 else if m.op = 3 then 1 else if m.op = 4 then l.length
  else if m.op = 5 then 0 else if m.op = 6 then l.length + 1 else if m.op = 7 then up m l (min p l.length) + 1 else if m.op = 8 then dn m l (p - 1) else p
/-- Does it tell what it stands at? -/
def mvTell (m : Do) : Bool := decide (m.op = 1 ∨ m.op = 2 ∨ m.op = 3 ∨ m.op = 4 ∨ m.op = 7 ∨ m.op = 8)
def seenAt (l : KV) (p : Nat) : Option (Int × Int) := if p = 0 then none else l[p - 1]?
def mvSeen (l : KV) (p : Nat) (m : Do) : Option (Int × Int) := if mvTell m then seenAt l (mvPos l p m) else none
def goFrom (l : KV) : Nat → List Do → Nat
  | p, [] => p
  | p, m :: ms => goFrom l (mvPos l p m) ms
def walkFrom (l : KV) : Nat → List Do → List (Option (Int × Int))
  | _, [] => []
  | p, m :: ms => mvSeen l p m :: walkFrom l (mvPos l p m) ms
theorem mvPos_le {l : KV} {p : Nat} (h : p ≤ l.length + 1) (m : Do) : mvPos l p m ≤ l.length + 1 := by
  unfold mvPos
  have h1 := up_le m l (min p l.length) (by omega)
  have h2 := dn_le m l (p - 1)
  repeat' split
  all_goals omega
theorem goFrom_le {l : KV} (ms : List Do) {p : Nat} (h : p ≤ l.length + 1) : goFrom l p ms ≤ l.length + 1 := by
  induction ms generalizing p with
  | nil => exact h
  | cons m ms ih => exact ih (mvPos_le h m)
theorem walkFrom_length (l : KV) (p : Nat) (ms : List Do) : (walkFrom l p ms).length = ms.length := by
  induction ms generalizing p with
  | nil => rfl
  | cons m ms ih => simp [walkFrom, ih]
theorem walkFrom_append (l : KV) (p : Nat) (a b : List Do) : walkFrom l p (a ++ b) = walkFrom l p a ++ walkFrom l (goFrom l p a) b := by
  induction a generalizing p with
  | nil => rfl
  | cons m a ih => simp [walkFrom, goFrom, ih]
theorem goFrom_append (l : KV) (p : Nat) (a b : List Do) : goFrom l p (a ++ b) = goFrom l (goFrom l p a) b := by
  induction a generalizing p with
  | nil => rfl
  | cons m a ih => simp [goFrom, ih]
theorem walkFrom_take_succ (l : KV) (p : Nat) (ms : List Do) (k : Nat) (m : Do) (h : ms[k]? = some m) :
    walkFrom l p (ms.take (k + 1)) = walkFrom l p (ms.take k) ++ [mvSeen l (goFrom l p (ms.take k)) m] ∧ goFrom l p (ms.take (k + 1)) = mvPos l (goFrom l p (ms.take k)) m := by
  rw [List.take_add_one, h]
  simp only [Option.toList_some]
  rw [walkFrom_append, goFrom_append]
  exact ⟨rfl, rfl⟩

/-! What the laws say of walks -/

theorem mvPos_next (l : KV) (p : Nat) (a b : Int) : mvPos l p ⟨1, a, b⟩ = min (p + 1) (l.length + 1) := rfl
theorem mvPos_prev (l : KV) (p : Nat) (a b : Int) : mvPos l p ⟨2, a, b⟩ = p - 1 := rfl
theorem fwd_get (l : KV) (p n k : Nat) (hk : k < n) (hp : p + k ≤ l.length) : (walkFrom l p (List.replicate n ⟨1, 0, 0⟩))[k]? = some (l[p + k]?) := by
  induction n generalizing p k with
  | zero => omega
  | succ n ih =>
    rw [List.replicate_succ, walkFrom]
    cases k with
    | zero =>
      simp only [List.getElem?_cons_zero, Nat.add_zero]
      congr 1
      unfold mvSeen seenAt mvTell
      rw [mvPos_next, show min (p + 1) (l.length + 1) = p + 1 by omega]
      simp
    | succ k =>
      rw [List.getElem?_cons_succ, mvPos_next, show min (p + 1) (l.length + 1) = p + 1 by omega, ih (p + 1) k (by omega) (by omega)]
      congr 2; omega
theorem bck_get (l : KV) (p n k : Nat) (hk : k < n) (hp : k + 1 ≤ p) (hl : p ≤ l.length + 1) : (walkFrom l p (List.replicate n ⟨2, 0, 0⟩))[k]? = some (seenAt l (p - 1 - k)) := by
  induction n generalizing p k with
  | zero => omega
  | succ n ih =>
    rw [List.replicate_succ, walkFrom]
    cases k with
    | zero =>
      simp only [List.getElem?_cons_zero, Nat.sub_zero]
      rfl
    | succ k =>
      rw [List.getElem?_cons_succ, mvPos_prev, ih (p - 1) k (by omega) (by omega) (by omega)]
      congr 2; omega
theorem walk_ended (l : KV) (p q : Nat) (a b c d : Int) : walkFrom l p [⟨3, a, b⟩, ⟨4, c, d⟩] = walkFrom l q [⟨3, a, b⟩, ⟨4, c, d⟩] := rfl
theorem walk_begun (l : KV) (p q : Nat) (a b : Int) (ms : List Do) : walkFrom l p (⟨5, a, b⟩ :: ms) = walkFrom l q (⟨5, a, b⟩ :: ms) := rfl

end Go.Proofs.Ytpmikeeeocnfnaa
