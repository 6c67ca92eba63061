/-
  The plain side of searching a binary tree: the path to the node of a number.
-/
import Derived.Test.YtpmikeeeocnfnaaPure
namespace Go.Proofs.Ytpmikeeeocnfnaa

/-- The node of a number, with the path to it. -/
def seek (o : Ord) (k : Int) : Ctx → BT → Option (Ctx × BT)
  | _, .nil => none
  | c, .node i l k' v b r => if o.rk k = o.rk k' then some (c, .node i l k' v b r) else if o.rk k < o.rk k' then seek o k (.lf i k' v b r :: c) l else seek o k (.rf i l k' v b :: c) r
theorem seek_here {o : Ord} {k : Int} {c : Ctx} {i : Nat} {l r : BT} {k' v b : Int} (h : o.rk k = o.rk k') : seek o k c (.node i l k' v b r) = some (c, .node i l k' v b r) := by rw [seek, if_pos h]
theorem seek_left {o : Ord} {k : Int} {c : Ctx} {i : Nat} {l r : BT} {k' v b : Int} (h : o.rk k < o.rk k') : seek o k c (.node i l k' v b r) = seek o k (.lf i k' v b r :: c) l := by rw [seek, if_neg (by omega), if_pos h]
theorem seek_right {o : Ord} {k : Int} {c : Ctx} {i : Nat} {l r : BT} {k' v b : Int} (h : o.rk k' < o.rk k) : seek o k c (.node i l k' v b r) = seek o k (.rf i l k' v b :: c) r := by rw [seek, if_neg (by omega), if_neg (by omega)]

/-- A node of the tree: its key and value are what the reference finds. -/
theorem seek_look {o : Ord} {k : Int} {c : Ctx} {t : BT} (h : Asc o t.kvs) :
    (∃ c' i l k' v b r, seek o k c t = some (c', .node i l k' v b r) ∧ look o k t.kvs = some (k', v) ∧ Ctx.plug c' (.node i l k' v b r) = Ctx.plug c t ∧ o.rk k = o.rk k') ∨ (seek o k c t = none ∧ look o k t.kvs = none) := by
  induction t generalizing c with
  | nil => exact .inr ⟨rfl, rfl⟩
  | node i l k' v' b r ihl ihr =>
    have hm := asc_mid.1 h
    rcases Int.lt_trichotomy (o.rk k) (o.rk k') with hlt | he | hgt
    · rw [seek_left hlt]
      simp only [BT.kvs]
      rw [look_behind hlt]
      exact ihl hm.1
    · rw [seek_here he]
      simp only [BT.kvs]
      rw [look_here hm.2.2.1 he]
      exact .inl ⟨c, i, l, k', v', b, r, rfl, rfl, rfl, he⟩
    · rw [seek_right hgt]
      simp only [BT.kvs]
      rw [look_right hm.2.2.1 hgt]
      exact ihr hm.2.1

/-- The block of the node that was found. -/
def seekId (o : Ord) (k : Int) (t : BT) : Option Nat := (seek o k [] t).bind fun x => x.2.root

end Go.Proofs.Ytpmikeeeocnfnaa
