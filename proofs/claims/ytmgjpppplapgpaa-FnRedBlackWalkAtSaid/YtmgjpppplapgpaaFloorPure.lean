/-
  The plain side of Floor and Ceiling of a binary tree.
-/
import Derived.Test.YtmgjpppplapgpaaKept
namespace Go.Proofs.Ytmgjpppplapgpaa

theorem plc_ahead {o : Ord} {k : Int} {l r : KV} (h : Ahead o l k) : plc o k (l ++ r) = l.length + plc o k r := by
  induction l with
  | nil => simp
  | cons x l ih =>
    obtain ⟨a, y⟩ := x
    have hx := h (a, y) (by simp)
    simp only at hx
    simp only [List.cons_append, plc, hx, if_true, List.length_cons]
    rw [ih (fun p hp => h p (by simp [hp]))]
    omega
theorem plc_before {o : Ord} {k a x : Int} {l r : KV} (h : ¬ o.rk a < o.rk k) : plc o k (l ++ (a, x) :: r) = plc o k l := by
  induction l with
  | nil => simp [plc, h]
  | cons y l ih =>
    obtain ⟨b, z⟩ := y
    simp only [List.cons_append, plc]
    split
    · rw [ih]
    · rfl
theorem hasK_of {o : Ord} {k : Int} {l : KV} {p : Int × Int} (h : l[plc o k l]? = some p) : hasK o k l = decide (o.rk p.1 = o.rk k) := by unfold hasK; rw [h]
theorem hasK_none {o : Ord} {k : Int} {l : KV} (h : l[plc o k l]? = none) : hasK o k l = false := by unfold hasK; rw [h]

theorem floor_here {o : Ord} {k a x : Int} {l r : KV} (hl : Ahead o l a) (h : o.rk k = o.rk a) : floorP o k (l ++ (a, x) :: r) = some (a, x) := by
  have hp : plc o k (l ++ (a, x) :: r) = l.length := by rw [plc_ahead (fun p hp => by rw [h]; exact hl p hp)]; simp [plc, h]
  have hg : (l ++ (a, x) :: r)[plc o k (l ++ (a, x) :: r)]? = some (a, x) := by rw [hp]; simp
  unfold floorP
  rw [hasK_of hg, decide_eq_true h.symm, if_pos rfl, hg]
theorem ceil_here {o : Ord} {k a x : Int} {l r : KV} (hl : Ahead o l a) (h : o.rk k = o.rk a) : ceilP o k (l ++ (a, x) :: r) = some (a, x) := by
  have hp : plc o k (l ++ (a, x) :: r) = l.length := by rw [plc_ahead (fun p hp => by rw [h]; exact hl p hp)]; simp [plc, h]
  unfold ceilP
  rw [hp]; simp
theorem floor_left {o : Ord} {k a x : Int} {l r : KV} (h : o.rk k < o.rk a) : floorP o k (l ++ (a, x) :: r) = floorP o k l := by
  have hp : plc o k (l ++ (a, x) :: r) = plc o k l := plc_before (by omega)
  have hle := plc_le o k l
  have hbefore : ∀ j, j < l.length → (l ++ (a, x) :: r)[j]? = l[j]? := fun j hj => List.getElem?_append_left hj
  unfold floorP
  rw [hp]
  rcases Nat.lt_or_ge (plc o k l) l.length with hlt | hge
  · obtain ⟨p, hpp⟩ : ∃ p, l[plc o k l]? = some p := ⟨_, List.getElem?_eq_getElem hlt⟩
    have h1 : (l ++ (a, x) :: r)[plc o k (l ++ (a, x) :: r)]? = some p := by rw [hp, hbefore _ hlt, hpp]
    rw [hasK_of h1, hasK_of hpp, hbefore _ hlt]
    split
    · rfl
    · split
      · rfl
      · rw [hbefore _ (by omega)]
  · have he : plc o k l = l.length := by omega
    have h1 : (l ++ (a, x) :: r)[plc o k (l ++ (a, x) :: r)]? = some (a, x) := by rw [hp, he]; simp
    have h2 : l[plc o k l]? = none := List.getElem?_eq_none (by omega)
    rw [hasK_of h1, hasK_none h2, decide_eq_false (show ¬ o.rk a = o.rk k by omega)]
    simp only [Bool.false_eq_true, if_false]
    split
    · rfl
    · rw [hbefore _ (by omega)]
theorem ceil_left {o : Ord} {k a x : Int} {l r : KV} (h : o.rk k < o.rk a) : ceilP o k (l ++ (a, x) :: r) = (ceilP o k l).or (some (a, x)) := by
  have hp : plc o k (l ++ (a, x) :: r) = plc o k l := plc_before (by omega)
  have hle := plc_le o k l
  unfold ceilP
  rw [hp]
  rcases Nat.lt_or_ge (plc o k l) l.length with hlt | hge
  · rw [List.getElem?_append_left hlt, List.getElem?_eq_getElem hlt]; rfl
  · have he : plc o k l = l.length := by omega
    rw [he]; simp
theorem floor_right {o : Ord} {k a x : Int} {l r : KV} (hl : Ahead o l a) (h : o.rk a < o.rk k) : floorP o k (l ++ (a, x) :: r) = (floorP o k r).or (some (a, x)) := by
  have hp : plc o k (l ++ (a, x) :: r) = l.length + (plc o k r + 1) := by rw [plc_ahead (fun p hp => by have := hl p hp; omega)]; simp [plc, h]
  have hg : ∀ j, (l ++ (a, x) :: r)[l.length + (j + 1)]? = r[j]? := fun j => by rw [List.getElem?_append_right (by omega)]; simp
  have hk : hasK o k (l ++ (a, x) :: r) = hasK o k r := by unfold hasK; rw [hp, hg]
  unfold floorP
  rw [hk, hp, hg]
  split
  · rename_i hh
    obtain ⟨p, hpp, _⟩ := hasK_some hh
    rw [hpp]; rfl
  · rw [if_neg (by omega)]
    by_cases h0 : plc o k r = 0
    · rw [if_pos h0, h0]; simp
    · rw [if_neg h0]
      have hle := plc_le o k r
      obtain ⟨p, hpp⟩ : ∃ p, r[plc o k r - 1]? = some p := ⟨_, List.getElem?_eq_getElem (by omega)⟩
      rw [hpp, show l.length + (plc o k r + 1) - 1 = l.length + ((plc o k r - 1) + 1) by omega, hg, hpp]; rfl
theorem ceil_right {o : Ord} {k a x : Int} {l r : KV} (hl : Ahead o l a) (h : o.rk a < o.rk k) : ceilP o k (l ++ (a, x) :: r) = ceilP o k r := by
  have hp : plc o k (l ++ (a, x) :: r) = l.length + (plc o k r + 1) := by rw [plc_ahead (fun p hp => by have := hl p hp; omega)]; simp [plc, h]
  unfold ceilP
  rw [hp, List.getElem?_append_right (by omega)]; simp

section
open Go.RowKit
variable {w0 w : World} {g B : Nat} {o : Ord} {rows : List (Option Addr × List Value)} {sts : List (Value × KV)}
theorem keptAt (h : Kept w0 g o rows sts B w) (ho : o.fine) (A : Option Addr) (l : KV) (k : Int) (n cap : Nat) (hn : l.length = n) (hn1 : n ≤ 100000) (hm : (A, prCells l) ∈ rows) :
    Calls Try.prog 47 #[.agg #[.int .i64 o.kind, .int .i64 o.m], .slice A n cap, .int .i64 k] w fun e w' => e = .returned (.int .i64 (plc o k l)) ∧ Kept w0 g o rows sts w'.heap.size w' := by
  refine (at_walk o ho k n cap A l w hn hn1 ((h.rows _ hm).more h.le)).mono ?_
  rintro e w' ⟨rfl, b⟩
  exact ⟨rfl, h.on b⟩
theorem keptHas (h : Kept w0 g o rows sts B w) (ho : o.fine) (A : Option Addr) (l : KV) (k : Int) (n cap : Nat) (hn : l.length = n) (hm : (A, prCells l) ∈ rows) :
    Calls Try.prog 49 #[.agg #[.int .i64 o.kind, .int .i64 o.m], .slice A n cap, .int .i64 (plc o k l), .int .i64 k] w fun e w' => e = .returned (.bool (hasK o k l)) ∧ Kept w0 g o rows sts w'.heap.size w' ∧ Below w.heap.size w w' := by
  refine (has_walk o ho k n cap A l w hn ((h.rows _ hm).more h.le)).mono ?_
  rintro e w' ⟨rfl, b⟩
  exact ⟨rfl, h.on b, b⟩
end

/-- A node that is pointed to, or none: its key and value. -/
def NodeIs (w : World) (L : Lay) (p : Option Nat) (x : Option (Int × Int)) : Prop :=
  (p = none ∧ x = none) ∨ ∃ i k v, p = some i ∧ x = some (k, v) ∧ w.cell? ⟨i, 0, none⟩ = some (.iface L.ti (.int .i64 k)) ∧ w.cell? ⟨i, 1, none⟩ = some (.iface L.ti (.int .i64 v))
theorem NodeIs.drewN {w : World} {L : Lay} {p : Option Nat} {x : Option (Int × Int)} (h : NodeIs w L p x) (n : Nat) : NodeIs (w.drewN n) L p x := h
theorem NodeIs.none (w : World) (L : Lay) : NodeIs w L none none := .inl ⟨rfl, rfl⟩
theorem St.nodeIs {L : Lay} {w : World} {H : Hd} {c : Ctx} {i : Nat} {l r : BT} {k v b : Int} (s : St L w H c (.node i l k v b r)) : NodeIs w L (some i) (some (k, v)) :=
  .inr ⟨i, k, v, rfl, rfl, s.ht.1.cells_.1, s.ht.1.cells_.2.1⟩

end Go.Proofs.Ytmgjpppplapgpaa
