/-
  The plain side: what is found after a number was put in or taken out.
-/
import Derived.Test.YtpmikeeeocnfnaaPure
namespace Go.Proofs.Ytpmikeeeocnfnaa

theorem look_none_of_behind {o : Ord} {k : Int} {l : KV} (h : Behind o l k) : look o k l = none := by
  cases l with
  | nil => rfl
  | cons x l =>
    obtain ⟨a, y⟩ := x
    have := h (a, y) (by simp)
    simp only at this
    rw [look, if_pos this]
theorem look_ins_same {o : Ord} {k v : Int} {l : KV} : look o k (ins o k v l) = some (k, v) := by
  induction l with
  | nil => simp [ins, look]
  | cons x l ih =>
    obtain ⟨a, y⟩ := x
    simp only [ins]
    split
    · simp [look]
    · split
      · simp [look]
      · rw [look, if_neg (by omega), if_neg (by omega), ih]
theorem look_ins_other {o : Ord} {j k v : Int} {l : KV} (h : o.rk j ≠ o.rk k) : look o j (ins o k v l) = look o j l := by
  induction l with
  | nil => simp [ins, look, h]
  | cons x l ih =>
    obtain ⟨a, y⟩ := x
    simp only [ins]
    split
    · rename_i hlt
      rw [look]
      split
      · rw [look, if_pos (by omega)]
      · rfl
    · split
      · rename_i he
        rw [look, look]
        split
        · rw [if_pos (by omega)]
        · rw [if_neg (by omega), if_neg (by omega)]
      · rw [look, look, ih]
theorem look_del_same {o : Ord} {k : Int} {l : KV} (hs : Asc o l) : look o k (del o k l) = none := by
  induction l with
  | nil => rfl
  | cons x l ih =>
    obtain ⟨a, y⟩ := x
    have h' := List.pairwise_cons.1 hs
    simp only [del]
    split
    · rename_i hlt; rw [look, if_pos hlt]
    · split
      · rename_i he
        exact look_none_of_behind (fun p hp => by have := h'.1 p hp; simp only at this; omega)
      · rw [look, if_neg (by omega), if_neg (by omega), ih h'.2]
theorem look_del_other {o : Ord} {j k : Int} {l : KV} (hs : Asc o l) (h : o.rk j ≠ o.rk k) : look o j (del o k l) = look o j l := by
  induction l with
  | nil => rfl
  | cons x l ih =>
    obtain ⟨a, y⟩ := x
    have h' := List.pairwise_cons.1 hs
    simp only [del]
    split
    · rfl
    · split
      · rename_i he
        rw [look]
        split
        · rename_i hlt
          exact look_none_of_behind (fun p hp => by have := h'.1 p hp; simp only at this; omega)
        · rw [if_neg (by omega)]
      · rw [look, look, ih h'.2]
theorem run_append (o : Ord) (acts more : List Do) : run o (acts ++ more) = more.foldl (step o) (run o acts) := by simp [run]
theorem rk_inj {o : Ord} (ho : o.plain) {a b : Int} (h : o.rk a = o.rk b) : a = b := by
  rcases ho with h0 | h0 <;> simp [Ord.rk, h0] at h <;> omega
theorem Ord.plain.fine {o : Ord} (h : o.plain) : o.fine := by
  rcases h with h | h
  · exact .inl h
  · exact .inr (.inl h)
theorem step_put (o : Ord) (l : KV) (k v : Int) : step o l ⟨1, k, v⟩ = ins o k v l := by simp [step]
theorem step_rem (o : Ord) (l : KV) (k v : Int) : step o l ⟨2, k, v⟩ = del o k l := by simp [step]
theorem step_clr (o : Ord) (l : KV) (k v : Int) : step o l ⟨3, k, v⟩ = [] := by simp [step]

end Go.Proofs.Ytpmikeeeocnfnaa
