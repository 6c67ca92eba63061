/-
  The plain side: the reference's place of a number in a list; lists that are found alike are the same; what the laws say of lists.
-/
import Derived.Test.YtpmikeeeocnfnaaLook
namespace Go.Proofs.Ytpmikeeeocnfnaa

/-- The place of the first pair that does not come ahead of a number. -/
def plc (o : Ord) (k : Int) : KV → Nat
  | [] => 0
  | (a, _) :: l => if o.rk a < o.rk k then plc o k l + 1 else 0
/-- Is the pair at that place the one of the number? -/
def hasK (o : Ord) (k : Int) (l : KV) : Bool := match l[plc o k l]? with
  | some p => decide (o.rk p.1 = o.rk k)
  | none => false
theorem plc_le (o : Ord) (k : Int) (l : KV) : plc o k l ≤ l.length := by
  induction l with
  | nil => simp [plc]
  | cons x l ih =>
    obtain ⟨a, y⟩ := x
    simp only [plc, List.length_cons]; split <;> omega
theorem plc_lt {o : Ord} {k : Int} {l : KV} {i : Nat} {p : Int × Int} (hi : i < plc o k l) (hp : l[i]? = some p) : o.rk p.1 < o.rk k := by
  induction l generalizing i with
  | nil => simp at hp
  | cons x l ih =>
    obtain ⟨a, y⟩ := x
    simp only [plc] at hi
    split at hi
    · cases i with
      | zero => simp at hp; subst hp; assumption
      | succ i => simp at hp; exact ih (by omega) hp
    · omega
theorem plc_stop {o : Ord} {k : Int} {l : KV} {p : Int × Int} (hp : l[plc o k l]? = some p) : ¬ o.rk p.1 < o.rk k := by
  induction l with
  | nil => simp at hp
  | cons x l ih =>
    obtain ⟨a, y⟩ := x
    simp only [plc] at hp
    split at hp
    · simp at hp; exact ih hp
    · simp at hp; subst hp; assumption
theorem hasK_cons {o : Ord} {k a y : Int} {l : KV} : hasK o k ((a, y) :: l) = if o.rk a < o.rk k then hasK o k l else decide (o.rk a = o.rk k) := by
  unfold hasK
  simp only [plc]
  by_cases h : o.rk a < o.rk k
  · simp [h]
  · simp [h]
theorem ins_plc (o : Ord) (k v : Int) (l : KV) : ins o k v l = l.take (plc o k l) ++ (k, v) :: l.drop (plc o k l + if hasK o k l then 1 else 0) := by
  induction l with
  | nil => simp [ins, plc]
  | cons x l ih =>
    obtain ⟨a, y⟩ := x
    rw [hasK_cons]
    simp only [ins, plc]
    rcases Int.lt_trichotomy (o.rk k) (o.rk a) with h | h | h
    · have h2 : ¬ o.rk a < o.rk k := by omega
      have h3 : ¬ o.rk a = o.rk k := by omega
      simp [h, h2, h3]
    · simp [h]
    · have h2 : ¬ o.rk k < o.rk a := by omega
      have h3 : ¬ o.rk k = o.rk a := by omega
      simp only [h, h2, h3, if_true, if_false]
      rw [ih, Nat.add_right_comm]
      simp
theorem del_plc (o : Ord) (k : Int) (l : KV) : del o k l = if hasK o k l then l.take (plc o k l) ++ l.drop (plc o k l + 1) else l := by
  induction l with
  | nil => simp [del, hasK]
  | cons x l ih =>
    obtain ⟨a, y⟩ := x
    rw [hasK_cons]
    simp only [del, plc]
    rcases Int.lt_trichotomy (o.rk k) (o.rk a) with h | h | h
    · have h2 : ¬ o.rk a < o.rk k := by omega
      have h3 : ¬ o.rk a = o.rk k := by omega
      simp [h, h2, h3]
    · simp [h]
    · have h2 : ¬ o.rk k < o.rk a := by omega
      have h3 : ¬ o.rk k = o.rk a := by omega
      simp only [h, h2, h3, if_true, if_false]
      rw [ih]
      split <;> simp
theorem look_plc (o : Ord) (k : Int) (l : KV) : look o k l = if hasK o k l then l[plc o k l]? else none := by
  induction l with
  | nil => simp [look, hasK]
  | cons x l ih =>
    obtain ⟨a, y⟩ := x
    rw [hasK_cons]
    simp only [look, plc]
    rcases Int.lt_trichotomy (o.rk k) (o.rk a) with h | h | h
    · have h2 : ¬ o.rk a < o.rk k := by omega
      have h3 : ¬ o.rk a = o.rk k := by omega
      simp [h, h2, h3]
    · simp [h]
    · have h2 : ¬ o.rk k < o.rk a := by omega
      have h3 : ¬ o.rk k = o.rk a := by omega
      simp only [h, h2, h3, if_true, if_false]
      rw [ih]
      simp
theorem hasK_some {o : Ord} {k : Int} {l : KV} (h : hasK o k l = true) : ∃ p, l[plc o k l]? = some p ∧ o.rk p.1 = o.rk k := by
  unfold hasK at h
  cases hp : l[plc o k l]? with
  | none => rw [hp] at h; cases h
  | some p => rw [hp] at h; exact ⟨p, rfl, by simpa using h⟩

/-- What is found depends on the number's rank alone. -/
theorem look_congr {o : Ord} {j k : Int} (h : o.rk j = o.rk k) (l : KV) : look o j l = look o k l := by
  induction l with
  | nil => rfl
  | cons x l ih =>
    obtain ⟨a, y⟩ := x
    simp only [look, h, ih]
theorem look_rk {o : Ord} {k : Int} {l : KV} {p : Int × Int} (h : look o k l = some p) : o.rk p.1 = o.rk k := by
  induction l with
  | nil => simp [look] at h
  | cons x l ih =>
    obtain ⟨a, y⟩ := x
    simp only [look] at h
    split at h
    · cases h
    · split at h
      · rename_i he
        injection h with h; subst h; exact he.symm
      · exact ih h
theorem asc_behind {o : Ord} {a y : Int} {l : KV} (h : Asc o ((a, y) :: l)) : Behind o l a := fun p hp => (List.pairwise_cons.1 h).1 p hp
/-- Two lists in order in which the same is found are the same. -/
theorem asc_ext {o : Ord} {l r : KV} (hl : Asc o l) (hr : Asc o r) (h : ∀ k, look o k l = look o k r) : l = r := by
  induction l generalizing r with
  | nil =>
    cases r with
    | nil => rfl
    | cons x r =>
      obtain ⟨a, y⟩ := x
      have := h a
      simp [look] at this
  | cons x l ih =>
    obtain ⟨a, y⟩ := x
    cases r with
    | nil =>
      have := h a
      simp [look] at this
    | cons z r =>
      obtain ⟨b, u⟩ := z
      have ha := h a
      have hb := h b
      simp only [look, Int.lt_irrefl, if_false, if_true] at ha hb
      have bl := asc_behind hl
      have br := asc_behind hr
      rcases Int.lt_trichotomy (o.rk a) (o.rk b) with c | c | c
      · rw [if_pos c] at ha; cases ha
      · rw [if_neg (by omega), if_pos c] at ha
        injection ha with ha
        rw [ha]
        congr 1
        refine ih (List.pairwise_cons.1 hl).2 (List.pairwise_cons.1 hr).2 (fun k => ?_)
        rcases Int.lt_or_le (o.rk a) (o.rk k) with e | e
        · have := h k
          simp only [look] at this
          rw [if_neg (by omega), if_neg (by omega), if_neg (by omega), if_neg (by omega)] at this
          exact this
        · rw [look_none_of_behind (fun p hp => by have := bl p hp; omega), look_none_of_behind (fun p hp => by have := br p hp; omega)]
      · rw [if_pos c] at hb; cases hb

/-! The laws of lists -/

theorem ins_ins {o : Ord} {k v x : Int} {l : KV} : ins o k x (ins o k v l) = ins o k x l := by
  induction l with
  | nil => simp [ins]
  | cons p l ih =>
    obtain ⟨a, y⟩ := p
    by_cases h1 : o.rk k < o.rk a
    · simp [ins, h1]
    · by_cases h2 : o.rk k = o.rk a
      · simp [ins, h2]
      · simp [ins, h1, h2, ih]
/-- What is found behind a step, by the number's rank. -/
def stepLook (o : Ord) (a : Do) (k : Int) (x : Option (Int × Int)) : Option (Int × Int) :=
  if a.op = 1 then (if o.rk k = o.rk a.key then some (a.key, a.val) else x) else if a.op = 2 then (if o.rk k = o.rk a.key then none else x) else if a.op = 3 then none else x
theorem look_step {o : Ord} {l : KV} (hl : Asc o l) (a : Do) (k : Int) : look o k (step o l a) = stepLook o a k (look o k l) := by
  unfold step stepLook
  split
  · split
    · rename_i h
      rw [look_congr h, look_ins_same]
    · rename_i h
      exact look_ins_other h
  · split
    · split
      · rename_i h
        rw [look_congr h, look_del_same hl]
      · rename_i h
        exact look_del_other hl h
    · split <;> rfl
theorem step_comm {o : Ord} (ho : o.plain) {l : KV} (hl : Asc o l) (a b : Do) (hk : a.key ≠ b.key) (ha : a.op ≠ 3) (hb : b.op ≠ 3) : step o (step o l a) b = step o (step o l b) a := by
  refine asc_ext ((hl.step a).step b) ((hl.step b).step a) (fun k => ?_)
  rw [look_step (hl.step a), look_step hl, look_step (hl.step b), look_step hl]
  have hne : o.rk a.key ≠ o.rk b.key := fun e => hk (rk_inj ho e)
  unfold stepLook
  by_cases h1 : o.rk k = o.rk a.key
  · have h2 : o.rk k ≠ o.rk b.key := fun e => hne (h1.symm.trans e)
    simp only [h1, ha, hb, hne, if_true, if_false]
    split <;> split <;> first | rfl | (split <;> rfl)
  · simp only [h1, ha, hb, if_false]
    by_cases h2 : o.rk k = o.rk b.key <;> simp only [h2, if_true, if_false] <;> (split <;> (try split) <;> (try split) <;> (try split) <;> rfl)
theorem undone {o : Ord} {l : KV} (hl : Asc o l) {k : Int} (v : Int) (h : look o k l = none) : del o k (ins o k v l) = l := by
  refine asc_ext hl.ins.del hl (fun j => ?_)
  by_cases e : o.rk j = o.rk k
  · rw [look_congr e, look_del_same hl.ins, look_congr e, h]
  · rw [look_del_other hl.ins e, look_ins_other e]

/-! Upwards and downwards -/

def oUp : Ord := ⟨0, 0⟩
def oDown : Ord := ⟨1, 0⟩
theorem rk_up (a : Int) : oUp.rk a = a := rfl
theorem rk_down (a : Int) : oDown.rk a = -a := rfl
theorem asc_rev {l : KV} (h : Asc oUp l) : Asc oDown l.reverse := by
  unfold Asc at *
  rw [List.pairwise_reverse]
  exact h.imp fun h => by rw [rk_up, rk_up] at h; rw [rk_down, rk_down]; omega
theorem look_mem {o : Ord} {l : KV} (hl : Asc o l) {k : Int} {p : Int × Int} : look o k l = some p ↔ p ∈ l ∧ o.rk p.1 = o.rk k := by
  induction l with
  | nil => simp [look]
  | cons x l ih =>
    obtain ⟨a, y⟩ := x
    have hb := asc_behind hl
    have ih := ih (List.pairwise_cons.1 hl).2
    simp only [look]
    rcases Int.lt_trichotomy (o.rk k) (o.rk a) with c | c | c
    · rw [if_pos c]
      constructor
      · intro h; cases h
      · rintro ⟨h, e⟩
        rcases List.mem_cons.1 h with rfl | h
        · simp only at e; omega
        · have := hb p h; omega
    · rw [if_neg (by omega), if_pos c]
      constructor
      · intro h; injection h with h; subst h; exact ⟨by simp, c.symm⟩
      · rintro ⟨h, e⟩
        rcases List.mem_cons.1 h with rfl | h
        · rfl
        · have := hb p h; omega
    · rw [if_neg (by omega), if_neg (by omega), ih]
      constructor
      · rintro ⟨h, e⟩; exact ⟨by simp [h], e⟩
      · rintro ⟨h, e⟩
        rcases List.mem_cons.1 h with rfl | h
        · simp only at e; omega
        · exact ⟨h, e⟩
theorem look_rev {l : KV} (h : Asc oUp l) (k : Int) : look oDown k l.reverse = look oUp k l := by
  apply Option.ext
  intro p
  rw [look_mem (asc_rev h), look_mem h, List.mem_reverse, rk_down, rk_down, rk_up, rk_up]
  constructor <;> (rintro ⟨h, e⟩; exact ⟨h, by omega⟩)
theorem step_rev {l : KV} (h : Asc oUp l) (a : Do) : step oDown l.reverse a = (step oUp l a).reverse := by
  refine asc_ext ((asc_rev h).step a) (asc_rev (h.step a)) (fun k => ?_)
  rw [look_step (asc_rev h), look_rev h, look_rev (h.step a), look_step h]
  unfold stepLook
  rw [rk_down, rk_down, rk_up, rk_up]
  have e : (-k = -a.key) = (k = a.key) := by apply propext; omega
  simp only [e]
theorem run_rev (acts : List Do) : run oDown acts = (run oUp acts).reverse := by
  have g : ∀ (acts : List Do) (l : KV), Asc oUp l → acts.foldl (step oDown) l.reverse = (acts.foldl (step oUp) l).reverse := by
    intro acts
    induction acts with
    | nil => intro l _; rfl
    | cons a acts ih =>
      intro l hl
      simp only [List.foldl_cons]
      rw [step_rev hl, ih _ (hl.step a)]
  simpa [run] using g acts [] (Asc.nil _)
theorem run_cleared (o : Ord) (acts more : List Do) (k v : Int) : run o ((acts ++ [⟨3, k, v⟩]) ++ more) = run o more := by
  rw [run_append, run_append]
  simp [step_clr, run]
theorem run_snoc (o : Ord) (acts : List Do) (a : Do) : run o (acts ++ [a]) = step o (run o acts) a := by rw [run_append]; rfl
theorem run_snoc2 (o : Ord) (acts : List Do) (a b : Do) : run o (acts ++ [a, b]) = step o (step o (run o acts) a) b := by rw [run_append]; rfl
theorem asc_next {o : Ord} {l : KV} (h : Asc o l) {k : Nat} {p q : Int × Int} (hp : l[k]? = some p) (hq : l[k + 1]? = some q) : o.rk p.1 < o.rk q.1 := by
  have h1 := List.getElem?_eq_some_iff.1 hp
  have h2 := List.getElem?_eq_some_iff.1 hq
  obtain ⟨e1, rfl⟩ := h1
  obtain ⟨e2, rfl⟩ := h2
  exact List.pairwise_iff_getElem.1 h k (k + 1) e1 e2 (by omega)

end Go.Proofs.Ytpmikeeeocnfnaa
