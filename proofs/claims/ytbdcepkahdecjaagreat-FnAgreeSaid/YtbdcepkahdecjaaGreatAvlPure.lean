import Derived.Test.YtbdcepkahdecjaaGreatPures
namespace Go.Proofs.YtbdcepkahdecjaaGreat.Avl
open Go.Proofs.YtbdcepkahdecjaaGreat
def ht : BT → Nat
  | .nil => 0
  | .node _ l _ _ _ r => max (ht l) (ht r) + 1
def bal : BT → Int
  | .nil => 0
  | .node _ _ _ _ b _ => b
def ok : BT → Prop
  | .nil => True
  | .node _ l _ _ b r => ok l ∧ ok r ∧ b = (ht r : Int) - (ht l : Int) ∧ -1 ≤ b ∧ b ≤ 1
def singleR : BT → BT
  | .node s l k v _ (.node r rl k' v' _ rr) => .node r (.node s l k v 0 rl) k' v' 0 rr
  | t => t
def singleL : BT → BT
  | .node s (.node r ll k' v' _ lr) k v _ rr => .node r ll k' v' 0 (.node s lr k v 0 rr)
  | t => t
def doubleR : BT → BT
  | .node s l k v _ (.node r (.node p pl kp vp bp pr) kr vr _ rr) =>
    .node p (.node s l k v (if bp = 1 then -1 else 0) pl) kp vp 0 (.node r pr kr vr (if bp = -1 then 1 else 0) rr)
  | t => t
def doubleL : BT → BT
  | .node s (.node r ll kr vr _ (.node p pl kp vp bp pr)) k v _ rr =>
    .node p (.node r ll kr vr (if bp = 1 then -1 else 0) pl) kp vp 0 (.node s pr k v (if bp = -1 then 1 else 0) rr)
  | t => t
def growR : BT → BT × Bool
  | .node s l k v b r => if b = 0 then (.node s l k v 1 r, true) else if b = -1 then (.node s l k v 0 r, false) else
    if bal r = 1 then (singleR (.node s l k v b r), false) else (doubleR (.node s l k v b r), false)
  | t => (t, false)
def growL : BT → BT × Bool
  | .node s l k v b r => if b = 0 then (.node s l k v (-1) r, true) else if b = 1 then (.node s l k v 0 r, false) else
    if bal l = -1 then (singleL (.node s l k v b r), false) else (doubleL (.node s l k v b r), false)
  | t => (t, false)
def shrinkL : BT → BT × Bool
  | .node s l k v b r => if b = 0 then (.node s l k v 1 r, false) else if b = -1 then (.node s l k v 0 r, true) else
    match r with
    | .node i rl k' v' b' rr => if b' = 0 then (.node i (.node s l k v b rl) k' v' (-1) rr, false) else
      if b' = 1 then (singleR (.node s l k v b r), true) else (doubleR (.node s l k v b r), true)
    | .nil => (.node s l k v b r, true)
  | t => (t, false)
def shrinkR : BT → BT × Bool
  | .node s l k v b r => if b = 0 then (.node s l k v (-1) r, false) else if b = 1 then (.node s l k v 0 r, true) else
    match l with
    | .node i ll k' v' b' lr => if b' = 0 then (.node i ll k' v' 1 (.node s lr k v b r), false) else
      if b' = -1 then (singleL (.node s l k v b r), true) else (doubleL (.node s l k v b r), true)
    | .nil => (.node s l k v b r, true)
  | t => (t, false)
def put (o : Ord) (n : Nat) (k v : Int) : BT → BT × Bool
  | .nil => (.node n .nil k v 0 .nil, true)
  | .node i l k' v' b r =>
    if o.rk k = o.rk k' then (.node i l k v b r, false)
    else if o.rk k < o.rk k' then (if (put o n k v l).2 then growL (.node i (put o n k v l).1 k' v' b r) else (.node i (put o n k v l).1 k' v' b r, false))
    else (if (put o n k v r).2 then growR (.node i l k' v' b (put o n k v r).1) else (.node i l k' v' b (put o n k v r).1, false))
def minKV : BT → Int × Int
  | .nil => (0, 0)
  | .node _ .nil k v _ _ => (k, v)
  | .node _ l _ _ _ _ => minKV l
def cutMin : BT → BT × Bool
  | .nil => (.nil, false)
  | .node _ .nil _ _ _ r => (r, true)
  | .node i l k v b r => if (cutMin l).2 then shrinkL (.node i (cutMin l).1 k v b r) else (.node i (cutMin l).1 k v b r, false)
def remove (o : Ord) (k : Int) : BT → BT × Bool
  | .nil => (.nil, false)
  | .node i l k' v' b r =>
    if o.rk k = o.rk k' then
      match r with
      | .nil => (l, true)
      | r => if (cutMin r).2 then shrinkR (.node i l (minKV r).1 (minKV r).2 b (cutMin r).1) else (.node i l (minKV r).1 (minKV r).2 b (cutMin r).1, false)
    else if o.rk k < o.rk k' then (if (remove o k l).2 then shrinkL (.node i (remove o k l).1 k' v' b r) else (.node i (remove o k l).1 k' v' b r, false))
    else (if (remove o k r).2 then shrinkR (.node i l k' v' b (remove o k r).1) else (.node i l k' v' b (remove o k r).1, false))
theorem kvs_singleR (t : BT) : (singleR t).kvs = t.kvs := by unfold singleR; split <;> simp [BT.kvs]
theorem kvs_singleL (t : BT) : (singleL t).kvs = t.kvs := by unfold singleL; split <;> simp [BT.kvs]
theorem kvs_doubleR (t : BT) : (doubleR t).kvs = t.kvs := by unfold doubleR; split <;> simp [BT.kvs]
theorem kvs_doubleL (t : BT) : (doubleL t).kvs = t.kvs := by unfold doubleL; split <;> simp [BT.kvs]
theorem kvs_growR (t : BT) : (growR t).1.kvs = t.kvs := by
  unfold growR; split
  · split
    · rfl
    · split
      · rfl
      · split
        · exact kvs_singleR _
        · exact kvs_doubleR _
  · rfl
theorem kvs_growL (t : BT) : (growL t).1.kvs = t.kvs := by
  unfold growL; split
  · split
    · rfl
    · split
      · rfl
      · split
        · exact kvs_singleL _
        · exact kvs_doubleL _
  · rfl
theorem kvs_shrinkL (t : BT) : (shrinkL t).1.kvs = t.kvs := by
  unfold shrinkL; split
  · split
    · rfl
    · split
      · rfl
      · split
        · split
          · simp [BT.kvs]
          · split
            · simp only [kvs_singleR]
            · simp only [kvs_doubleR]
        · rfl
  · rfl
theorem kvs_shrinkR (t : BT) : (shrinkR t).1.kvs = t.kvs := by
  unfold shrinkR; split
  · split
    · rfl
    · split
      · rfl
      · split
        · split
          · simp [BT.kvs]
          · split
            · simp only [kvs_singleL]
            · simp only [kvs_doubleL]
        · rfl
  · rfl
theorem kvs_put {o : Ord} {n : Nat} {k v : Int} {t : BT} (h : Asc o t.kvs) : (put o n k v t).1.kvs = ins o k v t.kvs := by
  induction t with
  | nil => simp [put, BT.kvs, ins]
  | node i l k' v' b r ihl ihr =>
    have hm := asc_mid.1 h
    simp only [put]
    split
    · rename_i he
      simp only [BT.kvs]
      rw [ins_here hm.2.2.1 he]
    · split
      · rename_i hlt
        have hl : (if (put o n k v l).2 = true then growL (.node i (put o n k v l).1 k' v' b r) else (.node i (put o n k v l).1 k' v' b r, false)).1.kvs = (BT.node i (put o n k v l).1 k' v' b r).kvs := by
          split
          · exact kvs_growL _
          · rfl
        rw [hl]
        simp only [BT.kvs]
        rw [ihl hm.1, ins_behind hlt]
      · have hr : (if (put o n k v r).2 = true then growR (.node i l k' v' b (put o n k v r).1) else (.node i l k' v' b (put o n k v r).1, false)).1.kvs = (BT.node i l k' v' b (put o n k v r).1).kvs := by
          split
          · exact kvs_growR _
          · rfl
        rw [hr]
        simp only [BT.kvs]
        rw [ihr hm.2.1, ins_right hm.2.2.1 (by omega)]
theorem cutMin_step {i : Nat} {l r : BT} {k v b : Int} (hl : l ≠ .nil) :
    cutMin (.node i l k v b r) = if (cutMin l).2 then shrinkL (.node i (cutMin l).1 k v b r) else (.node i (cutMin l).1 k v b r, false) := by
  cases l with
  | nil => exact absurd rfl hl
  | node => simp only [cutMin]
theorem minKV_step {i : Nat} {l r : BT} {k v b : Int} (hl : l ≠ .nil) : minKV (.node i l k v b r) = minKV l := by
  cases l with
  | nil => exact absurd rfl hl
  | node => simp only [minKV]
theorem remove_found {o : Ord} {k : Int} {i : Nat} {l r : BT} {k' v' b : Int} (he : o.rk k = o.rk k') (hr : r ≠ .nil) :
    remove o k (.node i l k' v' b r) = if (cutMin r).2 then shrinkR (.node i l (minKV r).1 (minKV r).2 b (cutMin r).1) else (.node i l (minKV r).1 (minKV r).2 b (cutMin r).1, false) := by
  cases r with
  | nil => exact absurd rfl hr
  | node => simp only [remove, he, if_true]
theorem remove_last {o : Ord} {k : Int} {i : Nat} {l : BT} {k' v' b : Int} (he : o.rk k = o.rk k') : remove o k (.node i l k' v' b .nil) = (l, true) := by
  simp only [remove, he, if_true]
theorem remove_left {o : Ord} {k : Int} {i : Nat} {l r : BT} {k' v' b : Int} (he : o.rk k < o.rk k') :
    remove o k (.node i l k' v' b r) = if (remove o k l).2 then shrinkL (.node i (remove o k l).1 k' v' b r) else (.node i (remove o k l).1 k' v' b r, false) := by
  cases r <;> (simp only [remove]; rw [if_neg (by omega), if_pos he])
theorem remove_right {o : Ord} {k : Int} {i : Nat} {l r : BT} {k' v' b : Int} (he : o.rk k' < o.rk k) :
    remove o k (.node i l k' v' b r) = if (remove o k r).2 then shrinkR (.node i l k' v' b (remove o k r).1) else (.node i l k' v' b (remove o k r).1, false) := by
  cases r <;> (simp only [remove]; rw [if_neg (by omega), if_neg (by omega)])
theorem kvs_cutMin {t : BT} (h : t ≠ .nil) : minKV t :: (cutMin t).1.kvs = t.kvs := by
  induction t with
  | nil => exact absurd rfl h
  | node i l k v b r ihl _ =>
    by_cases hl : l = .nil
    · subst hl; simp [minKV, cutMin, BT.kvs]
    · have e := ihl hl
      rw [cutMin_step hl, minKV_step hl]
      have hk : (if (cutMin l).2 = true then shrinkL (.node i (cutMin l).1 k v b r) else (.node i (cutMin l).1 k v b r, false)).1.kvs = (BT.node i (cutMin l).1 k v b r).kvs := by
        split
        · exact kvs_shrinkL _
        · rfl
      rw [hk]
      simp only [BT.kvs]
      rw [← e]; rfl
theorem kvs_remove {o : Ord} {k : Int} {t : BT} (h : Asc o t.kvs) : (remove o k t).1.kvs = del o k t.kvs := by
  induction t with
  | nil => simp [remove, BT.kvs, del]
  | node i l k' v' b r ihl ihr =>
    have hm := asc_mid.1 h
    rcases Int.lt_trichotomy (o.rk k) (o.rk k') with hlt | he | hgt
    · rw [remove_left hlt]
      have hl : (if (remove o k l).2 = true then shrinkL (.node i (remove o k l).1 k' v' b r) else (.node i (remove o k l).1 k' v' b r, false)).1.kvs = (BT.node i (remove o k l).1 k' v' b r).kvs := by
        split
        · exact kvs_shrinkL _
        · rfl
      rw [hl]
      simp only [BT.kvs]
      rw [ihl hm.1, del_behind hlt]
    · by_cases hr : r = .nil
      · subst hr
        rw [remove_last he]
        simp only [BT.kvs]; rw [del_here hm.2.2.1 he]; simp
      · rw [remove_found he hr]
        have hk : (if (cutMin r).2 = true then shrinkR (.node i l (minKV r).1 (minKV r).2 b (cutMin r).1) else (.node i l (minKV r).1 (minKV r).2 b (cutMin r).1, false)).1.kvs = (BT.node i l (minKV r).1 (minKV r).2 b (cutMin r).1).kvs := by
          split
          · exact kvs_shrinkR _
          · rfl
        rw [hk]
        simp only [BT.kvs]
        rw [del_here hm.2.2.1 he, ← kvs_cutMin hr]
    · rw [remove_right hgt]
      have hr : (if (remove o k r).2 = true then shrinkR (.node i l k' v' b (remove o k r).1) else (.node i l k' v' b (remove o k r).1, false)).1.kvs = (BT.node i l k' v' b (remove o k r).1).kvs := by
        split
        · exact kvs_shrinkR _
        · rfl
      rw [hr]
      simp only [BT.kvs]
      rw [ihr hm.2.1, del_right hm.2.2.1 hgt]
theorem ht_pos {t : BT} (h : 0 < ht t) : ∃ i l k v b r, t = .node i l k v b r := by cases t <;> simp [ht] at h ⊢
theorem growR_ok {s : Nat} {l r : BT} {k v b : Int} {h0 : Nat} (hl : ok l) (hr : ok r) (hb : b = (h0 : Int) - ht l) (hb1 : -1 ≤ b) (hb2 : b ≤ 1) (hg : ht r = h0 + 1)
    (hlean : bal r ≠ 0 ∨ ht r = 1) :
    ok (growR (.node s l k v b r)).1 ∧ ht (growR (.node s l k v b r)).1 = max (ht l) h0 + 1 + (if (growR (.node s l k v b r)).2 then 1 else 0) ∧
    ((growR (.node s l k v b r)).2 = true → bal (growR (.node s l k v b r)).1 ≠ 0) := by
  unfold growR
  by_cases h1 : b = 0
  · subst h1
    simp only [if_true, ok, ht, bal]
    refine ⟨⟨hl, hr, by omega, by omega, by omega⟩, by omega, by simp⟩
  · by_cases h2 : b = -1
    · subst h2
      simp only [h1, if_false, if_true, ok, ht]
      exact ⟨⟨hl, hr, by omega, by omega, by omega⟩, by simp; omega, by simp⟩
    · have h3 : b = 1 := by omega
      subst h3
      simp only [h1, h2, if_false]
      obtain ⟨i, rl, k', v', b', rr, rfl⟩ := ht_pos (t := r) (by omega)
      simp only [ok, ht, bal] at hr hg hlean ⊢
      obtain ⟨hrl, hrr, hb', hb1', hb2'⟩ := hr
      by_cases h4 : b' = 1
      · subst h4
        simp only [if_true, singleR, ok, ht]
        exact ⟨⟨⟨hl, hrl, by omega, by omega, by omega⟩, hrr, by omega, by omega, by omega⟩, by simp; omega, by simp⟩
      · have h5 : b' = -1 := by omega
        subst h5
        obtain ⟨p, pl, kp, vp, bp, pr, rfl⟩ := ht_pos (t := rl) (by omega)
        simp only [ok, ht] at hrl hb' hg
        obtain ⟨hpl, hpr, hbp, hbp1, hbp2⟩ := hrl
        simp only [h4, if_false, doubleR, ok, ht]
        refine ⟨⟨⟨hl, hpl, ?_, ?_, ?_⟩, ⟨hpr, hrr, ?_, ?_, ?_⟩, ?_, ?_, ?_⟩, ?_, by simp⟩ <;> first | omega | (split <;> omega) | (simp; omega)
theorem growL_ok {s : Nat} {l r : BT} {k v b : Int} {h0 : Nat} (hl : ok l) (hr : ok r) (hb : b = (ht r : Int) - h0) (hb1 : -1 ≤ b) (hb2 : b ≤ 1) (hg : ht l = h0 + 1)
    (hlean : bal l ≠ 0 ∨ ht l = 1) :
    ok (growL (.node s l k v b r)).1 ∧ ht (growL (.node s l k v b r)).1 = max h0 (ht r) + 1 + (if (growL (.node s l k v b r)).2 then 1 else 0) ∧
    ((growL (.node s l k v b r)).2 = true → bal (growL (.node s l k v b r)).1 ≠ 0) := by
  unfold growL
  by_cases h1 : b = 0
  · subst h1
    simp only [if_true, ok, ht, bal]
    refine ⟨⟨hl, hr, by omega, by omega, by omega⟩, by omega, by simp⟩
  · by_cases h2 : b = 1
    · subst h2
      simp only [h1, if_false, if_true, ok, ht]
      exact ⟨⟨hl, hr, by omega, by omega, by omega⟩, by simp; omega, by simp⟩
    · have h3 : b = -1 := by omega
      subst h3
      simp only [h1, h2, if_false]
      obtain ⟨i, rl, k', v', b', rr, rfl⟩ := ht_pos (t := l) (by omega)
      simp only [ok, ht, bal] at hl hg hlean ⊢
      obtain ⟨hrl, hrr, hb', hb1', hb2'⟩ := hl
      by_cases h4 : b' = -1
      · subst h4
        simp only [if_true, singleL, ok, ht]
        exact ⟨⟨hrl, ⟨hrr, hr, by omega, by omega, by omega⟩, by omega, by omega, by omega⟩, by simp; omega, by simp⟩
      · have h5 : b' = 1 := by omega
        subst h5
        obtain ⟨p, pl, kp, vp, bp, pr, rfl⟩ := ht_pos (t := rr) (by omega)
        simp only [ok, ht] at hrr hb' hg
        obtain ⟨hpl, hpr, hbp, hbp1, hbp2⟩ := hrr
        simp only [h4, if_false, doubleL, ok, ht]
        refine ⟨⟨⟨hrl, hpl, ?_, ?_, ?_⟩, ⟨hpr, hr, ?_, ?_, ?_⟩, ?_, ?_, ?_⟩, ?_, by simp⟩ <;> first | omega | (split <;> omega) | (simp; omega)
theorem put_ok {o : Ord} {n : Nat} {k v : Int} {t : BT} (h : ok t) :
    ok (put o n k v t).1 ∧ ht (put o n k v t).1 = ht t + (if (put o n k v t).2 then 1 else 0) ∧ ((put o n k v t).2 = true → bal (put o n k v t).1 ≠ 0 ∨ ht (put o n k v t).1 = 1) := by
  induction t with
  | nil => simp [put, ok, ht]
  | node i l k' v' b r ihl ihr =>
    simp only [ok] at h
    obtain ⟨hl, hr, hb, hb1, hb2⟩ := h
    simp only [put]
    split
    · exact ⟨⟨hl, hr, hb, hb1, hb2⟩, by simp [ht], by simp⟩
    · split
      · obtain ⟨h1, h2, h3⟩ := ihl hl
        by_cases hf : (put o n k v l).2 = true
        · simp only [hf, if_true] at h2 h3 ⊢
          have := growL_ok (s := i) (k := k') (v := v') h1 hr hb hb1 hb2 h2 (h3 trivial)
          refine ⟨this.1, ?_, fun h => .inl (this.2.2 h)⟩
          rw [this.2.1]; simp only [ht]
        · simp only [hf, if_false, Bool.false_eq_true] at h2 ⊢
          simp only [ok, ht, h2]
          exact ⟨⟨h1, hr, by simpa using hb, hb1, hb2⟩, by simp, by simp⟩
      · obtain ⟨h1, h2, h3⟩ := ihr hr
        by_cases hf : (put o n k v r).2 = true
        · simp only [hf, if_true] at h2 h3 ⊢
          have := growR_ok (s := i) (k := k') (v := v') hl h1 hb hb1 hb2 h2 (h3 trivial)
          refine ⟨this.1, ?_, fun h => .inl (this.2.2 h)⟩
          rw [this.2.1]; simp only [ht]
        · simp only [hf, if_false, Bool.false_eq_true] at h2 ⊢
          simp only [ok, ht, h2]
          exact ⟨⟨hl, h1, by simpa using hb, hb1, hb2⟩, by simp, by simp⟩
theorem shrinkL_ok {s : Nat} {l r : BT} {k v b : Int} {h0 : Nat} (hl : ok l) (hr : ok r) (hb : b = (ht r : Int) - h0) (hb1 : -1 ≤ b) (hb2 : b ≤ 1) (hg : ht l + 1 = h0) :
    ok (shrinkL (.node s l k v b r)).1 ∧ ht (shrinkL (.node s l k v b r)).1 + (if (shrinkL (.node s l k v b r)).2 then 1 else 0) = max h0 (ht r) + 1 := by
  unfold shrinkL
  by_cases h1 : b = 0
  · subst h1
    simp only [if_true, ok, ht]
    exact ⟨⟨hl, hr, by omega, by omega, by omega⟩, by simp; omega⟩
  · by_cases h2 : b = -1
    · subst h2
      simp only [h1, if_false, if_true, ok, ht]
      exact ⟨⟨hl, hr, by omega, by omega, by omega⟩, by omega⟩
    · have h3 : b = 1 := by omega
      subst h3
      simp only [h1, h2, if_false]
      obtain ⟨i, rl, k', v', b', rr, rfl⟩ := ht_pos (t := r) (by omega)
      simp only [ok, ht] at hr hb ⊢
      obtain ⟨hrl, hrr, hb', hb1', hb2'⟩ := hr
      by_cases h0' : b' = 0
      · subst h0'
        simp only [if_true, ok, ht]
        exact ⟨⟨⟨hl, hrl, by omega, by omega, by omega⟩, hrr, by omega, by omega, by omega⟩, by simp; omega⟩
      · by_cases h4 : b' = 1
        · subst h4
          simp only [h0', if_false, if_true, singleR, ok, ht]
          exact ⟨⟨⟨hl, hrl, by omega, by omega, by omega⟩, hrr, by omega, by omega, by omega⟩, by omega⟩
        · have h5 : b' = -1 := by omega
          subst h5
          obtain ⟨p, pl, kp, vp, bp, pr, rfl⟩ := ht_pos (t := rl) (by omega)
          simp only [ok, ht] at hrl hb' hb
          obtain ⟨hpl, hpr, hbp, hbp1, hbp2⟩ := hrl
          simp only [h0', h4, if_false, doubleR, ok, ht]
          refine ⟨⟨⟨hl, hpl, ?_, ?_, ?_⟩, ⟨hpr, hrr, ?_, ?_, ?_⟩, ?_, ?_, ?_⟩, ?_⟩ <;> first | omega | (split <;> omega) | (simp; omega)
theorem shrinkR_ok {s : Nat} {l r : BT} {k v b : Int} {h0 : Nat} (hl : ok l) (hr : ok r) (hb : b = (h0 : Int) - ht l) (hb1 : -1 ≤ b) (hb2 : b ≤ 1) (hg : ht r + 1 = h0) :
    ok (shrinkR (.node s l k v b r)).1 ∧ ht (shrinkR (.node s l k v b r)).1 + (if (shrinkR (.node s l k v b r)).2 then 1 else 0) = max (ht l) h0 + 1 := by
  unfold shrinkR
  by_cases h1 : b = 0
  · subst h1
    simp only [if_true, ok, ht]
    exact ⟨⟨hl, hr, by omega, by omega, by omega⟩, by simp; omega⟩
  · by_cases h2 : b = 1
    · subst h2
      simp only [h1, if_false, if_true, ok, ht]
      exact ⟨⟨hl, hr, by omega, by omega, by omega⟩, by omega⟩
    · have h3 : b = -1 := by omega
      subst h3
      simp only [h1, h2, if_false]
      obtain ⟨i, rl, k', v', b', rr, rfl⟩ := ht_pos (t := l) (by omega)
      simp only [ok, ht] at hl hb ⊢
      obtain ⟨hrl, hrr, hb', hb1', hb2'⟩ := hl
      by_cases h0' : b' = 0
      · subst h0'
        simp only [if_true, ok, ht]
        exact ⟨⟨hrl, ⟨hrr, hr, by omega, by omega, by omega⟩, by omega, by omega, by omega⟩, by simp; omega⟩
      · by_cases h4 : b' = -1
        · subst h4
          simp only [h0', if_false, if_true, singleL, ok, ht]
          exact ⟨⟨hrl, ⟨hrr, hr, by omega, by omega, by omega⟩, by omega, by omega, by omega⟩, by omega⟩
        · have h5 : b' = 1 := by omega
          subst h5
          obtain ⟨p, pl, kp, vp, bp, pr, rfl⟩ := ht_pos (t := rr) (by omega)
          simp only [ok, ht] at hrr hb' hb
          obtain ⟨hpl, hpr, hbp, hbp1, hbp2⟩ := hrr
          simp only [h0', h4, if_false, doubleL, ok, ht]
          refine ⟨⟨⟨hrl, hpl, ?_, ?_, ?_⟩, ⟨hpr, hr, ?_, ?_, ?_⟩, ?_, ?_, ?_⟩, ?_⟩ <;> first | omega | (split <;> omega) | (simp; omega)
theorem cutMin_ok {t : BT} (h : ok t) (hn : t ≠ .nil) : ok (cutMin t).1 ∧ ht (cutMin t).1 + (if (cutMin t).2 then 1 else 0) = ht t := by
  induction t with
  | nil => exact absurd rfl hn
  | node i l k v b r ihl _ =>
    simp only [ok] at h
    obtain ⟨hl, hr, hb, hb1, hb2⟩ := h
    by_cases hln : l = .nil
    · subst hln; simp [cutMin, hr, ht]
    · obtain ⟨h1, h2⟩ := ihl hl hln
      rw [cutMin_step hln]
      by_cases hf : (cutMin l).2 = true
      · simp only [hf, if_true] at h2 ⊢
        have := shrinkL_ok (s := i) (k := k) (v := v) h1 hr hb hb1 hb2 h2
        exact ⟨this.1, by rw [this.2]; simp only [ht]⟩
      · simp only [hf, if_false, Bool.false_eq_true, Nat.add_zero] at h2 ⊢
        simp only [ok, ht, h2]
        exact ⟨⟨h1, hr, hb, hb1, hb2⟩, trivial⟩
theorem remove_ok {o : Ord} {k : Int} {t : BT} (h : ok t) : ok (remove o k t).1 ∧ ht (remove o k t).1 + (if (remove o k t).2 then 1 else 0) = ht t := by
  induction t with
  | nil => simp [remove, ok, ht]
  | node i l k' v' b r ihl ihr =>
    simp only [ok] at h
    obtain ⟨hl, hr, hb, hb1, hb2⟩ := h
    rcases Int.lt_trichotomy (o.rk k) (o.rk k') with hlt | he | hgt
    · rw [remove_left hlt]
      obtain ⟨h1, h2⟩ := ihl hl
      by_cases hf : (remove o k l).2 = true
      · simp only [hf, if_true] at h2 ⊢
        have := shrinkL_ok (s := i) (k := k') (v := v') h1 hr hb hb1 hb2 h2
        exact ⟨this.1, by rw [this.2]; simp only [ht]⟩
      · simp only [hf, if_false, Bool.false_eq_true, Nat.add_zero] at h2 ⊢
        simp only [ok, ht, h2]
        exact ⟨⟨h1, hr, hb, hb1, hb2⟩, trivial⟩
    · by_cases hrn : r = .nil
      · subst hrn
        rw [remove_last he]
        simp [hl, ht]
      · rw [remove_found he hrn]
        obtain ⟨h1, h2⟩ := cutMin_ok hr hrn
        by_cases hf : (cutMin r).2 = true
        · simp only [hf, if_true] at h2 ⊢
          have := shrinkR_ok (s := i) (k := (minKV r).1) (v := (minKV r).2) hl h1 hb hb1 hb2 h2
          exact ⟨this.1, by rw [this.2]; simp only [ht]⟩
        · simp only [hf, if_false, Bool.false_eq_true, Nat.add_zero] at h2 ⊢
          simp only [ok, ht, h2]
          exact ⟨⟨hl, h1, hb, hb1, hb2⟩, trivial⟩
    · rw [remove_right hgt]
      obtain ⟨h1, h2⟩ := ihr hr
      by_cases hf : (remove o k r).2 = true
      · simp only [hf, if_true] at h2 ⊢
        have := shrinkR_ok (s := i) (k := k') (v := v') hl h1 hb hb1 hb2 h2
        exact ⟨this.1, by rw [this.2]; simp only [ht]⟩
      · simp only [hf, if_false, Bool.false_eq_true, Nat.add_zero] at h2 ⊢
        simp only [ok, ht, h2]
        exact ⟨⟨hl, h1, hb, hb1, hb2⟩, trivial⟩
theorem ids_singleR (t : BT) : (singleR t).ids.Perm t.ids := by
  unfold singleR; split <;> simp [List.perm_iff_count, BT.ids, List.count_cons] <;> omega
theorem ids_singleL (t : BT) : (singleL t).ids.Perm t.ids := by
  unfold singleL; split <;> simp [List.perm_iff_count, BT.ids, List.count_cons] <;> omega
theorem ids_doubleR (t : BT) : (doubleR t).ids.Perm t.ids := by
  unfold doubleR; split <;> simp [List.perm_iff_count, BT.ids, List.count_cons] <;> omega
theorem ids_doubleL (t : BT) : (doubleL t).ids.Perm t.ids := by
  unfold doubleL; split <;> simp [List.perm_iff_count, BT.ids, List.count_cons] <;> omega
theorem ids_growR (t : BT) : (growR t).1.ids.Perm t.ids := by
  unfold growR; split
  · split
    · simp [BT.ids]
    · split
      · simp [BT.ids]
      · split
        · exact ids_singleR _
        · exact ids_doubleR _
  · exact List.Perm.refl _
theorem ids_growL (t : BT) : (growL t).1.ids.Perm t.ids := by
  unfold growL; split
  · split
    · simp [BT.ids]
    · split
      · simp [BT.ids]
      · split
        · exact ids_singleL _
        · exact ids_doubleL _
  · exact List.Perm.refl _
theorem ids_shrinkL (t : BT) : (shrinkL t).1.ids.Perm t.ids := by
  unfold shrinkL; split
  · split
    · simp [BT.ids]
    · split
      · simp [BT.ids]
      · split
        · split
          · simp [List.perm_iff_count, BT.ids, List.count_cons]; omega
          · split
            · dsimp only; exact ids_singleR _
            · dsimp only; exact ids_doubleR _
        · simp [BT.ids]
  · exact List.Perm.refl _
theorem ids_shrinkR (t : BT) : (shrinkR t).1.ids.Perm t.ids := by
  unfold shrinkR; split
  · split
    · simp [BT.ids]
    · split
      · simp [BT.ids]
      · split
        · split
          · simp [List.perm_iff_count, BT.ids, List.count_cons]; omega
          · split
            · dsimp only; exact ids_singleL _
            · dsimp only; exact ids_doubleL _
        · simp [BT.ids]
  · exact List.Perm.refl _
theorem put_left {o : Ord} {n : Nat} {k v : Int} {i : Nat} {l r : BT} {k' v' b : Int} (he : o.rk k < o.rk k') :
    put o n k v (.node i l k' v' b r) = if (put o n k v l).2 then growL (.node i (put o n k v l).1 k' v' b r) else (.node i (put o n k v l).1 k' v' b r, false) := by
  rw [put, if_neg (by omega), if_pos he]
theorem put_right {o : Ord} {n : Nat} {k v : Int} {i : Nat} {l r : BT} {k' v' b : Int} (he : o.rk k' < o.rk k) :
    put o n k v (.node i l k' v' b r) = if (put o n k v r).2 then growR (.node i l k' v' b (put o n k v r).1) else (.node i l k' v' b (put o n k v r).1, false) := by
  rw [put, if_neg (by omega), if_neg (by omega)]
theorem put_here {o : Ord} {n : Nat} {k v : Int} {i : Nat} {l r : BT} {k' v' b : Int} (he : o.rk k = o.rk k') :
    put o n k v (.node i l k' v' b r) = (.node i l k v b r, false) := by
  rw [put, if_pos he]
theorem mem_ids_put {o : Ord} {n : Nat} {k v : Int} {t : BT} {b : Nat} (h : b ∈ (put o n k v t).1.ids) : b = n ∨ b ∈ t.ids := by
  induction t with
  | nil => simpa [put, BT.ids] using h
  | node i l k' v' c r ihl ihr =>
    rcases Int.lt_trichotomy (o.rk k) (o.rk k') with hlt | he | hgt
    · rw [put_left hlt] at h
      have h' : b ∈ (BT.node i (put o n k v l).1 k' v' c r).ids := by
        split at h
        · exact (ids_growL _).mem_iff.1 h
        · exact h
      simp only [BT.ids, List.mem_cons, List.mem_append] at h' ⊢
      rcases h' with h' | h' | h'
      · exact .inr (.inl h')
      · rcases ihl h' with h' | h'
        · exact .inl h'
        · exact .inr (.inr (.inl h'))
      · exact .inr (.inr (.inr h'))
    · rw [put_here he] at h
      exact .inr (by simpa [BT.ids] using h)
    · rw [put_right hgt] at h
      have h' : b ∈ (BT.node i l k' v' c (put o n k v r).1).ids := by
        split at h
        · exact (ids_growR _).mem_iff.1 h
        · exact h
      simp only [BT.ids, List.mem_cons, List.mem_append] at h' ⊢
      rcases h' with h' | h' | h'
      · exact .inr (.inl h')
      · exact .inr (.inr (.inl h'))
      · rcases ihr h' with h' | h'
        · exact .inl h'
        · exact .inr (.inr (.inr h'))
theorem mem_ids_cutMin {t : BT} {b : Nat} (h : b ∈ (cutMin t).1.ids) : b ∈ t.ids := by
  induction t with
  | nil => exact h
  | node i l k v c r ihl _ =>
    by_cases hl : l = .nil
    · subst hl
      simp only [cutMin] at h
      simp [BT.ids, h]
    · rw [cutMin_step hl] at h
      have h' : b ∈ (BT.node i (cutMin l).1 k v c r).ids := by
        split at h
        · exact (ids_shrinkL _).mem_iff.1 h
        · exact h
      simp only [BT.ids, List.mem_cons, List.mem_append] at h' ⊢
      rcases h' with h' | h' | h'
      · exact .inl h'
      · exact .inr (.inl (ihl h'))
      · exact .inr (.inr h')
theorem mem_ids_remove {o : Ord} {k : Int} {t : BT} {b : Nat} (h : b ∈ (remove o k t).1.ids) : b ∈ t.ids := by
  induction t with
  | nil => exact h
  | node i l k' v' c r ihl ihr =>
    rcases Int.lt_trichotomy (o.rk k) (o.rk k') with hlt | he | hgt
    · rw [remove_left hlt] at h
      have h' : b ∈ (BT.node i (remove o k l).1 k' v' c r).ids := by
        split at h
        · exact (ids_shrinkL _).mem_iff.1 h
        · exact h
      simp only [BT.ids, List.mem_cons, List.mem_append] at h' ⊢
      rcases h' with h' | h' | h'
      · exact .inl h'
      · exact .inr (.inl (ihl h'))
      · exact .inr (.inr h')
    · by_cases hr : r = .nil
      · subst hr
        rw [remove_last he] at h
        simp [BT.ids, h]
      · rw [remove_found he hr] at h
        have h' : b ∈ (BT.node i l (minKV r).1 (minKV r).2 c (cutMin r).1).ids := by
          split at h
          · exact (ids_shrinkR _).mem_iff.1 h
          · exact h
        simp only [BT.ids, List.mem_cons, List.mem_append] at h' ⊢
        rcases h' with h' | h' | h'
        · exact .inl h'
        · exact .inr (.inl h')
        · exact .inr (.inr (mem_ids_cutMin h'))
    · rw [remove_right hgt] at h
      have h' : b ∈ (BT.node i l k' v' c (remove o k r).1).ids := by
        split at h
        · exact (ids_shrinkR _).mem_iff.1 h
        · exact h
      simp only [BT.ids, List.mem_cons, List.mem_append] at h' ⊢
      rcases h' with h' | h' | h'
      · exact .inl h'
      · exact .inr (.inl h')
      · exact .inr (.inr (ihr h'))
def has (o : Ord) (k : Int) : BT → Bool
  | .nil => false
  | .node _ l k' _ _ r => if o.rk k = o.rk k' then true else if o.rk k < o.rk k' then has o k l else has o k r
theorem has_left {o : Ord} {k : Int} {i : Nat} {l r : BT} {k' v' b : Int} (he : o.rk k < o.rk k') : has o k (.node i l k' v' b r) = has o k l := by
  rw [has, if_neg (by omega), if_pos he]
theorem has_right {o : Ord} {k : Int} {i : Nat} {l r : BT} {k' v' b : Int} (he : o.rk k' < o.rk k) : has o k (.node i l k' v' b r) = has o k r := by
  rw [has, if_neg (by omega), if_neg (by omega)]
theorem has_here {o : Ord} {k : Int} {i : Nat} {l r : BT} {k' v' b : Int} (he : o.rk k = o.rk k') : has o k (.node i l k' v' b r) = true := by
  rw [has, if_pos he]
theorem has_look {o : Ord} {k : Int} {t : BT} (h : Asc o t.kvs) : has o k t = (look o k t.kvs).isSome := by
  induction t with
  | nil => rfl
  | node i l k' v' c r ihl ihr =>
    have hm := asc_mid.1 h
    rcases Int.lt_trichotomy (o.rk k) (o.rk k') with hlt | he | hgt
    · rw [has_left hlt, ihl hm.1]; simp only [BT.kvs]; rw [look_behind hlt]
    · rw [has_here he]; simp only [BT.kvs]; rw [look_here hm.2.2.1 he]; rfl
    · rw [has_right hgt, ihr hm.2.1]; simp only [BT.kvs]; rw [look_right hm.2.2.1 hgt]
end Go.Proofs.YtbdcepkahdecjaaGreat.Avl
