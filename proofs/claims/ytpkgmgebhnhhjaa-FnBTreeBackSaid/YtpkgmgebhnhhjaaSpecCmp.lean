/-
  The reference's rest, Compare, OrderOk, At and Has.
-/
import Derived.Test.YtpkgmgebhnhhjaaRows0
import Derived.Test.YtpkgmgebhnhhjaaPures
import Derived.Deep.RegionHeld3
import Derived.Deep.RegionHeldLaw
import Derived.Deep.RegionLaw
namespace Go.Proofs.Ytpkgmgebhnhhjaa
open Go.RowKit

theorem srest_any (n m : Int) (w : World) (h1 : 1 ≤ m) (h2 : m ≤ 1000) : Calls Try.prog 51 #[.int .i64 n, .int .i64 m] w fun e w' => e = .returned (.int .i64 (n % m)) ∧ w = w' := by
  have hb := tmod_bd n m h1
  have ht := Int.tmod_eq_emod (a := n) (b := m)
  have hd := Int.emod_nonneg n (b := m) (by omega)
  have hl := Int.emod_lt_of_pos n (b := m) (by omega)
  rcases Int.lt_or_le (n.tmod m) 0 with hc | hc
  · have hr := Lib.hid (show n % m = n.tmod m + m by rw [ht] at hc ⊢; split at hc <;> split <;> omega)
    clear ht hd hl
    go_enter Try.func51, Try.ntmps51
    go_wp2_with fail
    go_ret
    exact ⟨by rw [hr.out]; rfl, rfl⟩
  · have hr := Lib.hid (show n % m = n.tmod m by rw [ht] at hc ⊢; split at hc <;> split <;> omega)
    have hc' : ¬ n.tmod m < 0 := by omega
    clear ht hd hl
    go_enter Try.func51, Try.ntmps51
    go_wp2_with fail
    go_ret
    exact ⟨by rw [hr.out]; rfl, rfl⟩

/-- The order's numbers, as the reference reckons them. -/
theorem scompare_any (o : Ord) (ho : o.fine) (a b : Int) (w : World) : Calls Try.prog 35 #[.agg #[.int .i64 o.kind, .int .i64 o.m], .int .i64 a, .int .i64 b] w fun e w' => e = .returned (.int .i64 (o.cmp a b)) ∧ Below w.heap.size w w' := by
  obtain ⟨kd, m⟩ := o
  rcases ho with hk | hk | ⟨hk, hm1, hm2⟩
  · simp only at hk; subst hk
    have hc := Lib.hid (show (⟨0, m⟩ : Ord).cmp a b = sg a b by simp [Ord.cmp, Ord.rk])
    rcases sg_cases a b with ⟨h, e⟩ | ⟨h, e⟩ | ⟨h, e⟩
    · have E := Lib.hid e
      clear e
      go_enter Try.func35, Try.ntmps35
      go_wp2_with fail
      go_ret
      exact ⟨by rw [hc.out, E.out]; rfl, (Below.refl _ _).alloc (Nat.le_refl _) _⟩
    · have E := Lib.hid e
      clear e
      subst h
      go_enter Try.func35, Try.ntmps35
      go_wp2_with fail
      go_ret
      exact ⟨by rw [hc.out, E.out]; rfl, (Below.refl _ _).alloc (Nat.le_refl _) _⟩
    · have E := Lib.hid e
      have h' : ¬ a < b := by omega
      clear e
      go_enter Try.func35, Try.ntmps35
      go_wp2_with fail
      go_ret
      exact ⟨by rw [hc.out, E.out]; rfl, (Below.refl _ _).alloc (Nat.le_refl _) _⟩
  · simp only at hk; subst hk
    have hc := Lib.hid (show (⟨1, m⟩ : Ord).cmp a b = sg b a by
      simp only [Ord.cmp, Ord.rk, if_true]
      rcases sg_cases (-a) (-b) with ⟨h, e⟩ | ⟨h, e⟩ | ⟨h, e⟩ <;> rcases sg_cases b a with ⟨h', e'⟩ | ⟨h', e'⟩ | ⟨h', e'⟩ <;> omega)
    rcases sg_cases b a with ⟨h, e⟩ | ⟨h, e⟩ | ⟨h, e⟩
    · have E := Lib.hid e
      clear e
      go_enter Try.func35, Try.ntmps35
      go_wp2_with fail
      go_ret
      exact ⟨by rw [hc.out, E.out]; rfl, (Below.refl _ _).alloc (Nat.le_refl _) _⟩
    · have E := Lib.hid e
      clear e
      subst h
      go_enter Try.func35, Try.ntmps35
      go_wp2_with fail
      go_ret
      exact ⟨by rw [hc.out, E.out]; rfl, (Below.refl _ _).alloc (Nat.le_refl _) _⟩
    · have E := Lib.hid e
      have h' : ¬ b < a := by omega
      clear e
      go_enter Try.func35, Try.ntmps35
      go_wp2_with fail
      go_ret
      exact ⟨by rw [hc.out, E.out]; rfl, (Below.refl _ _).alloc (Nat.le_refl _) _⟩
  · simp only at hk hm1 hm2; subst hk
    have h1 := hm1
    have h2 := hm2
    have hc := Lib.hid (show (⟨2, m⟩ : Ord).cmp a b = sg (a % m) (b % m) by simp [Ord.cmp, Ord.rk])
    rcases sg_cases (a % m) (b % m) with ⟨h, e⟩ | ⟨h, e⟩ | ⟨h, e⟩
    · have E := Lib.hid e
      clear e
      go_enter Try.func35, Try.ntmps35
      go_wp2_with fail
      have hb0 : Blk (w.alloc (.cells #[.int .i64 2, .int .i64 m] 23)) w.heap.size 23 #[.int .i64 2, .int .i64 m] := Blk.new _ _ _
      have hc1 := hb0.cell 1
      have B0 := Lib.hid (show Below w.heap.size w (w.alloc (.cells #[.int .i64 2, .int .i64 m] 23)) from (Below.refl _ _).alloc (Nat.le_refl _) _)
      clear hb0
      generalize w.alloc (.cells #[.int .i64 2, .int .i64 m] 23) = w1 at *
      go_quiet ((go_at_call 51; exact quiet_left (srest_any _ _ _ h1 h2)))
      go_wp2_with fail
      go_ret
      exact ⟨by rw [hc.out, E.out]; rfl, Below.drewN' B0.out _⟩
    · have E := Lib.hid e
      have h3 := Lib.hid h
      have h4 : ¬ a % m < b % m := by omega
      have h5 : ¬ b % m < a % m := by omega
      clear e h
      go_enter Try.func35, Try.ntmps35
      go_wp2_with fail
      have hb0 : Blk (w.alloc (.cells #[.int .i64 2, .int .i64 m] 23)) w.heap.size 23 #[.int .i64 2, .int .i64 m] := Blk.new _ _ _
      have hc1 := hb0.cell 1
      have B0 := Lib.hid (show Below w.heap.size w (w.alloc (.cells #[.int .i64 2, .int .i64 m] 23)) from (Below.refl _ _).alloc (Nat.le_refl _) _)
      clear hb0
      generalize w.alloc (.cells #[.int .i64 2, .int .i64 m] 23) = w1 at *
      go_quiet ((go_at_call 51; exact quiet_left (srest_any _ _ _ h1 h2)))
      go_wp2_with fail
      go_ret
      exact ⟨by rw [hc.out, E.out]; rfl, Below.drewN' B0.out _⟩
    · have E := Lib.hid e
      have h' : ¬ a % m < b % m := by omega
      clear e
      go_enter Try.func35, Try.ntmps35
      go_wp2_with fail
      have hb0 : Blk (w.alloc (.cells #[.int .i64 2, .int .i64 m] 23)) w.heap.size 23 #[.int .i64 2, .int .i64 m] := Blk.new _ _ _
      have hc1 := hb0.cell 1
      have B0 := Lib.hid (show Below w.heap.size w (w.alloc (.cells #[.int .i64 2, .int .i64 m] 23)) from (Below.refl _ _).alloc (Nat.le_refl _) _)
      clear hb0
      generalize w.alloc (.cells #[.int .i64 2, .int .i64 m] 23) = w1 at *
      go_quiet ((go_at_call 51; exact quiet_left (srest_any _ _ _ h1 h2)))
      go_wp2_with fail
      go_ret
      exact ⟨by rw [hc.out, E.out]; rfl, Below.drewN' B0.out _⟩

theorem cmp_lt {o : Ord} {a b : Int} (h : o.rk a < o.rk b) : o.cmp a b = -1 := by unfold Ord.cmp sg; rw [if_pos h]
theorem cmp_eq {o : Ord} {a b : Int} (h : o.rk a = o.rk b) : o.cmp a b = 0 := by unfold Ord.cmp sg; rw [if_neg (by omega), if_neg (by omega)]
theorem cmp_gt {o : Ord} {a b : Int} (h : o.rk b < o.rk a) : o.cmp a b = 1 := by unfold Ord.cmp sg; rw [if_neg (by omega), if_pos h]
theorem cmp_of {o : Ord} {a b : Int} : (o.rk a < o.rk b ∧ o.cmp a b = -1) ∨ (o.rk a = o.rk b ∧ o.cmp a b = 0) ∨ (o.rk b < o.rk a ∧ o.cmp a b = 1) := sg_cases _ _

/-! Lists of pairs in memory -/

def prCells (l : KV) : List Value := l.flatMap fun p => [.int .i64 p.1, .int .i64 p.2]
theorem prCells_length (l : KV) : (prCells l).length = l.length * 2 := by
  induction l with
  | nil => rfl
  | cons d l ih => simp only [prCells, List.flatMap_cons, List.length_append] at ih ⊢; rw [ih]; simp; omega
theorem prCells_append (l r : KV) : prCells (l ++ r) = prCells l ++ prCells r := by simp [prCells]
theorem prCells_one (l : KV) : ∀ u ∈ prCells l, u.oneCell' = true := by
  intro u hu
  simp only [prCells, List.mem_flatMap] at hu
  obtain ⟨d, _, hd⟩ := hu
  simp at hd
  rcases hd with rfl | rfl <;> rfl
theorem prCells_get {l : KV} {i : Nat} {p : Int × Int} (h : l[i]? = some p) : (prCells l)[i * 2]? = some (.int .i64 p.1) ∧ (prCells l)[i * 2 + 1]? = some (.int .i64 p.2) := by
  induction l generalizing i with
  | nil => simp at h
  | cons x l ih =>
    cases i with
    | zero => simp at h; subst h; simp [prCells]
    | succ i =>
      simp at h
      have := ih h
      have e : ∀ j, (prCells (x :: l))[(i + 1) * 2 + j]? = (prCells l)[i * 2 + j]? := fun j => by
        have : (i + 1) * 2 + j = (i * 2 + j) + 2 := by omega
        rw [this]
        simp [prCells]
      exact ⟨(e 0).trans this.1, (e 1).trans this.2⟩
theorem prCells_take (l : KV) (k : Nat) : prCells (l.take k) = (prCells l).take (k * 2) := by
  induction l generalizing k with
  | nil => simp [prCells]
  | cons x l ih =>
    cases k with
    | zero => simp [prCells]
    | succ k =>
      have := ih k
      simp only [prCells] at this
      simp only [prCells, List.take_succ_cons, List.flatMap_cons, this, show (k + 1) * 2 = k * 2 + 1 + 1 by omega, List.cons_append, List.nil_append]
theorem prCells_drop (l : KV) (k : Nat) : prCells (l.drop k) = (prCells l).drop (k * 2) := by
  induction l generalizing k with
  | nil => simp [prCells]
  | cons x l ih =>
    cases k with
    | zero => simp [prCells]
    | succ k =>
      have := ih k
      simp only [prCells] at this
      simp only [prCells, List.drop_succ_cons, List.flatMap_cons, this, show (k + 1) * 2 = k * 2 + 1 + 1 by omega, List.cons_append, List.nil_append]
/-- A pair's cells, as the walk spells them. -/
theorem RowAt.pair {w : World} {B : Nat} {A : Option Addr} {l : KV} (h : RowAt w B A (prCells l)) {i : Nat} {p : Int × Int} (hp : l[i]? = some p) :
    ∃ a, A = some a ∧ a.block < B ∧ w.cell? (a.add (i * 2)) = some (.int .i64 p.1) ∧ w.cell? ⟨(a.add (i * 2)).block, (a.add (i * 2)).off + 1, none⟩ = some (.int .i64 p.2) := by
  obtain ⟨g0, g1⟩ := prCells_get hp
  obtain ⟨a, rfl, hb, h0⟩ := h _ _ g0
  obtain ⟨a', ha', _, h1⟩ := h _ _ g1
  injection ha' with ha'
  subst ha'
  exact ⟨a, rfl, hb, h0, by rw [← add_succ _ _ _ (by omega)]; exact h1⟩

/-! The place of a number -/

theorem keepS {w1 w2 : World} {g : Nat} {t : TypeId} {x y : Value} {p : Addr} {v : Value} (b : Below w1.heap.size w1 w2) (h : Blk w1 g t #[x, y]) (hp : w1.cell? p = some v) :
    w2.cell? ⟨g, 0, none⟩ = some x ∧ w2.cell? ⟨g, 1, none⟩ = some y ∧ w2.cell? p = some v := by
  have h2 := h.below b h.lt
  exact ⟨h2.cell 0, h2.cell 1, (b.cell (World.block_lt_of_cell? _ _ hp)).trans hp⟩

set_option maxRecDepth 100000 in
theorem at_walk (o : Ord) (ho : o.fine) (k : Int) (n cap : Nat) (A : Option Addr) (l : KV) (w : World) (hn : l.length = n) (hn1 : n ≤ 100000) (hr : RowAt w w.heap.size A (prCells l)) :
    Calls Try.prog 52 #[.agg #[.int .i64 o.kind, .int .i64 o.m], .slice A n cap, .int .i64 k] w fun e w' => e = .returned (.int .i64 (plc o k l)) ∧ Below w.heap.size w w' := by
  have hle := plc_le o k l
  have Hr := Lib.hid hr
  clear hr
  go_enter Try.func52, Try.ntmps52
  go_wp2_with fail
  go_loopw [7] (fun i wr => ∃ j : Nat, j ≤ plc o k l ∧ i = .int .i64 j ∧ Below w.heap.size (w.alloc (.cells #[.int .i64 o.kind, .int .i64 o.m] 23)) wr ∧ Blk wr w.heap.size 23 #[.int .i64 o.kind, .int .i64 o.m]) (fun i _ => plc o k l - (intOf i).toNat)
  case atStart => exact ⟨0, Nat.zero_le _, rfl, Below.refl _ _, Blk.new _ _ _⟩
  case round =>
    obtain ⟨j, hj, rfl, hw, hb⟩ := hrel
    have hw0 : Below w.heap.size w wr := ((Below.refl _ _).alloc (Nat.le_refl _) _).trans hw
    by_cases hlt : j < plc o k l
    · obtain ⟨p, hp⟩ : ∃ p, l[j]? = some p := ⟨_, List.getElem?_eq_getElem (by omega)⟩
      obtain ⟨a, rfl, hab, hc0, _⟩ := (Hr.out.below hw0).pair hp
      have hc1 := hb.cell 0
      have hc2 := hb.cell 1
      have c := fun w1 => scompare_any o ho p.1 k w1
      rw [cmp_lt (plc_lt hlt hp)] at c
      have C := Lib.hid c
      have HB := Lib.hid hb
      have HW := Lib.hid hw
      have hjn : (j : Int) < (n : Int) := by omega
      have hj0 : (0 : Int) ≤ (j : Int) := by omega
      have hdj : decide ((j : Int) < (n : Int)) = true := decide_eq_true hjn
      have HJ := Lib.hid hj
      have HL := Lib.hid hlt
      have HE := Lib.hid hle
      have HN := Lib.hid hn
      simp only [List.getElem?_toArray, List.getElem?_cons_zero, List.getElem?_cons_succ] at hc1 hc2
      clear c hb hw hw0 hp hj hlt hle hn
      go_wp2_with fail
      go_region_held3 (fun w' => w'.cell? ⟨w.heap.size, 0, none⟩ = some (.int .i64 o.kind) ∧ w'.cell? ⟨w.heap.size, 1, none⟩ = some (.int .i64 o.m) ∧ w'.cell? (a.add (j * 2)) = some (.int .i64 p.1)) (first | exact ⟨hc1, hc2, hc0⟩ | exact K3.out)
        (first | (go_at_call 35; refine (C.out _).mono ?_; rintro e w1 ⟨rfl, b1⟩; have K3 := Lib.hid (keepS b1 HB.out.drew hc0); have B1 := Lib.hid b1; clear b1))
      go_wp2_with fail
      go_roundw
      case rel => exact ⟨j + 1, HL.out, by go_num, HW.out.drew.trans (B1.out.mono (Nat.le_of_lt HB.out.lt)), HB.out.drew.below B1.out HB.out.lt⟩
      case measure => have := HL.out; simp [intOf]; omega
    · have hj : j = plc o k l := by omega
      have hc1 : wr.cell? ⟨w.heap.size, 0, none⟩ = some (.int .i64 o.kind) := hb.cell 0
      have hc2 : wr.cell? ⟨w.heap.size, 1, none⟩ = some (.int .i64 o.m) := hb.cell 1
      have HB := Lib.hid hb
      have HW := Lib.hid hw0
      rcases Nat.lt_or_ge j n with hjn | hjn
      · obtain ⟨p, hp⟩ : ∃ p, l[j]? = some p := ⟨_, List.getElem?_eq_getElem (by omega)⟩
        obtain ⟨a, rfl, hab, hc0, _⟩ := (Hr.out.below hw0).pair hp
        have c := fun w1 => scompare_any o ho p.1 k w1
        have hst := plc_stop (o := o) (k := k) (l := l) (p := p) (by rw [← hj]; exact hp)
        have hc3 : ∃ x : Int, 0 ≤ x ∧ o.cmp p.1 k = x := ⟨o.cmp p.1 k, by have := sg_neg (x := o.rk p.1) (y := o.rk k); unfold Ord.cmp; omega, rfl⟩
        obtain ⟨x, hx0, hx⟩ := hc3
        rw [hx] at c
        have C := Lib.hid c
        have hj0 : (0 : Int) ≤ (j : Int) := by omega
        have hjn' : (j : Int) < (n : Int) := by omega
        have hdj : decide ((j : Int) < (n : Int)) = true := decide_eq_true hjn'
        have hdx : decide (x < 0) = false := decide_eq_false (by omega)
        have HJ := Lib.hid hj
        clear c hb hw hw0 hp hst hx hj hlt hle hn hjn
        go_wp2_with fail
        go_region_held3 (fun w' => w'.cell? ⟨w.heap.size, 0, none⟩ = some (.int .i64 o.kind) ∧ w'.cell? ⟨w.heap.size, 1, none⟩ = some (.int .i64 o.m) ∧ w'.cell? (a.add (j * 2)) = some (.int .i64 p.1)) (first | exact ⟨hc1, hc2, hc0⟩ | exact K3.out)
          (first | (go_at_call 35; refine (C.out _).mono ?_; rintro e w1 ⟨rfl, b1⟩; have K3 := Lib.hid (keepS b1 HB.out.drew hc0); have B1 := Lib.hid b1; clear b1))
        go_wp2_with fail
        go_ret
        exact ⟨by rw [← HJ.out]; rfl, HW.out.drew.trans (B1.out.mono (Nat.le_of_lt HB.out.lt))⟩
      · have hdj : decide (j < n) = false := decide_eq_false (by omega)
        have HJ := Lib.hid hj
        clear hb hw hw0 hj hlt hle hn hjn
        go_wp2_with fail
        go_quiet (fail)
        go_wp2_with fail
        go_ret
        exact ⟨by rw [← HJ.out]; rfl, Below.drewN' HW.out _⟩


/-- The reference's Has, at the place of the number. -/
theorem has_walk (o : Ord) (ho : o.fine) (k : Int) (n cap : Nat) (A : Option Addr) (l : KV) (w : World) (hn : l.length = n) (hr : RowAt w w.heap.size A (prCells l)) :
    Calls Try.prog 53 #[.agg #[.int .i64 o.kind, .int .i64 o.m], .slice A n cap, .int .i64 (plc o k l), .int .i64 k] w fun e w' => e = .returned (.bool (hasK o k l)) ∧ Below w.heap.size w w' := by
  have hle := plc_le o k l
  have hb : Blk (w.alloc (.cells #[.int .i64 o.kind, .int .i64 o.m] 23)) w.heap.size 23 #[.int .i64 o.kind, .int .i64 o.m] := Blk.new _ _ _
  have hw : Below w.heap.size w (w.alloc (.cells #[.int .i64 o.kind, .int .i64 o.m] 23)) := (Below.refl _ _).alloc (Nat.le_refl _) _
  have hc1 : (w.alloc (.cells #[.int .i64 o.kind, .int .i64 o.m] 23)).cell? ⟨w.heap.size, 0, none⟩ = some (.int .i64 o.kind) := hb.cell 0
  have hc2 : (w.alloc (.cells #[.int .i64 o.kind, .int .i64 o.m] 23)).cell? ⟨w.heap.size, 1, none⟩ = some (.int .i64 o.m) := hb.cell 1
  have HB := Lib.hid hb
  have HW := Lib.hid hw
  rcases Nat.lt_or_ge (plc o k l) n with hjn | hjn
  · obtain ⟨p, hp⟩ : ∃ p, l[plc o k l]? = some p := ⟨_, List.getElem?_eq_getElem (by omega)⟩
    obtain ⟨a, rfl, hab, hc0, _⟩ := (hr.below hw).pair hp
    have c := fun w1 => scompare_any o ho p.1 k w1
    have hh : hasK o k l = decide (o.rk p.1 = o.rk k) := by unfold hasK; rw [hp]
    have hb2 : hasK o k l = (o.cmp p.1 k == 0) := by
      rw [hh]
      have := sg_zero (x := o.rk p.1) (y := o.rk k)
      unfold Ord.cmp
      by_cases e : o.rk p.1 = o.rk k
      · rw [decide_eq_true e, (this.2 e)]; rfl
      · rw [decide_eq_false e]
        have h3 : ¬ sg (o.rk p.1) (o.rk k) = 0 := fun h => e (this.1 h)
        simp [h3]
    generalize o.cmp p.1 k = x at *
    have C := Lib.hid c
    have H2 := Lib.hid hb2
    generalize plc o k l = j at *
    have hj0 : (0 : Int) ≤ (j : Int) := by omega
    have hjn' : (j : Int) < (n : Int) := by omega
    have hdj : decide ((j : Int) < (n : Int)) = true := decide_eq_true hjn'
    clear c hb hw hp hh hb2 hle hn hjn hr
    go_enter Try.func53, Try.ntmps53
    go_wp2_with fail
    go_region_held3 (fun w' => w'.cell? ⟨w.heap.size, 0, none⟩ = some (.int .i64 o.kind) ∧ w'.cell? ⟨w.heap.size, 1, none⟩ = some (.int .i64 o.m) ∧ w'.cell? (a.add (j * 2)) = some (.int .i64 p.1)) (first | exact ⟨hc1, hc2, hc0⟩ | exact K3.out)
      (first | (go_at_call 35; refine (C.out _).mono ?_; rintro e w1 ⟨rfl, b1⟩; have K3 := Lib.hid (keepS b1 HB.out.drew hc0); have B1 := Lib.hid b1; clear b1))
    go_wp2_with fail
    go_ret
    exact ⟨by rw [H2.out]; rfl, HW.out.drew.trans (B1.out.mono (Nat.le_of_lt HB.out.lt))⟩
  · have hdj : decide (plc o k l < n) = false := decide_eq_false (by omega)
    have hh : hasK o k l = false := by unfold hasK; rw [List.getElem?_eq_none (by omega)]
    have H2 := Lib.hid hh
    generalize plc o k l = j at *
    clear hb hw hh hle hn hjn
    go_enter Try.func53, Try.ntmps53
    go_wp2_with fail
    go_quiet (fail)
    go_wp2_with fail
    go_ret
    exact ⟨by rw [H2.out]; rfl, Below.drewN' HW.out _⟩

end Go.Proofs.Ytpkgmgebhnhhjaa
